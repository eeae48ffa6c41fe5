/- Part 4 of the proof of the readers and the guards. No conditions. -/
import Derived.Test.YtmdpodeegdjkeaaGreatDoorU0
import Derived.Test.YtmdpodeegdjkeaaGreatDoorU3
set_option maxRecDepth 100000
set_option maxHeartbeats 3200000
namespace Go.Proofs.YtmdpodeegdjkeaaGreatDoor
open Go Go.RowKit Go.Lib Tryz
theorem xlK (v:Value) (W:World):(Instr.typeAssert (.iface 26 v) 20 26 true).run prog W = .ok (.tuple #[v,.bool true]) W:=by kernel_rfl
theorem xaI {T:TypeId} (v:Value) (W:World) (h:T≠26):(Instr.typeAssert (.iface T v) 20 26 true).run prog W = .ok (.tuple #[.slice none 0 0,.bool false]) W:=by
 have e:(Instr.typeAssert (.iface T v) 20 26 true).run prog W=(if T=26 then (pure (Value.tuple #[v,.bool true]):Sem Value) else (do pure (Value.tuple #[<- zeroValue 26,.bool false]))).run prog W:=by kernel_rfl
 have hz:(do pure (Value.tuple #[<- zeroValue 26,.bool false]):Sem Value).run prog W = .ok (.tuple #[.slice none 0 0,.bool false]) W:=by kernel_rfl
 rw [e,if_neg h];exact hz
theorem xns (v:Value) (W:World):(Instr.typeAssert (.iface 76 v) 20 76 true).run prog W = .ok (.tuple #[v,.bool true]) W:=by kernel_rfl
theorem xaV {T:TypeId} (v:Value) (W:World) (h:T≠76):(Instr.typeAssert (.iface T v) 20 76 true).run prog W = .ok (.tuple #[.slice none 0 0,.bool false]) W:=by
 have e:(Instr.typeAssert (.iface T v) 20 76 true).run prog W=(if T=76 then (pure (Value.tuple #[v,.bool true]):Sem Value) else (do pure (Value.tuple #[<- zeroValue 76,.bool false]))).run prog W:=by kernel_rfl
 have hz:(do pure (Value.tuple #[<- zeroValue 76,.bool false]):Sem Value).run prog W = .ok (.tuple #[.slice none 0 0,.bool false]) W:=by kernel_rfl
 rw [e,if_neg h];exact hz
theorem xoV (v:Value) (W:World):(Instr.typeAssert (.iface 127 v) 20 127 true).run prog W = .ok (.tuple #[v,.bool true]) W:=by kernel_rfl
theorem xcp {T:TypeId} (v:Value) (W:World) (h:T≠127):(Instr.typeAssert (.iface T v) 20 127 true).run prog W = .ok (.tuple #[.slice none 0 0,.bool false]) W:=by
 have e:(Instr.typeAssert (.iface T v) 20 127 true).run prog W=(if T=127 then (pure (Value.tuple #[v,.bool true]):Sem Value) else (do pure (Value.tuple #[<- zeroValue 127,.bool false]))).run prog W:=by kernel_rfl
 have hz:(do pure (Value.tuple #[<- zeroValue 127,.bool false]):Sem Value).run prog W = .ok (.tuple #[.slice none 0 0,.bool false]) W:=by kernel_rfl
 rw [e,if_neg h];exact hz
theorem xgQ (v:Value) (W:World):(Instr.typeAssert (.iface 115 v) 20 115 true).run prog W = .ok (.tuple #[v,.bool true]) W:=by kernel_rfl
theorem xat {T:TypeId} (v:Value) (W:World) (h:T≠115):(Instr.typeAssert (.iface T v) 20 115 true).run prog W = .ok (.tuple #[.slice none 0 0,.bool false]) W:=by
 have e:(Instr.typeAssert (.iface T v) 20 115 true).run prog W=(if T=115 then (pure (Value.tuple #[v,.bool true]):Sem Value) else (do pure (Value.tuple #[<- zeroValue 115,.bool false]))).run prog W:=by kernel_rfl
 have hz:(do pure (Value.tuple #[<- zeroValue 115,.bool false]):Sem Value).run prog W = .ok (.tuple #[.slice none 0 0,.bool false]) W:=by kernel_rfl
 rw [e,if_neg h];exact hz
theorem xnl (v:Value) (W:World):(Instr.typeAssert (.iface 118 v) 20 118 true).run prog W = .ok (.tuple #[v,.bool true]) W:=by kernel_rfl
theorem xbA {T:TypeId} (v:Value) (W:World) (h:T≠118):(Instr.typeAssert (.iface T v) 20 118 true).run prog W = .ok (.tuple #[.slice none 0 0,.bool false]) W:=by
 have e:(Instr.typeAssert (.iface T v) 20 118 true).run prog W=(if T=118 then (pure (Value.tuple #[v,.bool true]):Sem Value) else (do pure (Value.tuple #[<- zeroValue 118,.bool false]))).run prog W:=by kernel_rfl
 have hz:(do pure (Value.tuple #[<- zeroValue 118,.bool false]):Sem Value).run prog W = .ok (.tuple #[.slice none 0 0,.bool false]) W:=by kernel_rfl
 rw [e,if_neg h];exact hz
theorem xnp (v:Value) (W:World):(Instr.typeAssert (.iface 130 v) 20 130 true).run prog W = .ok (.tuple #[v,.bool true]) W:=by kernel_rfl
theorem xck {T:TypeId} (v:Value) (W:World) (h:T≠130):(Instr.typeAssert (.iface T v) 20 130 true).run prog W = .ok (.tuple #[.slice none 0 0,.bool false]) W:=by
 have e:(Instr.typeAssert (.iface T v) 20 130 true).run prog W=(if T=130 then (pure (Value.tuple #[v,.bool true]):Sem Value) else (do pure (Value.tuple #[<- zeroValue 130,.bool false]))).run prog W:=by kernel_rfl
 have hz:(do pure (Value.tuple #[<- zeroValue 130,.bool false]):Sem Value).run prog W = .ok (.tuple #[.slice none 0 0,.bool false]) W:=by kernel_rfl
 rw [e,if_neg h];exact hz
theorem xnk (v:Value) (W:World):(Instr.typeAssert (.iface 121 v) 20 121 true).run prog W = .ok (.tuple #[v,.bool true]) W:=by kernel_rfl
theorem xbH {T:TypeId} (v:Value) (W:World) (h:T≠121):(Instr.typeAssert (.iface T v) 20 121 true).run prog W = .ok (.tuple #[.slice none 0 0,.bool false]) W:=by
 have e:(Instr.typeAssert (.iface T v) 20 121 true).run prog W=(if T=121 then (pure (Value.tuple #[v,.bool true]):Sem Value) else (do pure (Value.tuple #[<- zeroValue 121,.bool false]))).run prog W:=by kernel_rfl
 have hz:(do pure (Value.tuple #[<- zeroValue 121,.bool false]):Sem Value).run prog W = .ok (.tuple #[.slice none 0 0,.bool false]) W:=by kernel_rfl
 rw [e,if_neg h];exact hz
theorem xno (v:Value) (W:World):(Instr.typeAssert (.iface 133 v) 20 133 true).run prog W = .ok (.tuple #[v,.bool true]) W:=by kernel_rfl
theorem xcA {T:TypeId} (v:Value) (W:World) (h:T≠133):(Instr.typeAssert (.iface T v) 20 133 true).run prog W = .ok (.tuple #[.slice none 0 0,.bool false]) W:=by
 have e:(Instr.typeAssert (.iface T v) 20 133 true).run prog W=(if T=133 then (pure (Value.tuple #[v,.bool true]):Sem Value) else (do pure (Value.tuple #[<- zeroValue 133,.bool false]))).run prog W:=by kernel_rfl
 have hz:(do pure (Value.tuple #[<- zeroValue 133,.bool false]):Sem Value).run prog W = .ok (.tuple #[.slice none 0 0,.bool false]) W:=by kernel_rfl
 rw [e,if_neg h];exact hz
theorem xnj (v:Value) (W:World):(Instr.typeAssert (.iface 124 v) 20 124 true).run prog W = .ok (.tuple #[v,.bool true]) W:=by kernel_rfl
theorem xbM {T:TypeId} (v:Value) (W:World) (h:T≠124):(Instr.typeAssert (.iface T v) 20 124 true).run prog W = .ok (.tuple #[.slice none 0 0,.bool false]) W:=by
 have e:(Instr.typeAssert (.iface T v) 20 124 true).run prog W=(if T=124 then (pure (Value.tuple #[v,.bool true]):Sem Value) else (do pure (Value.tuple #[<- zeroValue 124,.bool false]))).run prog W:=by kernel_rfl
 have hz:(do pure (Value.tuple #[<- zeroValue 124,.bool false]):Sem Value).run prog W = .ok (.tuple #[.slice none 0 0,.bool false]) W:=by kernel_rfl
 rw [e,if_neg h];exact hz
theorem xnn (v:Value) (W:World):(Instr.typeAssert (.iface 136 v) 20 136 true).run prog W = .ok (.tuple #[v,.bool true]) W:=by kernel_rfl
theorem xcL {T:TypeId} (v:Value) (W:World) (h:T≠136):(Instr.typeAssert (.iface T v) 20 136 true).run prog W = .ok (.tuple #[.slice none 0 0,.bool false]) W:=by
 have e:(Instr.typeAssert (.iface T v) 20 136 true).run prog W=(if T=136 then (pure (Value.tuple #[v,.bool true]):Sem Value) else (do pure (Value.tuple #[<- zeroValue 136,.bool false]))).run prog W:=by kernel_rfl
 have hz:(do pure (Value.tuple #[<- zeroValue 136,.bool false]):Sem Value).run prog W = .ok (.tuple #[.slice none 0 0,.bool false]) W:=by kernel_rfl
 rw [e,if_neg h];exact hz
theorem xnr (v:Value) (W:World):(Instr.typeAssert (.iface 139 v) 20 139 true).run prog W = .ok (.tuple #[v,.bool true]) W:=by kernel_rfl
theorem xdn {T:TypeId} (v:Value) (W:World) (h:T≠139):(Instr.typeAssert (.iface T v) 20 139 true).run prog W = .ok (.tuple #[.slice none 0 0,.bool false]) W:=by
 have e:(Instr.typeAssert (.iface T v) 20 139 true).run prog W=(if T=139 then (pure (Value.tuple #[v,.bool true]):Sem Value) else (do pure (Value.tuple #[<- zeroValue 139,.bool false]))).run prog W:=by kernel_rfl
 have hz:(do pure (Value.tuple #[<- zeroValue 139,.bool false]):Sem Value).run prog W = .ok (.tuple #[.slice none 0 0,.bool false]) W:=by kernel_rfl
 rw [e,if_neg h];exact hz
theorem xnq (v:Value) (W:World):(Instr.typeAssert (.iface 142 v) 20 142 true).run prog W = .ok (.tuple #[v,.bool true]) W:=by kernel_rfl
theorem xdX {T:TypeId} (v:Value) (W:World) (h:T≠142):(Instr.typeAssert (.iface T v) 20 142 true).run prog W = .ok (.tuple #[.slice none 0 0,.bool false]) W:=by
 have e:(Instr.typeAssert (.iface T v) 20 142 true).run prog W=(if T=142 then (pure (Value.tuple #[v,.bool true]):Sem Value) else (do pure (Value.tuple #[<- zeroValue 142,.bool false]))).run prog W:=by kernel_rfl
 have hz:(do pure (Value.tuple #[<- zeroValue 142,.bool false]):Sem Value).run prog W = .ok (.tuple #[.slice none 0 0,.bool false]) W:=by kernel_rfl
 rw [e,if_neg h];exact hz
theorem xlI (v:Value) (W:World):(Instr.typeAssert (.iface 113 v) 20 113 true).run prog W = .ok (.tuple #[v,.bool true]) W:=by kernel_rfl
theorem xaZ {T:TypeId} (v:Value) (W:World) (h:T≠113):(Instr.typeAssert (.iface T v) 20 113 true).run prog W = .ok (.tuple #[.slice none 0 0,.bool false]) W:=by
 have e:(Instr.typeAssert (.iface T v) 20 113 true).run prog W=(if T=113 then (pure (Value.tuple #[v,.bool true]):Sem Value) else (do pure (Value.tuple #[<- zeroValue 113,.bool false]))).run prog W:=by kernel_rfl
 have hz:(do pure (Value.tuple #[<- zeroValue 113,.bool false]):Sem Value).run prog W = .ok (.tuple #[.slice none 0 0,.bool false]) W:=by kernel_rfl
 rw [e,if_neg h];exact hz
theorem xnm (v:Value) (W:World):(Instr.typeAssert (.iface 153 v) 20 153 true).run prog W = .ok (.tuple #[v,.bool true]) W:=by kernel_rfl
theorem xoZ {T:TypeId} (v:Value) (W:World) (h:T≠153):(Instr.typeAssert (.iface T v) 20 153 true).run prog W = .ok (.tuple #[.slice none 0 0,.bool false]) W:=by
 have e:(Instr.typeAssert (.iface T v) 20 153 true).run prog W=(if T=153 then (pure (Value.tuple #[v,.bool true]):Sem Value) else (do pure (Value.tuple #[<- zeroValue 153,.bool false]))).run prog W:=by kernel_rfl
 have hz:(do pure (Value.tuple #[<- zeroValue 153,.bool false]):Sem Value).run prog W = .ok (.tuple #[.slice none 0 0,.bool false]) W:=by kernel_rfl
 rw [e,if_neg h];exact hz
theorem xoY {T:TypeId} (v:Value) (W:World) (h:T≠156):(Instr.typeAssert (.iface T v) 20 156 true).run prog W = .ok (.tuple #[.slice none 0 0,.bool false]) W:=by
 have e:(Instr.typeAssert (.iface T v) 20 156 true).run prog W=(if T=156 then (pure (Value.tuple #[v,.bool true]):Sem Value) else (do pure (Value.tuple #[<- zeroValue 156,.bool false]))).run prog W:=by kernel_rfl
 have hz:(do pure (Value.tuple #[<- zeroValue 156,.bool false]):Sem Value).run prog W = .ok (.tuple #[.slice none 0 0,.bool false]) W:=by kernel_rfl
 rw [e,if_neg h];exact hz
theorem xkf (v:Value) (W:World):(Instr.typeAssert (.iface 150 v) 20 150 true).run prog W = .ok (.tuple #[v,.bool true]) W:=by kernel_rfl
theorem xhc {T:TypeId} (v:Value) (W:World) (h:T≠150):(Instr.typeAssert (.iface T v) 20 150 true).run prog W = .ok (.tuple #[.slice none 0 0,.bool false]) W:=by
 have e:(Instr.typeAssert (.iface T v) 20 150 true).run prog W=(if T=150 then (pure (Value.tuple #[v,.bool true]):Sem Value) else (do pure (Value.tuple #[<- zeroValue 150,.bool false]))).run prog W:=by kernel_rfl
 have hz:(do pure (Value.tuple #[<- zeroValue 150,.bool false]):Sem Value).run prog W = .ok (.tuple #[.slice none 0 0,.bool false]) W:=by kernel_rfl
 rw [e,if_neg h];exact hz
theorem xlH (v:Value) (W:World):(Instr.typeAssert (.iface 144 v) 20 144 true).run prog W = .ok (.tuple #[v,.bool true]) W:=by kernel_rfl
theorem xel {T:TypeId} (v:Value) (W:World) (h:T≠144):(Instr.typeAssert (.iface T v) 20 144 true).run prog W = .ok (.tuple #[.slice none 0 0,.bool false]) W:=by
 have e:(Instr.typeAssert (.iface T v) 20 144 true).run prog W=(if T=144 then (pure (Value.tuple #[v,.bool true]):Sem Value) else (do pure (Value.tuple #[<- zeroValue 144,.bool false]))).run prog W:=by kernel_rfl
 have hz:(do pure (Value.tuple #[<- zeroValue 144,.bool false]):Sem Value).run prog W = .ok (.tuple #[.slice none 0 0,.bool false]) W:=by kernel_rfl
 rw [e,if_neg h];exact hz
theorem xlG (v:Value) (W:World):(Instr.typeAssert (.iface 147 v) 20 147 true).run prog W = .ok (.tuple #[v,.bool true]) W:=by kernel_rfl
theorem xfH {T:TypeId} (v:Value) (W:World) (h:T≠147):(Instr.typeAssert (.iface T v) 20 147 true).run prog W = .ok (.tuple #[.slice none 0 0,.bool false]) W:=by
 have e:(Instr.typeAssert (.iface T v) 20 147 true).run prog W=(if T=147 then (pure (Value.tuple #[v,.bool true]):Sem Value) else (do pure (Value.tuple #[<- zeroValue 147,.bool false]))).run prog W:=by kernel_rfl
 have hz:(do pure (Value.tuple #[<- zeroValue 147,.bool false]):Sem Value).run prog W = .ok (.tuple #[.slice none 0 0,.bool false]) W:=by kernel_rfl
 rw [e,if_neg h];exact hz
theorem xpa {T:TypeId} (v:Value) (W:World) (h:T≠323):(Instr.typeAssert (.iface T v) 20 323 true).run prog W = .ok (.tuple #[.slice none 0 0,.bool false]) W:=by
 have e:(Instr.typeAssert (.iface T v) 20 323 true).run prog W=(if T=323 then (pure (Value.tuple #[v,.bool true]):Sem Value) else (do pure (Value.tuple #[<- zeroValue 323,.bool false]))).run prog W:=by kernel_rfl
 have hz:(do pure (Value.tuple #[<- zeroValue 323,.bool false]):Sem Value).run prog W = .ok (.tuple #[.slice none 0 0,.bool false]) W:=by kernel_rfl
 rw [e,if_neg h];exact hz
theorem xnu (v:Value) (W:World):(Instr.typeAssert (.iface 70 v) 20 70 true).run prog W = .ok (.tuple #[v,.bool true]) W:=by kernel_rfl
theorem xbb {T:TypeId} (v:Value) (W:World) (h:T≠70):(Instr.typeAssert (.iface T v) 20 70 true).run prog W = .ok (.tuple #[.map none,.bool false]) W:=by
 have e:(Instr.typeAssert (.iface T v) 20 70 true).run prog W=(if T=70 then (pure (Value.tuple #[v,.bool true]):Sem Value) else (do pure (Value.tuple #[<- zeroValue 70,.bool false]))).run prog W:=by kernel_rfl
 have hz:(do pure (Value.tuple #[<- zeroValue 70,.bool false]):Sem Value).run prog W = .ok (.tuple #[.map none,.bool false]) W:=by kernel_rfl
 rw [e,if_neg h];exact hz
theorem xnt (v:Value) (W:World):(Instr.typeAssert (.iface 84 v) 20 84 true).run prog W = .ok (.tuple #[v,.bool true]) W:=by kernel_rfl
theorem xbk {T:TypeId} (v:Value) (W:World) (h:T≠84):(Instr.typeAssert (.iface T v) 20 84 true).run prog W = .ok (.tuple #[.map none,.bool false]) W:=by
 have e:(Instr.typeAssert (.iface T v) 20 84 true).run prog W=(if T=84 then (pure (Value.tuple #[v,.bool true]):Sem Value) else (do pure (Value.tuple #[<- zeroValue 84,.bool false]))).run prog W:=by kernel_rfl
 have hz:(do pure (Value.tuple #[<- zeroValue 84,.bool false]):Sem Value).run prog W = .ok (.tuple #[.map none,.bool false]) W:=by kernel_rfl
 rw [e,if_neg h];exact hz
theorem xfG (v:Value) (W:World):(Instr.typeAssert (.iface 4 v) 20 4 true).run prog W = .ok (.tuple #[v,.bool true]) W:=by kernel_rfl
theorem xad {T:TypeId} (v:Value) (W:World) (h:T≠4):(Instr.typeAssert (.iface T v) 20 4 true).run prog W = .ok (.tuple #[.bool false,.bool false]) W:=by
 have e:(Instr.typeAssert (.iface T v) 20 4 true).run prog W=(if T=4 then (pure (Value.tuple #[v,.bool true]):Sem Value) else (do pure (Value.tuple #[<- zeroValue 4,.bool false]))).run prog W:=by kernel_rfl
 have hz:(do pure (Value.tuple #[<- zeroValue 4,.bool false]):Sem Value).run prog W = .ok (.tuple #[.bool false,.bool false]) W:=by kernel_rfl
 rw [e,if_neg h];exact hz
theorem xlF (v:Value) (W:World):(Instr.typeAssert (.iface 5 v) 20 5 true).run prog W = .ok (.tuple #[v,.bool true]) W:=by kernel_rfl
theorem xas {T:TypeId} (v:Value) (W:World) (h:T≠5):(Instr.typeAssert (.iface T v) 20 5 true).run prog W = .ok (.tuple #[.int .u8 0,.bool false]) W:=by
 have e:(Instr.typeAssert (.iface T v) 20 5 true).run prog W=(if T=5 then (pure (Value.tuple #[v,.bool true]):Sem Value) else (do pure (Value.tuple #[<- zeroValue 5,.bool false]))).run prog W:=by kernel_rfl
 have hz:(do pure (Value.tuple #[<- zeroValue 5,.bool false]):Sem Value).run prog W = .ok (.tuple #[.int .u8 0,.bool false]) W:=by kernel_rfl
 rw [e,if_neg h];exact hz
theorem xjn (v:Value) (W:World):(Instr.typeAssert (.iface 100 v) 20 100 true).run prog W = .ok (.tuple #[v,.bool true]) W:=by kernel_rfl
theorem xam {T:TypeId} (v:Value) (W:World) (h:T≠100):(Instr.typeAssert (.iface T v) 20 100 true).run prog W = .ok (.tuple #[.int .u16 0,.bool false]) W:=by
 have e:(Instr.typeAssert (.iface T v) 20 100 true).run prog W=(if T=100 then (pure (Value.tuple #[v,.bool true]):Sem Value) else (do pure (Value.tuple #[<- zeroValue 100,.bool false]))).run prog W:=by kernel_rfl
 have hz:(do pure (Value.tuple #[<- zeroValue 100,.bool false]):Sem Value).run prog W = .ok (.tuple #[.int .u16 0,.bool false]) W:=by kernel_rfl
 rw [e,if_neg h];exact hz
theorem xjm (v:Value) (W:World):(Instr.typeAssert (.iface 101 v) 20 101 true).run prog W = .ok (.tuple #[v,.bool true]) W:=by kernel_rfl
theorem xal {T:TypeId} (v:Value) (W:World) (h:T≠101):(Instr.typeAssert (.iface T v) 20 101 true).run prog W = .ok (.tuple #[.int .u32 0,.bool false]) W:=by
 have e:(Instr.typeAssert (.iface T v) 20 101 true).run prog W=(if T=101 then (pure (Value.tuple #[v,.bool true]):Sem Value) else (do pure (Value.tuple #[<- zeroValue 101,.bool false]))).run prog W:=by kernel_rfl
 have hz:(do pure (Value.tuple #[<- zeroValue 101,.bool false]):Sem Value).run prog W = .ok (.tuple #[.int .u32 0,.bool false]) W:=by kernel_rfl
 rw [e,if_neg h];exact hz
theorem xjl (v:Value) (W:World):(Instr.typeAssert (.iface 22 v) 20 22 true).run prog W = .ok (.tuple #[v,.bool true]) W:=by kernel_rfl
theorem xak {T:TypeId} (v:Value) (W:World) (h:T≠22):(Instr.typeAssert (.iface T v) 20 22 true).run prog W = .ok (.tuple #[.int .u64 0,.bool false]) W:=by
 have e:(Instr.typeAssert (.iface T v) 20 22 true).run prog W=(if T=22 then (pure (Value.tuple #[v,.bool true]):Sem Value) else (do pure (Value.tuple #[<- zeroValue 22,.bool false]))).run prog W:=by kernel_rfl
 have hz:(do pure (Value.tuple #[<- zeroValue 22,.bool false]):Sem Value).run prog W = .ok (.tuple #[.int .u64 0,.bool false]) W:=by kernel_rfl
 rw [e,if_neg h];exact hz
theorem xlJ (v:Value) (W:World):(Instr.typeAssert (.iface 102 v) 20 102 true).run prog W = .ok (.tuple #[v,.bool true]) W:=by kernel_rfl
theorem xaF {T:TypeId} (v:Value) (W:World) (h:T≠102):(Instr.typeAssert (.iface T v) 20 102 true).run prog W = .ok (.tuple #[.int .i8 0,.bool false]) W:=by
 have e:(Instr.typeAssert (.iface T v) 20 102 true).run prog W=(if T=102 then (pure (Value.tuple #[v,.bool true]):Sem Value) else (do pure (Value.tuple #[<- zeroValue 102,.bool false]))).run prog W:=by kernel_rfl
 have hz:(do pure (Value.tuple #[<- zeroValue 102,.bool false]):Sem Value).run prog W = .ok (.tuple #[.int .i8 0,.bool false]) W:=by kernel_rfl
 rw [e,if_neg h];exact hz
theorem xjq (v:Value) (W:World):(Instr.typeAssert (.iface 103 v) 20 103 true).run prog W = .ok (.tuple #[v,.bool true]) W:=by kernel_rfl
theorem xav {T:TypeId} (v:Value) (W:World) (h:T≠103):(Instr.typeAssert (.iface T v) 20 103 true).run prog W = .ok (.tuple #[.int .i16 0,.bool false]) W:=by
 have e:(Instr.typeAssert (.iface T v) 20 103 true).run prog W=(if T=103 then (pure (Value.tuple #[v,.bool true]):Sem Value) else (do pure (Value.tuple #[<- zeroValue 103,.bool false]))).run prog W:=by kernel_rfl
 have hz:(do pure (Value.tuple #[<- zeroValue 103,.bool false]):Sem Value).run prog W = .ok (.tuple #[.int .i16 0,.bool false]) W:=by kernel_rfl
 rw [e,if_neg h];exact hz
theorem xjp (v:Value) (W:World):(Instr.typeAssert (.iface 21 v) 20 21 true).run prog W = .ok (.tuple #[v,.bool true]) W:=by kernel_rfl
theorem xaC {T:TypeId} (v:Value) (W:World) (h:T≠21):(Instr.typeAssert (.iface T v) 20 21 true).run prog W = .ok (.tuple #[.int .i32 0,.bool false]) W:=by
 have e:(Instr.typeAssert (.iface T v) 20 21 true).run prog W=(if T=21 then (pure (Value.tuple #[v,.bool true]):Sem Value) else (do pure (Value.tuple #[<- zeroValue 21,.bool false]))).run prog W:=by kernel_rfl
 have hz:(do pure (Value.tuple #[<- zeroValue 21,.bool false]):Sem Value).run prog W = .ok (.tuple #[.int .i32 0,.bool false]) W:=by kernel_rfl
 rw [e,if_neg h];exact hz
theorem xjo (v:Value) (W:World):(Instr.typeAssert (.iface 2 v) 20 2 true).run prog W = .ok (.tuple #[v,.bool true]) W:=by kernel_rfl
theorem xaH {T:TypeId} (v:Value) (W:World) (h:T≠2):(Instr.typeAssert (.iface T v) 20 2 true).run prog W = .ok (.tuple #[.int .i64 0,.bool false]) W:=by
 have e:(Instr.typeAssert (.iface T v) 20 2 true).run prog W=(if T=2 then (pure (Value.tuple #[v,.bool true]):Sem Value) else (do pure (Value.tuple #[<- zeroValue 2,.bool false]))).run prog W:=by kernel_rfl
 have hz:(do pure (Value.tuple #[<- zeroValue 2,.bool false]):Sem Value).run prog W = .ok (.tuple #[.int .i64 0,.bool false]) W:=by kernel_rfl
 rw [e,if_neg h];exact hz
theorem xoX (v:Value) (W:World):(Instr.typeAssert (.iface 104 v) 20 104 true).run prog W = .ok (.tuple #[v,.bool true]) W:=by kernel_rfl
theorem xaO {T:TypeId} (v:Value) (W:World) (h:T≠104):(Instr.typeAssert (.iface T v) 20 104 true).run prog W = .ok (.tuple #[.float .f32 0,.bool false]) W:=by
 have e:(Instr.typeAssert (.iface T v) 20 104 true).run prog W=(if T=104 then (pure (Value.tuple #[v,.bool true]):Sem Value) else (do pure (Value.tuple #[<- zeroValue 104,.bool false]))).run prog W:=by kernel_rfl
 have hz:(do pure (Value.tuple #[<- zeroValue 104,.bool false]):Sem Value).run prog W = .ok (.tuple #[.float .f32 0,.bool false]) W:=by kernel_rfl
 rw [e,if_neg h];exact hz
theorem xoW (v:Value) (W:World):(Instr.typeAssert (.iface 106 v) 20 106 true).run prog W = .ok (.tuple #[v,.bool true]) W:=by kernel_rfl
theorem xaQ {T:TypeId} (v:Value) (W:World) (h:T≠106):(Instr.typeAssert (.iface T v) 20 106 true).run prog W = .ok (.tuple #[.float .f64 0,.bool false]) W:=by
 have e:(Instr.typeAssert (.iface T v) 20 106 true).run prog W=(if T=106 then (pure (Value.tuple #[v,.bool true]):Sem Value) else (do pure (Value.tuple #[<- zeroValue 106,.bool false]))).run prog W:=by kernel_rfl
 have hz:(do pure (Value.tuple #[<- zeroValue 106,.bool false]):Sem Value).run prog W = .ok (.tuple #[.float .f64 0,.bool false]) W:=by kernel_rfl
 rw [e,if_neg h];exact hz
theorem xih (v:Value) (W:World):(Instr.typeAssert (.iface 109 v) 20 109 true).run prog W = .ok (.tuple #[v,.bool true]) W:=by kernel_rfl
theorem xaJ {T:TypeId} (v:Value) (W:World) (h:T≠109):(Instr.typeAssert (.iface T v) 20 109 true).run prog W = .ok (.tuple #[.agg #[.int .i64 0,.int .i64 0],.bool false]) W:=by
 have e:(Instr.typeAssert (.iface T v) 20 109 true).run prog W=(if T=109 then (pure (Value.tuple #[v,.bool true]):Sem Value) else (do pure (Value.tuple #[<- zeroValue 109,.bool false]))).run prog W:=by kernel_rfl
 have hz:(do pure (Value.tuple #[<- zeroValue 109,.bool false]):Sem Value).run prog W = .ok (.tuple #[.agg #[.int .i64 0,.int .i64 0],.bool false]) W:=by kernel_rfl
 rw [e,if_neg h];exact hz
theorem xnv (v:Value) (W:World):(Instr.typeAssert (.iface 112 v) 20 112 true).run prog W = .ok (.tuple #[v,.bool true]) W:=by kernel_rfl
theorem xaM {T:TypeId} (v:Value) (W:World) (h:T≠112):(Instr.typeAssert (.iface T v) 20 112 true).run prog W = .ok (.tuple #[.agg z16,.bool false]) W:=by
 have e:(Instr.typeAssert (.iface T v) 20 112 true).run prog W=(if T=112 then (pure (Value.tuple #[v,.bool true]):Sem Value) else (do pure (Value.tuple #[<- zeroValue 112,.bool false]))).run prog W:=by kernel_rfl
 have hz:(do pure (Value.tuple #[<- zeroValue 112,.bool false]):Sem Value).run prog W = .ok (.tuple #[.agg z16,.bool false]) W:=by kernel_rfl
 rw [e,if_neg h];exact hz
theorem xdh (v:Value) (W:World):(Instr.typeAssert (.iface 9 v) 20 9 true).run prog W = .ok (.tuple #[v,.bool true]) W:=by kernel_rfl
theorem xar {T:TypeId} (v:Value) (W:World) (h:T≠9):(Instr.typeAssert (.iface T v) 20 9 true).run prog W = .ok (.tuple #[.string ⟨#[]⟩,.bool false]) W:=by
 have e:(Instr.typeAssert (.iface T v) 20 9 true).run prog W=(if T=9 then (pure (Value.tuple #[v,.bool true]):Sem Value) else (do pure (Value.tuple #[<- zeroValue 9,.bool false]))).run prog W:=by kernel_rfl
 have hz:(do pure (Value.tuple #[<- zeroValue 9,.bool false]):Sem Value).run prog W = .ok (.tuple #[.string ⟨#[]⟩,.bool false]) W:=by kernel_rfl
 rw [e,if_neg h];exact hz
theorem xaD {T:TypeId} (v:Value) (W:World) (h:T≠83):(Instr.typeAssert (.iface T v) 20 83 true).run prog W = .ok (.tuple #[.string ⟨#[]⟩,.bool false]) W:=by
 have e:(Instr.typeAssert (.iface T v) 20 83 true).run prog W=(if T=83 then (pure (Value.tuple #[v,.bool true]):Sem Value) else (do pure (Value.tuple #[<- zeroValue 83,.bool false]))).run prog W:=by kernel_rfl
 have hz:(do pure (Value.tuple #[<- zeroValue 83,.bool false]):Sem Value).run prog W = .ok (.tuple #[.string ⟨#[]⟩,.bool false]) W:=by kernel_rfl
 rw [e,if_neg h];exact hz
def xej:List TypeId:=[4,5,100,101,22,102,103,21,2,109,112,9]
theorem xaz {T a:TypeId} (h:T ∈ xej) (ha:a ∉ xej):T≠a:=fun e=>ha (e ▸ h)
set_option maxHeartbeats 4000000 in
theorem xpU (T:TypeId) (x:Value) (w:World) (hT:T ∈ xej):Calls prog 163 #[.iface T x] w fun e w'=>e = .returned (.bool true)/\w'=w:=by
 have f_bytes:=fun W=>xaI (T:=T) x W (xaz hT (by decide))
 have f_sAny:=fun W=>xaV (T:=T) x W (xaz hT (by decide))
 have f_sI8:=fun W=>xcp (T:=T) x W (xaz hT (by decide))
 have f_ArrayUByte:=fun W=>xat (T:=T) x W (xaz hT (by decide))
 have f_sU16:=fun W=>xbA (T:=T) x W (xaz hT (by decide))
 have f_sI16:=fun W=>xck (T:=T) x W (xaz hT (by decide))
 have f_sU32:=fun W=>xbH (T:=T) x W (xaz hT (by decide))
 have f_sI32:=fun W=>xcA (T:=T) x W (xaz hT (by decide))
 have f_sU64:=fun W=>xbM (T:=T) x W (xaz hT (by decide))
 have f_sI64:=fun W=>xcL (T:=T) x W (xaz hT (by decide))
 have f_sF32:=fun W=>xdn (T:=T) x W (xaz hT (by decide))
 have f_sF64:=fun W=>xdX (T:=T) x W (xaz hT (by decide))
 have f_sBool:=fun W=>xaZ (T:=T) x W (xaz hT (by decide))
 have f_sStr:=fun W=>xoZ (T:=T) x W (xaz hT (by decide))
 have f_sSym:=fun W=>xoY (T:=T) x W (xaz hT (by decide))
 have f_sBytes:=fun W=>xhc (T:=T) x W (xaz hT (by decide))
 have f_sTime:=fun W=>xel (T:=T) x W (xaz hT (by decide))
 have f_sUUID:=fun W=>xfH (T:=T) x W (xaz hT (by decide))
 have f_sMap:=fun W=>xpa (T:=T) x W (xaz hT (by decide))
 have f_mAny:=fun W=>xbb (T:=T) x W (xaz hT (by decide))
 have f_mStr:=fun W=>xbk (T:=T) x W (xaz hT (by decide))
 clear hT;go_enter func163,ntmps163;go_wp2;go_ret;exact ⟨rfl,rfl⟩
def vnum (k n:Int):Value:=.agg #[.int .i64 k,.int .u64 n,.string ⟨#[]⟩,.slice none 0 0,.int .i64 0,.slice none 0 0]
def xow (k:Int) (t:ByteArray):Value:=.agg #[.int .i64 k,.int .u64 0,.string t,.slice none 0 0,.int .i64 0,.slice none 0 0]
def Vd (w:World) (y:Value):Ending->World->Prop:=fun e w'=>e = .returned (.tuple #[y,.bool true])/\Kept Nope w w'
theorem xjU (b:Bool) (w:World):Calls prog 57 #[.bool b] w fun e w'=>e = .returned (.int .u64 (if b then 1 else 0))/\w'=w:=by
 cases b
 all_goals
  go_enter func57,ntmps57;go_wp2;go_ret;exact ⟨rfl,rfl⟩
theorem xic (n:Nat) (w:World):(callFunc 58 #[.float .f32 n]).run prog w = .ok (.value (.int .u32 n)) w:=by kernel_rfl
theorem xib (n:Nat) (w:World):(callFunc 59 #[.float .f64 n]).run prog w = .ok (.value (.int .u64 n)) w:=by kernel_rfl
theorem xmD (w:World):Calls prog 33 #[.nilIface] w (Vd w (vnum 0 0)):=by
 go_enter func33,ntmps33;go_wp2
 (try simp only [Exit.inBlock,Exit.then])
 refine bodyPost_ret (v:=.tuple #[vnum 0 0,.bool true]) ?_ rfl ⟨rfl,(kR _ w).alloc _⟩;rw [results_cell_tmp rfl];go_simp
 rfl
theorem xms  (w:World):Calls prog 33 #[.iface 4 (.bool true)] w (Vd w (vnum 1 1)):=by
 have fy:=fun W=>xfG (.bool true) W
 go_enter func33,ntmps33;go_wp2_with (go_at_call 57;go_must (refine (xjU _ _).mono ?_;rintro e w1 ⟨rfl,rfl⟩))
 (try simp only [Exit.inBlock,Exit.then])
 refine bodyPost_ret (v:=.tuple #[vnum 1 1,.bool true]) ?_ rfl ⟨rfl,(kR _ w).alloc _⟩;rw [results_cell_tmp rfl];go_simp
 rfl
theorem xkD  (w:World):Calls prog 33 #[.iface 4 (.bool false)] w (Vd w (vnum 1 0)):=by
 have fy:=fun W=>xfG (.bool false) W
 go_enter func33,ntmps33;go_wp2_with (go_at_call 57;go_must (refine (xjU _ _).mono ?_;rintro e w1 ⟨rfl,rfl⟩))
 (try simp only [Exit.inBlock,Exit.then])
 refine bodyPost_ret (v:=.tuple #[vnum 1 0,.bool true]) ?_ rfl ⟨rfl,(kR _ w).alloc _⟩;rw [results_cell_tmp rfl];go_simp
 rfl
theorem xpt (n:Int) (h:0<=n/\n < 256) (w:World):Calls prog 33 #[.iface 5 (.int .u8 n)] w (Vd w (vnum 2 n)):=by
 have f_bool:=fun W=>xad (T:=5) (.int .u8 n) W (by decide)
 have fy:=fun W=>xlF (.int .u8 n) W
 have hw:IntKind.u64.wrap n=n:=by simp [IntKind.wrap,IntKind.bits,IntKind.signed];omega
 go_enter func33,ntmps33;go_wp2
 (try simp only [Exit.inBlock,Exit.then])
 refine bodyPost_ret (v:=.tuple #[vnum 2 n,.bool true]) ?_ rfl ⟨rfl,(kR _ w).alloc _⟩;rw [results_cell_tmp rfl];go_simp
 rfl
theorem xoz (n:Int) (h:0<=n/\n < 65536) (w:World):Calls prog 33 #[.iface 100 (.int .u16 n)] w (Vd w (vnum 3 n)):=by
 have f_bool:=fun W=>xad (T:=100) (.int .u16 n) W (by decide)
 have f_u8:=fun W=>xas (T:=100) (.int .u16 n) W (by decide)
 have fy:=fun W=>xjn (.int .u16 n) W
 have hw:IntKind.u64.wrap n=n:=by simp [IntKind.wrap,IntKind.bits,IntKind.signed];omega
 go_enter func33,ntmps33;go_wp2
 (try simp only [Exit.inBlock,Exit.then])
 refine bodyPost_ret (v:=.tuple #[vnum 3 n,.bool true]) ?_ rfl ⟨rfl,(kR _ w).alloc _⟩;rw [results_cell_tmp rfl];go_simp
 rfl
theorem xoy (n:Int) (h:0<=n/\n < 4294967296) (w:World):Calls prog 33 #[.iface 101 (.int .u32 n)] w (Vd w (vnum 4 n)):=by
 have f_bool:=fun W=>xad (T:=101) (.int .u32 n) W (by decide)
 have f_u8:=fun W=>xas (T:=101) (.int .u32 n) W (by decide)
 have f_u16:=fun W=>xam (T:=101) (.int .u32 n) W (by decide)
 have fy:=fun W=>xjm (.int .u32 n) W
 have hw:IntKind.u64.wrap n=n:=by simp [IntKind.wrap,IntKind.bits,IntKind.signed];omega
 go_enter func33,ntmps33;go_wp2
 (try simp only [Exit.inBlock,Exit.then])
 refine bodyPost_ret (v:=.tuple #[vnum 4 n,.bool true]) ?_ rfl ⟨rfl,(kR _ w).alloc _⟩;rw [results_cell_tmp rfl];go_simp
 rfl
theorem xox (n:Int) (w:World):Calls prog 33 #[.iface 22 (.int .u64 n)] w (Vd w (vnum 5 n)):=by
 have f_bool:=fun W=>xad (T:=22) (.int .u64 n) W (by decide)
 have f_u8:=fun W=>xas (T:=22) (.int .u64 n) W (by decide)
 have f_u16:=fun W=>xam (T:=22) (.int .u64 n) W (by decide)
 have f_u32:=fun W=>xal (T:=22) (.int .u64 n) W (by decide)
 have fy:=fun W=>xjl (.int .u64 n) W
 go_enter func33,ntmps33;go_wp2
 (try simp only [Exit.inBlock,Exit.then])
 refine bodyPost_ret (v:=.tuple #[vnum 5 n,.bool true]) ?_ rfl ⟨rfl,(kR _ w).alloc _⟩;rw [results_cell_tmp rfl];go_simp
 rfl
theorem xpu (n u:Int) (h:IntKind.u64.wrap n=u) (w:World):Calls prog 33 #[.iface 102 (.int .i8 n)] w (Vd w (vnum 6 u)):=by
 have f_bool:=fun W=>xad (T:=102) (.int .i8 n) W (by decide)
 have f_u8:=fun W=>xas (T:=102) (.int .i8 n) W (by decide)
 have f_u16:=fun W=>xam (T:=102) (.int .i8 n) W (by decide)
 have f_u32:=fun W=>xal (T:=102) (.int .i8 n) W (by decide)
 have f_u64:=fun W=>xak (T:=102) (.int .i8 n) W (by decide)
 have fy:=fun W=>xlJ (.int .i8 n) W
 go_enter func33,ntmps33;go_wp2
 (try simp only [Exit.inBlock,Exit.then])
 refine bodyPost_ret (v:=.tuple #[vnum 6 u,.bool true]) ?_ rfl ⟨rfl,(kR _ w).alloc _⟩;rw [results_cell_tmp rfl];go_simp
 rfl
theorem xoD (n u:Int) (h:IntKind.u64.wrap n=u) (w:World):Calls prog 33 #[.iface 103 (.int .i16 n)] w (Vd w (vnum 7 u)):=by
 have f_bool:=fun W=>xad (T:=103) (.int .i16 n) W (by decide)
 have f_u8:=fun W=>xas (T:=103) (.int .i16 n) W (by decide)
 have f_u16:=fun W=>xam (T:=103) (.int .i16 n) W (by decide)
 have f_u32:=fun W=>xal (T:=103) (.int .i16 n) W (by decide)
 have f_u64:=fun W=>xak (T:=103) (.int .i16 n) W (by decide)
 have f_i8:=fun W=>xaF (T:=103) (.int .i16 n) W (by decide)
 have fy:=fun W=>xjq (.int .i16 n) W
 go_enter func33,ntmps33;go_wp2
 (try simp only [Exit.inBlock,Exit.then])
 refine bodyPost_ret (v:=.tuple #[vnum 7 u,.bool true]) ?_ rfl ⟨rfl,(kR _ w).alloc _⟩;rw [results_cell_tmp rfl];go_simp
 rfl
theorem xoC (n u:Int) (h:IntKind.u64.wrap n=u) (w:World):Calls prog 33 #[.iface 21 (.int .i32 n)] w (Vd w (vnum 8 u)):=by
 have f_bool:=fun W=>xad (T:=21) (.int .i32 n) W (by decide)
 have f_u8:=fun W=>xas (T:=21) (.int .i32 n) W (by decide)
 have f_u16:=fun W=>xam (T:=21) (.int .i32 n) W (by decide)
 have f_u32:=fun W=>xal (T:=21) (.int .i32 n) W (by decide)
 have f_u64:=fun W=>xak (T:=21) (.int .i32 n) W (by decide)
 have f_i8:=fun W=>xaF (T:=21) (.int .i32 n) W (by decide)
 have f_i16:=fun W=>xav (T:=21) (.int .i32 n) W (by decide)
 have fy:=fun W=>xjp (.int .i32 n) W
 go_enter func33,ntmps33;go_wp2
 (try simp only [Exit.inBlock,Exit.then])
 refine bodyPost_ret (v:=.tuple #[vnum 8 u,.bool true]) ?_ rfl ⟨rfl,(kR _ w).alloc _⟩;rw [results_cell_tmp rfl];go_simp
 rfl
theorem xoB (n u:Int) (h:IntKind.u64.wrap n=u) (w:World):Calls prog 33 #[.iface 2 (.int .i64 n)] w (Vd w (vnum 9 u)):=by
 have f_bool:=fun W=>xad (T:=2) (.int .i64 n) W (by decide)
 have f_u8:=fun W=>xas (T:=2) (.int .i64 n) W (by decide)
 have f_u16:=fun W=>xam (T:=2) (.int .i64 n) W (by decide)
 have f_u32:=fun W=>xal (T:=2) (.int .i64 n) W (by decide)
 have f_u64:=fun W=>xak (T:=2) (.int .i64 n) W (by decide)
 have f_i8:=fun W=>xaF (T:=2) (.int .i64 n) W (by decide)
 have f_i16:=fun W=>xav (T:=2) (.int .i64 n) W (by decide)
 have f_i32:=fun W=>xaC (T:=2) (.int .i64 n) W (by decide)
 have fy:=fun W=>xjo (.int .i64 n) W
 go_enter func33,ntmps33;go_wp2
 (try simp only [Exit.inBlock,Exit.then])
 refine bodyPost_ret (v:=.tuple #[vnum 9 u,.bool true]) ?_ rfl ⟨rfl,(kR _ w).alloc _⟩;rw [results_cell_tmp rfl];go_simp
 rfl
theorem xoF (n:Nat) (h:n < 4294967296) (w:World):Calls prog 33 #[.iface 104 (.float .f32 n)] w (Vd w (vnum 10 (n:Int))):=by
 have f_bool:=fun W=>xad (T:=104) (.float .f32 n) W (by decide)
 have f_u8:=fun W=>xas (T:=104) (.float .f32 n) W (by decide)
 have f_u16:=fun W=>xam (T:=104) (.float .f32 n) W (by decide)
 have f_u32:=fun W=>xal (T:=104) (.float .f32 n) W (by decide)
 have f_u64:=fun W=>xak (T:=104) (.float .f32 n) W (by decide)
 have f_i8:=fun W=>xaF (T:=104) (.float .f32 n) W (by decide)
 have f_i16:=fun W=>xav (T:=104) (.float .f32 n) W (by decide)
 have f_i32:=fun W=>xaC (T:=104) (.float .f32 n) W (by decide)
 have f_i64:=fun W=>xaH (T:=104) (.float .f32 n) W (by decide)
 have fy:=fun W=>xoX (.float .f32 n) W
 have hf:=fun W=>xic n W
 have hw:IntKind.u64.wrap (n:Int)=n:=by simp [IntKind.wrap,IntKind.bits,IntKind.signed];omega
 go_enter func33,ntmps33;go_wp2
 (try simp only [Exit.inBlock,Exit.then])
 refine bodyPost_ret (v:=.tuple #[vnum 10 (n:Int),.bool true]) ?_ rfl ⟨rfl,(kR _ w).alloc _⟩;rw [results_cell_tmp rfl];go_simp
 rfl
theorem xoE (n:Nat) (w:World):Calls prog 33 #[.iface 106 (.float .f64 n)] w (Vd w (vnum 11 (n:Int))):=by
 have f_bool:=fun W=>xad (T:=106) (.float .f64 n) W (by decide)
 have f_u8:=fun W=>xas (T:=106) (.float .f64 n) W (by decide)
 have f_u16:=fun W=>xam (T:=106) (.float .f64 n) W (by decide)
 have f_u32:=fun W=>xal (T:=106) (.float .f64 n) W (by decide)
 have f_u64:=fun W=>xak (T:=106) (.float .f64 n) W (by decide)
 have f_i8:=fun W=>xaF (T:=106) (.float .f64 n) W (by decide)
 have f_i16:=fun W=>xav (T:=106) (.float .f64 n) W (by decide)
 have f_i32:=fun W=>xaC (T:=106) (.float .f64 n) W (by decide)
 have f_i64:=fun W=>xaH (T:=106) (.float .f64 n) W (by decide)
 have f_f32:=fun W=>xaO (T:=106) (.float .f64 n) W (by decide)
 have fy:=fun W=>xoW (.float .f64 n) W
 have hf:=fun W=>xib n W
 go_enter func33,ntmps33;go_wp2
 (try simp only [Exit.inBlock,Exit.then])
 refine bodyPost_ret (v:=.tuple #[vnum 11 (n:Int),.bool true]) ?_ rfl ⟨rfl,(kR _ w).alloc _⟩;rw [results_cell_tmp rfl];go_simp
 rfl
theorem xjy (t:ByteArray) (w:World):Calls prog 33 #[.iface 9 (.string t)] w (Vd w (xow 19 t)):=by
 have f_bool:=fun W=>xad (T:=9) (.string t) W (by decide)
 have f_u8:=fun W=>xas (T:=9) (.string t) W (by decide)
 have f_u16:=fun W=>xam (T:=9) (.string t) W (by decide)
 have f_u32:=fun W=>xal (T:=9) (.string t) W (by decide)
 have f_u64:=fun W=>xak (T:=9) (.string t) W (by decide)
 have f_i8:=fun W=>xaF (T:=9) (.string t) W (by decide)
 have f_i16:=fun W=>xav (T:=9) (.string t) W (by decide)
 have f_i32:=fun W=>xaC (T:=9) (.string t) W (by decide)
 have f_i64:=fun W=>xaH (T:=9) (.string t) W (by decide)
 have f_f32:=fun W=>xaO (T:=9) (.string t) W (by decide)
 have f_f64:=fun W=>xaQ (T:=9) (.string t) W (by decide)
 have f_Time:=fun W=>xaJ (T:=9) (.string t) W (by decide)
 have f_UUID:=fun W=>xaM (T:=9) (.string t) W (by decide)
 have f_bytes:=fun W=>xaI (T:=9) (.string t) W (by decide)
 have fy:=fun W=>xdh (.string t) W
 go_enter func33,ntmps33;go_wp2
 (try simp only [Exit.inBlock,Exit.then])
 refine bodyPost_ret (v:=.tuple #[xow 19 t,.bool true]) ?_ rfl ⟨rfl,(kR _ w).alloc _⟩;rw [results_cell_tmp rfl];go_simp
 rfl
def zVal:Array Value:=#[.int .i64 0,.int .u64 0,.string ⟨#[]⟩,.slice none 0 0,.int .i64 0,.slice none 0 0]
theorem xkE (S:Nat->Prop) (s:Value) (bs:List UInt8) (w:World) (hB:BSl S w s bs):Calls prog 33 #[.iface 26 s] w (Vd w (xow 18 ⟨bs.toArray⟩)):=by
 have hcv:=xbe 26 9 5 underlying26 underlying5 underlying9 (hB.keep ((kR Nope w).alloc (.cells zVal 25)) (fun _ _ _ h=>h));unfold zVal at hcv;clear hB;have f_bool:=fun W=>xad (T:=26) (s) W (by decide)
 have f_u8:=fun W=>xas (T:=26) (s) W (by decide)
 have f_u16:=fun W=>xam (T:=26) (s) W (by decide)
 have f_u32:=fun W=>xal (T:=26) (s) W (by decide)
 have f_u64:=fun W=>xak (T:=26) (s) W (by decide)
 have f_i8:=fun W=>xaF (T:=26) (s) W (by decide)
 have f_i16:=fun W=>xav (T:=26) (s) W (by decide)
 have f_i32:=fun W=>xaC (T:=26) (s) W (by decide)
 have f_i64:=fun W=>xaH (T:=26) (s) W (by decide)
 have f_f32:=fun W=>xaO (T:=26) (s) W (by decide)
 have f_f64:=fun W=>xaQ (T:=26) (s) W (by decide)
 have f_Time:=fun W=>xaJ (T:=26) (s) W (by decide)
 have f_UUID:=fun W=>xaM (T:=26) (s) W (by decide)
 have fy:=fun W=>xlK (s) W
 go_enter func33,ntmps33;go_wp2
 (try simp only [Exit.inBlock,Exit.then])
 refine bodyPost_ret (v:=.tuple #[xow 18 ⟨bs.toArray⟩,.bool true]) ?_ rfl ⟨rfl,(kR _ w).alloc _⟩;rw [results_cell_tmp rfl];go_simp
 rfl
theorem xgN (ms:Int) (h0:-9223372036854775808<=ms) (h1:ms<=9223372036854775807):wrap64 (wrap64 (ms / 1000*1000)+(ms % 1000*1000000).tdiv 1000000)=ms:=by
 have hb:(ms % 1000*1000000).tdiv 1000000=ms % 1000:=by rw [Int.tdiv_eq_ediv_of_nonneg (by omega)];omega
 rw [hb];unfold wrap64;omega
theorem xem (a b ms:Int) (w:World) (hm:wrap64 (wrap64 (a*1000)+b.tdiv 1000000)=ms) (hb:0<=b/\b < 1000000000):Calls prog 60 #[.agg #[.int .i64 a,.int .i64 b]] w fun e w'=>e = .returned (.int .i64 ms)/\Kept Nope w w':=by
 have e1:IntKind.i64.wrap (b.tdiv 1000000)=b.tdiv 1000000:=by
  have:b.tdiv 1000000=b / 1000000:=Int.tdiv_eq_ediv_of_nonneg hb.1;rw [this];exact IntWalk.i64_in _ (by omega)
 go_enter func60,ntmps60;go_wp2;go_ret;exact ⟨congrArg (fun n=>Ending.returned (.int .i64 n)) hm,(kR _ w).alloc _⟩
theorem xmI (ms u:Int) (w:World) (h0:-9223372036854775808<=ms) (h1:ms<=9223372036854775807) (hu:IntKind.u64.wrap ms=u):Calls prog 33 #[.iface 109 (tm ms)] w (Vd w (vnum 16 u)):=by
 obtain ⟨a,b,ha,hb,hm,hbr⟩:∃ a b,ms / 1000=a/\ms % 1000*1000000=b/\wrap64 (wrap64 (a*1000)+b.tdiv 1000000)=ms/\0<=b/\b < 1000000000:=⟨_,_,rfl,rfl,xgN ms h0 h1,by omega,by omega⟩
 unfold tm;rw [ha,hb];have HM:=hid (aI hm hbr);clear ha hb hm hbr;have f_bool:=fun W=>xad (T:=109) (.agg #[.int .i64 a,.int .i64 b]) W (by decide)
 have f_u8:=fun W=>xas (T:=109) (.agg #[.int .i64 a,.int .i64 b]) W (by decide)
 have f_u16:=fun W=>xam (T:=109) (.agg #[.int .i64 a,.int .i64 b]) W (by decide)
 have f_u32:=fun W=>xal (T:=109) (.agg #[.int .i64 a,.int .i64 b]) W (by decide)
 have f_u64:=fun W=>xak (T:=109) (.agg #[.int .i64 a,.int .i64 b]) W (by decide)
 have f_i8:=fun W=>xaF (T:=109) (.agg #[.int .i64 a,.int .i64 b]) W (by decide)
 have f_i16:=fun W=>xav (T:=109) (.agg #[.int .i64 a,.int .i64 b]) W (by decide)
 have f_i32:=fun W=>xaC (T:=109) (.agg #[.int .i64 a,.int .i64 b]) W (by decide)
 have f_i64:=fun W=>xaH (T:=109) (.agg #[.int .i64 a,.int .i64 b]) W (by decide)
 have f_f32:=fun W=>xaO (T:=109) (.agg #[.int .i64 a,.int .i64 b]) W (by decide)
 have f_f64:=fun W=>xaQ (T:=109) (.agg #[.int .i64 a,.int .i64 b]) W (by decide)
 have fy:=fun W=>xih (.agg #[.int .i64 a,.int .i64 b]) W
 have hz:(w.alloc (.cells zVal 25)).heap.size=w.heap.size+1:=by simp
 have HZ:=hid hz;clear hz;go_enter func33,ntmps33;go_wp2_with (go_at_call 60;go_must (refine (xem a b ms _ HM.out.1 HM.out.2).mono ?_;rintro e w1 ⟨rfl,hK⟩;have hB:=(((Blk.new w 25 zVal).alloc (.cells #[.int .i64 a,.int .i64 b] 109)).kept hK (fun h=>h));have c0:=hB.cell 0;have c1:=hB.cell 1;have c2:=hB.cell 2;have c3:=hB.cell 3;have c4:=hB.cell 4;have c5:=hB.cell 5;have f0:=hB.frozen 0;have f1:=hB.frozen 1;have f2:=hB.frozen 2;have f3:=hB.frozen 3;have f4:=hB.frozen 4;have f5:=hB.frozen 5;have H1:=hid (aI hB hK);clear hB hK;simp only [zVal,gt,gz,gs] at c0 c1 c2 c3 c4 c5))
 (try simp only [Exit.inBlock,Exit.then])
 have hB2:=(((((H1.out.1.set_ 0 (.int .i64 16)).set_ 1 (.int .u64 u)).set_ 2 (.string ⟨#[]⟩)).set_ 3 (.slice none 0 0)).set_ 4 (.int .i64 0)).set_ 5 (.slice none 0 0);have hld:=run_loadVar_row (P:=prog) _ w.heap.size 25 25 _ _ _ hB2 underlying25 rfl (by kernel_rfl);refine bodyPost_ret (v:=.tuple #[vnum 16 u,.bool true]) ?_ rfl ⟨rfl,?_⟩
 ·rw [results_cell_tmp rfl];simp only [Array.getD_eq_getD_getElem?,gt,gz,gs,Option.getD_some,asAddr,Sem.run_pure,Result.andThen_ok];rw [hld]
  rfl
 ·have hk:=(((kR Nope w).alloc (.cells zVal 25)).alloc (.cells #[.int .i64 a,.int .i64 b] 109)).trans' H1.out.2;exact (((((hk.setCell (p:=⟨w.heap.size,0,none⟩) (.inr (Nat.le_refl _)) _).setCell (p:=⟨w.heap.size,1,none⟩) (.inr (Nat.le_refl _)) _).setCell (p:=⟨w.heap.size,2,none⟩) (.inr (Nat.le_refl _)) _).setCell (p:=⟨w.heap.size,3,none⟩) (.inr (Nat.le_refl _)) _).setCell (p:=⟨w.heap.size,4,none⟩) (.inr (Nat.le_refl _)) _).setCell (p:=⟨w.heap.size,5,none⟩) (.inr (Nat.le_refl _)) _
end Go.Proofs.YtmdpodeegdjkeaaGreatDoor
