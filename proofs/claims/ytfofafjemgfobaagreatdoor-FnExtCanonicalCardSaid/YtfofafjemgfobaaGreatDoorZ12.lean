/- Parts of a proof, joined: Shelf2, Ru, VK, W2. -/
import Derived.Test.YtfofafjemgfobaaGreatDoorZ5
import Derived.Test.YtfofafjemgfobaaGreatDoorZ4
import Derived.Test.YtfofafjemgfobaaGreatDoorZ10
import Derived.Test.YtfofafjemgfobaaGreatDoorZ11
import Derived.Shelf.Bytes.BufferK
import Derived.Shelf.Bytes.WriteAny
import Derived.Shelf.Bytes.Bytes
import Derived.Shelf.Bytes.String
import Derived.Shelf.Hex.Tagged
import Derived.Test.YtfofafjemgfobaaGreatDoorProg
import Derived.Lib.DecodeN
import Derived.Shelf.Unicode.DecodeSlow
/- The shelf of the library's contracts at this program: a choice out of what the kit's tools laid. -/
namespace Go.Proofs
open Go.Shelf
def Tryz.laysPa40_ren : Go.Shelf.Ren := ⟨fun | 40 => 152 | n => n, fun | 30 => 23 | 3 => 3 | 0 => 0 | 5 => 5 | 46 => 61 | 9 => 9 | n => n, fun | n => n⟩
theorem Tryz.laysPa40 : Go.Proofs.Lays.p40 Tryz.prog Tryz.laysPa40_ren := {
  mixed := by kernel_rfl
  f40 := Tryz.func152.trans (congrArg some (by kernel_rfl))
  t0 := Tryz.underlying0
  a0 := Tryz.isAgg0
  z0 := Tryz.sizeOf0
  v0 := Tryz.zeroValue0
  t3 := Tryz.underlying3
  a3 := Tryz.isAgg3
  z3 := Tryz.sizeOf3
  v3 := Tryz.zeroValue3
  t5 := Tryz.underlying5
  a5 := Tryz.isAgg5
  z5 := Tryz.sizeOf5
  v5 := Tryz.zeroValue5
  t9 := Tryz.underlying9
  a9 := Tryz.isAgg9
  z9 := Tryz.sizeOf9
  v9 := Tryz.zeroValue9
  t30 := Tryz.underlying23
  a30 := Tryz.isAgg23
  z30 := Tryz.sizeOf23
  v30 := Tryz.zeroValue23
  t46 := Tryz.underlying61
  a46 := Tryz.isAgg61
  z46 := Tryz.sizeOf61
  v46 := Tryz.zeroValue61 }
open Go.RowKit Go.Lib in
theorem Tryz.hex_Encode_tag (T : TypeId) (bd od nd cd N : Nat) (f : Nat → Value) (bs os n cs : Nat) (xs : List Int) (w : World) (hx : xs.length = n) (hr : ∀ i, i < n → 0 ≤ xs.getD i 0 ∧ xs.getD i 0 < 256) (hsrc : ∀ i, i < n → w.cell? ⟨bs, os + i, none⟩ = some (.int .u8 (xs.getD i 0))) (hrow : w.rowIs bd T N f) (hfit : od + nd ≤ N) (hlen : 2 * n ≤ nd) (hne : bd ≠ bs) (hbig : n ≤ 4611686018427387903) :
    Calls Tryz.prog 152 #[.slice (some ⟨bd, od, none⟩) nd cd, .slice (some ⟨bs, os, none⟩) n cs] w fun e w' => e = .returned (.int .i64 ((n : Int) * 2)) ∧ w'.rowIs bd T N (Hx.row f od (Lib.bytesOf xs) n) ∧ w.grownBy w' (some bd) := Any.hex_Encode_tag Tryz.laysPa40 T bd od nd cd N f bs os n cs xs w hx hr hsrc hrow hfit hlen hne hbig
def Tryz.laysM182_ren : Go.Shelf.Ren := ⟨fun | 182 => 42 | n => n, fun | 130 => 72 | 9 => 9 | 4 => 4 | 0 => 0 | 93 => 69 | 37 => 23 | 3 => 3 | 91 => 67 | 5 => 5 | n => n, fun | n => n⟩
theorem Tryz.laysM182 : Go.Proofs.LaysM.n182 Tryz.prog Tryz.laysM182_ren := {
  mixed := by kernel_rfl
  f182 := Tryz.func42.trans (congrArg some (by kernel_rfl))
  t0 := Tryz.underlying0
  a0 := Tryz.isAgg0
  z0 := Tryz.sizeOf0
  v0 := Tryz.zeroValue0
  t3 := Tryz.underlying3
  a3 := Tryz.isAgg3
  z3 := Tryz.sizeOf3
  v3 := Tryz.zeroValue3
  t4 := Tryz.underlying4
  a4 := Tryz.isAgg4
  z4 := Tryz.sizeOf4
  v4 := Tryz.zeroValue4
  t9 := Tryz.underlying9
  a9 := Tryz.isAgg9
  z9 := Tryz.sizeOf9
  v9 := Tryz.zeroValue9
  t37 := Tryz.underlying23
  a37 := Tryz.isAgg23
  z37 := Tryz.sizeOf23
  v37 := Tryz.zeroValue23
  t93 := Tryz.underlying69
  a93 := Tryz.isAgg69
  z93 := Tryz.sizeOf69
  v93 := Tryz.zeroValue69
  t130 := Tryz.underlying72
  a130 := Tryz.isAgg72
  z130 := Tryz.sizeOf72
  v130 := Tryz.zeroValue72
  t5 := Tryz.underlying5
  a5 := Tryz.isAgg5
  z5 := Tryz.sizeOf5
  v5 := Tryz.zeroValue5
  t91 := Tryz.underlying67
  a91 := Tryz.isAgg67
  z91 := Tryz.sizeOf67
  v91 := Tryz.zeroValue67
  i0 := by kernel_rfl
  i3 := by kernel_rfl
  i4 := by kernel_rfl
  i5 := by kernel_rfl
  i9 := by kernel_rfl
  i37 := by kernel_rfl
  i91 := by kernel_rfl
  i93 := by kernel_rfl
  i130 := by kernel_rfl }
open Go.RowKit in
theorem Tryz.Buffer_String (B b : Nat) (l : List UInt8) (w : World) (h : Lib.IsBuffer 69 5 B b (Lib.byteCells l) w) :
    Calls Tryz.prog 42 #[.pointer (some ⟨b, 0, none⟩)] w fun e w' => e = .returned (.string ⟨l.toArray⟩) ∧ ∃ n, w' = w.drewN n := Any.Buffer_String Tryz.laysM182 B b l w h
def Tryz.laysM183_ren : Go.Shelf.Ren := ⟨fun | 183 => 177 | n => n, fun | 130 => 72 | 37 => 23 | 0 => 0 | 93 => 69 | 3 => 3 | 5 => 5 | 91 => 67 | n => n, fun | n => n⟩
theorem Tryz.laysM183 : Go.Proofs.LaysM.n183 Tryz.prog Tryz.laysM183_ren := {
  mixed := by kernel_rfl
  f183 := Tryz.func177.trans (congrArg some (by kernel_rfl))
  t0 := Tryz.underlying0
  a0 := Tryz.isAgg0
  z0 := Tryz.sizeOf0
  v0 := Tryz.zeroValue0
  t3 := Tryz.underlying3
  a3 := Tryz.isAgg3
  z3 := Tryz.sizeOf3
  v3 := Tryz.zeroValue3
  t37 := Tryz.underlying23
  a37 := Tryz.isAgg23
  z37 := Tryz.sizeOf23
  v37 := Tryz.zeroValue23
  t93 := Tryz.underlying69
  a93 := Tryz.isAgg69
  z93 := Tryz.sizeOf69
  v93 := Tryz.zeroValue69
  t130 := Tryz.underlying72
  a130 := Tryz.isAgg72
  z130 := Tryz.sizeOf72
  v130 := Tryz.zeroValue72
  t5 := Tryz.underlying5
  a5 := Tryz.isAgg5
  z5 := Tryz.sizeOf5
  v5 := Tryz.zeroValue5
  t91 := Tryz.underlying67
  a91 := Tryz.isAgg67
  z91 := Tryz.sizeOf67
  v91 := Tryz.zeroValue67
  i0 := by kernel_rfl
  i3 := by kernel_rfl
  i5 := by kernel_rfl
  i37 := by kernel_rfl
  i91 := by kernel_rfl
  i93 := by kernel_rfl
  i130 := by kernel_rfl }
open Go.RowKit in
theorem Tryz.Buffer_Bytes (B b : Nat) (bs : List Value) (w : World) (h : Lib.IsBuffer 69 5 B b bs w) :
    Calls Tryz.prog 177 #[.pointer (some ⟨b, 0, none⟩)] w fun e w' => ∃ v, e = .returned v ∧ w'.ownsRow B 5 1 v bs.length bs ∧ ∃ n, w' = w.drewN n := Any.Buffer_Bytes Tryz.laysM183 B b bs w h
def Tryz.laysM179_ren : Go.Shelf.Ren := ⟨fun | 179 => 140 | 251 => 202 | 252 => 203 | 181 => 238 | 184 => 239 | 290 => 240 | 324 => 275 | n => n, fun | 130 => 72 | 5 => 5 | 75 => 76 | 0 => 0 | 93 => 69 | 91 => 67 | 3 => 3 | 131 => 272 | 4 => 4 | 37 => 23 | 20 => 20 | 80 => 80 | 9 => 9 | n => n, fun | 14 => 9 | n => n⟩
theorem Tryz.laysM179 : Go.Proofs.LaysM.n179 Tryz.prog Tryz.laysM179_ren := {
  mixed := by kernel_rfl
  f179 := Tryz.func140.trans (congrArg some (by kernel_rfl))
  f181 := Tryz.func238.trans (congrArg some (by kernel_rfl))
  f184 := Tryz.func239.trans (congrArg some (by kernel_rfl))
  f251 := Tryz.func202.trans (congrArg some (by kernel_rfl))
  f252 := Tryz.func203.trans (congrArg some (by kernel_rfl))
  f290 := Tryz.func240.trans (congrArg some (by kernel_rfl))
  f324 := Tryz.func275.trans (congrArg some (by kernel_rfl))
  t0 := Tryz.underlying0
  a0 := Tryz.isAgg0
  z0 := Tryz.sizeOf0
  v0 := Tryz.zeroValue0
  t3 := Tryz.underlying3
  a3 := Tryz.isAgg3
  z3 := Tryz.sizeOf3
  v3 := Tryz.zeroValue3
  t4 := Tryz.underlying4
  a4 := Tryz.isAgg4
  z4 := Tryz.sizeOf4
  v4 := Tryz.zeroValue4
  t5 := Tryz.underlying5
  a5 := Tryz.isAgg5
  z5 := Tryz.sizeOf5
  v5 := Tryz.zeroValue5
  t20 := Tryz.underlying20
  a20 := Tryz.isAgg20
  z20 := Tryz.sizeOf20
  v20 := Tryz.zeroValue20
  t37 := Tryz.underlying23
  a37 := Tryz.isAgg23
  z37 := Tryz.sizeOf23
  v37 := Tryz.zeroValue23
  t75 := Tryz.underlying76
  a75 := Tryz.isAgg76
  z75 := Tryz.sizeOf76
  v75 := Tryz.zeroValue76
  t91 := Tryz.underlying67
  a91 := Tryz.isAgg67
  z91 := Tryz.sizeOf67
  v91 := Tryz.zeroValue67
  t93 := Tryz.underlying69
  a93 := Tryz.isAgg69
  z93 := Tryz.sizeOf69
  v93 := Tryz.zeroValue69
  t130 := Tryz.underlying72
  a130 := Tryz.isAgg72
  z130 := Tryz.sizeOf72
  v130 := Tryz.zeroValue72
  t131 := Tryz.underlying272
  a131 := Tryz.isAgg272
  z131 := Tryz.sizeOf272
  v131 := Tryz.zeroValue272
  g14 := by kernel_rfl
  t9 := Tryz.underlying9
  a9 := Tryz.isAgg9
  z9 := Tryz.sizeOf9
  v9 := Tryz.zeroValue9
  t80 := Tryz.underlying80
  a80 := Tryz.isAgg80
  z80 := Tryz.sizeOf80
  v80 := Tryz.zeroValue80
  i0 := by kernel_rfl
  i3 := by kernel_rfl
  i4 := by kernel_rfl
  i5 := by kernel_rfl
  i9 := by kernel_rfl
  i20 := by kernel_rfl
  i37 := by kernel_rfl
  i75 := by kernel_rfl
  i80 := by kernel_rfl
  i91 := by kernel_rfl
  i93 := by kernel_rfl
  i130 := by kernel_rfl
  i131 := by kernel_rfl
  m14 := by kernel_rfl }
def Tryz.laysM178_ren : Go.Shelf.Ren := ⟨fun | 178 => 141 | 251 => 202 | 252 => 203 | 181 => 238 | 184 => 239 | 290 => 240 | 324 => 275 | n => n, fun | 130 => 72 | 9 => 9 | 3 => 3 | 75 => 76 | 0 => 0 | 93 => 69 | 91 => 67 | 131 => 272 | 4 => 4 | 37 => 23 | 20 => 20 | 80 => 80 | 5 => 5 | n => n, fun | 14 => 9 | n => n⟩
theorem Tryz.laysM178 : Go.Proofs.LaysM.n178 Tryz.prog Tryz.laysM178_ren := {
  mixed := by kernel_rfl
  f178 := Tryz.func141.trans (congrArg some (by kernel_rfl))
  f181 := Tryz.func238.trans (congrArg some (by kernel_rfl))
  f184 := Tryz.func239.trans (congrArg some (by kernel_rfl))
  f251 := Tryz.func202.trans (congrArg some (by kernel_rfl))
  f252 := Tryz.func203.trans (congrArg some (by kernel_rfl))
  f290 := Tryz.func240.trans (congrArg some (by kernel_rfl))
  f324 := Tryz.func275.trans (congrArg some (by kernel_rfl))
  t0 := Tryz.underlying0
  a0 := Tryz.isAgg0
  z0 := Tryz.sizeOf0
  v0 := Tryz.zeroValue0
  t3 := Tryz.underlying3
  a3 := Tryz.isAgg3
  z3 := Tryz.sizeOf3
  v3 := Tryz.zeroValue3
  t4 := Tryz.underlying4
  a4 := Tryz.isAgg4
  z4 := Tryz.sizeOf4
  v4 := Tryz.zeroValue4
  t9 := Tryz.underlying9
  a9 := Tryz.isAgg9
  z9 := Tryz.sizeOf9
  v9 := Tryz.zeroValue9
  t20 := Tryz.underlying20
  a20 := Tryz.isAgg20
  z20 := Tryz.sizeOf20
  v20 := Tryz.zeroValue20
  t37 := Tryz.underlying23
  a37 := Tryz.isAgg23
  z37 := Tryz.sizeOf23
  v37 := Tryz.zeroValue23
  t75 := Tryz.underlying76
  a75 := Tryz.isAgg76
  z75 := Tryz.sizeOf76
  v75 := Tryz.zeroValue76
  t91 := Tryz.underlying67
  a91 := Tryz.isAgg67
  z91 := Tryz.sizeOf67
  v91 := Tryz.zeroValue67
  t93 := Tryz.underlying69
  a93 := Tryz.isAgg69
  z93 := Tryz.sizeOf69
  v93 := Tryz.zeroValue69
  t130 := Tryz.underlying72
  a130 := Tryz.isAgg72
  z130 := Tryz.sizeOf72
  v130 := Tryz.zeroValue72
  t131 := Tryz.underlying272
  a131 := Tryz.isAgg272
  z131 := Tryz.sizeOf272
  v131 := Tryz.zeroValue272
  g14 := by kernel_rfl
  t5 := Tryz.underlying5
  a5 := Tryz.isAgg5
  z5 := Tryz.sizeOf5
  v5 := Tryz.zeroValue5
  t80 := Tryz.underlying80
  a80 := Tryz.isAgg80
  z80 := Tryz.sizeOf80
  v80 := Tryz.zeroValue80
  i0 := by kernel_rfl
  i3 := by kernel_rfl
  i4 := by kernel_rfl
  i5 := by kernel_rfl
  i9 := by kernel_rfl
  i20 := by kernel_rfl
  i37 := by kernel_rfl
  i75 := by kernel_rfl
  i80 := by kernel_rfl
  i91 := by kernel_rfl
  i93 := by kernel_rfl
  i130 := by kernel_rfl
  i131 := by kernel_rfl
  m14 := by kernel_rfl }
def Tryz.laysM180_ren : Go.Shelf.Ren := ⟨fun | 180 => 303 | 251 => 202 | 252 => 203 | 181 => 238 | 184 => 239 | 290 => 240 | 324 => 275 | n => n, fun | 130 => 72 | 37 => 23 | 3 => 3 | 75 => 76 | 0 => 0 | 93 => 69 | 91 => 67 | 131 => 272 | 4 => 4 | 20 => 20 | 5 => 5 | 80 => 80 | 9 => 9 | n => n, fun | 14 => 9 | n => n⟩
theorem Tryz.laysM180 : Go.Proofs.LaysM.n180 Tryz.prog Tryz.laysM180_ren := {
  mixed := by kernel_rfl
  f180 := Tryz.func303.trans (congrArg some (by kernel_rfl))
  f181 := Tryz.func238.trans (congrArg some (by kernel_rfl))
  f184 := Tryz.func239.trans (congrArg some (by kernel_rfl))
  f251 := Tryz.func202.trans (congrArg some (by kernel_rfl))
  f252 := Tryz.func203.trans (congrArg some (by kernel_rfl))
  f290 := Tryz.func240.trans (congrArg some (by kernel_rfl))
  f324 := Tryz.func275.trans (congrArg some (by kernel_rfl))
  t0 := Tryz.underlying0
  a0 := Tryz.isAgg0
  z0 := Tryz.sizeOf0
  v0 := Tryz.zeroValue0
  t3 := Tryz.underlying3
  a3 := Tryz.isAgg3
  z3 := Tryz.sizeOf3
  v3 := Tryz.zeroValue3
  t4 := Tryz.underlying4
  a4 := Tryz.isAgg4
  z4 := Tryz.sizeOf4
  v4 := Tryz.zeroValue4
  t20 := Tryz.underlying20
  a20 := Tryz.isAgg20
  z20 := Tryz.sizeOf20
  v20 := Tryz.zeroValue20
  t37 := Tryz.underlying23
  a37 := Tryz.isAgg23
  z37 := Tryz.sizeOf23
  v37 := Tryz.zeroValue23
  t75 := Tryz.underlying76
  a75 := Tryz.isAgg76
  z75 := Tryz.sizeOf76
  v75 := Tryz.zeroValue76
  t91 := Tryz.underlying67
  a91 := Tryz.isAgg67
  z91 := Tryz.sizeOf67
  v91 := Tryz.zeroValue67
  t93 := Tryz.underlying69
  a93 := Tryz.isAgg69
  z93 := Tryz.sizeOf69
  v93 := Tryz.zeroValue69
  t130 := Tryz.underlying72
  a130 := Tryz.isAgg72
  z130 := Tryz.sizeOf72
  v130 := Tryz.zeroValue72
  t131 := Tryz.underlying272
  a131 := Tryz.isAgg272
  z131 := Tryz.sizeOf272
  v131 := Tryz.zeroValue272
  g14 := by kernel_rfl
  t5 := Tryz.underlying5
  a5 := Tryz.isAgg5
  z5 := Tryz.sizeOf5
  v5 := Tryz.zeroValue5
  t9 := Tryz.underlying9
  a9 := Tryz.isAgg9
  z9 := Tryz.sizeOf9
  v9 := Tryz.zeroValue9
  t80 := Tryz.underlying80
  a80 := Tryz.isAgg80
  z80 := Tryz.sizeOf80
  v80 := Tryz.zeroValue80
  i0 := by kernel_rfl
  i3 := by kernel_rfl
  i4 := by kernel_rfl
  i5 := by kernel_rfl
  i9 := by kernel_rfl
  i20 := by kernel_rfl
  i37 := by kernel_rfl
  i75 := by kernel_rfl
  i80 := by kernel_rfl
  i91 := by kernel_rfl
  i93 := by kernel_rfl
  i130 := by kernel_rfl
  i131 := by kernel_rfl
  m14 := by kernel_rfl }
open Go.RowKit in
theorem Tryz.Buffer_WriteByte_k (B b : Nat) (bs : List Value) (c : Int) (w : World) (h : Lib.IsBuffer 69 5 B b bs w) (hBw : B ≤ w.heap.size) (h1 : ∀ v ∈ bs, v.oneCell' = true) (hlim : bs.length + 1 ≤ 140737488355328) :
    Calls Tryz.prog 140 #[.pointer (some ⟨b, 0, none⟩), .int .u8 c] w fun e w' => e = .returned .nilIface ∧ Lib.IsBuffer 69 5 B b (bs ++ [.int .u8 c]) w' ∧ Below B w w' ∧ Lib.OthersKept 5 (some b) w w' := Any.Buffer_WriteByte_k Tryz.laysM179 B b bs c w h hBw h1 hlim
open Go.RowKit in
theorem Tryz.Buffer_WriteString_k (B b : Nat) (bs : List Value) (s : ByteArray) (w : World) (h : Lib.IsBuffer 69 5 B b bs w) (hBw : B ≤ w.heap.size) (h1 : ∀ v ∈ bs, v.oneCell' = true) (hlim : bs.length + s.size ≤ 140737488355328) :
    Calls Tryz.prog 141 #[.pointer (some ⟨b, 0, none⟩), .string s] w fun e w' => e = .returned (.tuple #[.int .i64 s.size, .nilIface]) ∧ Lib.IsBuffer 69 5 B b (bs ++ Lib.byteCells s.data.toList) w' ∧ Below B w w' ∧ Lib.OthersKept 5 (some b) w w' := Any.Buffer_WriteString_k Tryz.laysM178 B b bs s w h hBw h1 hlim
open Go.RowKit in
theorem Tryz.Buffer_Write_any (B b : Nat) (bs cs : List Value) (a : Addr) (n c : Nat) (w : World) (h : Lib.IsBuffer 69 5 B b bs w) (hBw : B ≤ w.heap.size) (h1 : ∀ v ∈ bs, v.oneCell' = true) (hn : cs.length = n) (hab : a.block ≠ b) (hsrc : ∀ j v, cs[j]? = some v → w.cell? (a.add j) = some v) (h1c : ∀ v ∈ cs, v.oneCell' = true) (hlim : bs.length + n ≤ 140737488355328) :
    Calls Tryz.prog 303 #[.pointer (some ⟨b, 0, none⟩), .slice (some a) n c] w fun e w' => e = .returned (.tuple #[.int .i64 n, .nilIface]) ∧ Lib.IsBuffer 69 5 B b (bs ++ cs) w' ∧ Below B w w' ∧ Lib.OthersKept 5 (some b) w w' := Any.Buffer_Write_any Tryz.laysM180 B b bs cs a n c w h hBw h1 hn hab hsrc h1c hlim
end Go.Proofs
/- A character of right UTF-8: as the reference reads it, and as the library's decoder does. -/
set_option linter.unusedVariables false
namespace Go.Proofs.Tryz
open Go.Vc Go.RowKit

theorem get_mkS {s : List UInt8} {k : Nat} {b : UInt8} (h : s[k]? = some b) : (mkS s).get! k = b := by
  obtain ⟨hlt, he⟩ := List.getElem?_eq_some_iff.1 h
  show (⟨s⟩ : Array UInt8)[k]! = b
  rw [getElem!_pos _ k (by simpa using hlt)]
  simpa using he
theorem decode_cons (s : List UInt8) (hs : s ≠ []) : Lib.decodeGo (mkS s) = Lib.decodeN s.length ((mkS s).get! 0).toNat ((mkS s).get! 1).toNat ((mkS s).get! 2).toNat ((mkS s).get! 3).toNat := by
  have hsz : (mkS s).size = s.length := rfl
  have h0 : ¬ (mkS s).size = 0 := by rw [hsz]; cases s <;> simp_all
  unfold Lib.decodeGo
  rw [if_neg h0, Lib.decode_at]
  rfl
theorem rune_decode (s : List UInt8) (h : (runeF s).1 ≠ 0) : Lib.decodeGo (mkS s) = ((runeF s).2, (runeF s).1) := by
  cases s with
  | nil => simp [runeF] at h
  | cons a r =>
    rw [decode_cons _ (by simp)]
    have g0 : (mkS (a :: r)).get! 0 = a := get_mkS rfl
    rw [g0]
    have ha := a.toNat_lt
    rw [runeF] at h ⊢
    by_cases h128 : a.toNat < 128
    · rw [if_pos h128]
      unfold Lib.decodeN
      rw [if_pos h128]
    rw [if_neg h128] at h ⊢
    have hl : lead a.toNat = (if 194 ≤ a.toNat ∧ a.toNat < 224 then (2, a.toNat % 32, 128) else if 224 ≤ a.toNat ∧ a.toNat < 240 then (3, a.toNat % 16, 2048) else if 240 ≤ a.toNat ∧ a.toNat < 245 then (4, a.toNat % 8, 65536) else (0, a.toNat, 0)) := rfl
    by_cases c2 : 194 ≤ a.toNat ∧ a.toNat < 224
    · rw [if_pos c2] at hl
      rw [hl] at h ⊢
      simp only [] at h ⊢
      cases r with
      | nil => simp [tailF] at h
      | cons b r =>
        have g1 : (mkS (a :: b :: r)).get! 1 = b := get_mkS rfl
        rw [g1]
        unfold tailF at h ⊢
        have hn : ¬ ((2 : Nat) = 0 ∨ (a :: b :: r).length < 2) := by simp
        rw [if_neg hn] at h ⊢
        have ht : ((a :: b :: r).take 2).drop 1 = [b] := rfl
        rw [ht] at h ⊢
        have hfold : [b].foldl stepC (a.toNat % 32) = a.toNat % 32 * 64 + b.toNat % 64 := rfl
        rw [hfold] at h ⊢
        split at h
        · rename_i hall
          rw [if_pos hall]
          have hb : b.toNat / 64 = 2 := by simpa using hall
          split at h
          · rename_i hok
            rw [if_pos hok]
            unfold okC at hok
            simp only [Bool.and_eq_true, decide_eq_true_eq, Bool.not_eq_true', Bool.and_eq_false_iff, decide_eq_false_iff_not] at hok
            unfold Lib.decodeN
            rw [if_neg h128, if_pos ⟨by omega, by simp, hb⟩, if_pos hok.1.1]
          · exact absurd rfl h
        · exact absurd rfl h
    rw [if_neg c2] at hl
    by_cases c3 : 224 ≤ a.toNat ∧ a.toNat < 240
    · rw [if_pos c3] at hl
      rw [hl] at h ⊢
      simp only [] at h ⊢
      rcases r with _ | ⟨b, _ | ⟨c, r⟩⟩
      · simp [tailF] at h
      · simp [tailF] at h
      · have g1 : (mkS (a :: b :: c :: r)).get! 1 = b := get_mkS rfl
        have g2 : (mkS (a :: b :: c :: r)).get! 2 = c := get_mkS rfl
        rw [g1, g2]
        unfold tailF at h ⊢
        have hn : ¬ ((3 : Nat) = 0 ∨ (a :: b :: c :: r).length < 3) := by simp
        rw [if_neg hn] at h ⊢
        have ht : ((a :: b :: c :: r).take 3).drop 1 = [b, c] := rfl
        rw [ht] at h ⊢
        have hfold : [b, c].foldl stepC (a.toNat % 16) = (a.toNat % 16 * 64 + b.toNat % 64) * 64 + c.toNat % 64 := rfl
        have hsum : (a.toNat % 16 * 64 + b.toNat % 64) * 64 + c.toNat % 64 = a.toNat % 16 * 4096 + b.toNat % 64 * 64 + c.toNat % 64 := by omega
        rw [hfold, hsum] at h ⊢
        split at h
        · rename_i hall
          rw [if_pos hall]
          have hb : b.toNat / 64 = 2 ∧ c.toNat / 64 = 2 := by simpa using hall
          split at h
          · rename_i hok
            rw [if_pos hok]
            unfold okC at hok
            simp only [Bool.and_eq_true, decide_eq_true_eq, Bool.not_eq_true', Bool.and_eq_false_iff, decide_eq_false_iff_not] at hok
            unfold Lib.decodeN
            rw [if_neg h128, if_neg (by omega), if_pos ⟨by omega, ⟨by simp, hb.1⟩, by simp, hb.2⟩, if_pos ⟨hok.1.1, by omega⟩]
          · exact absurd rfl h
        · exact absurd rfl h
    rw [if_neg c3] at hl
    by_cases c4 : 240 ≤ a.toNat ∧ a.toNat < 245
    · rw [if_pos c4] at hl
      rw [hl] at h ⊢
      simp only [] at h ⊢
      rcases r with _ | ⟨b, _ | ⟨c, _ | ⟨d, r⟩⟩⟩
      · simp [tailF] at h
      · simp [tailF] at h
      · simp [tailF] at h
      · have g1 : (mkS (a :: b :: c :: d :: r)).get! 1 = b := get_mkS rfl
        have g2 : (mkS (a :: b :: c :: d :: r)).get! 2 = c := get_mkS rfl
        have g3 : (mkS (a :: b :: c :: d :: r)).get! 3 = d := get_mkS rfl
        rw [g1, g2, g3]
        unfold tailF at h ⊢
        have hn : ¬ ((4 : Nat) = 0 ∨ (a :: b :: c :: d :: r).length < 4) := by simp
        rw [if_neg hn] at h ⊢
        have ht : ((a :: b :: c :: d :: r).take 4).drop 1 = [b, c, d] := rfl
        rw [ht] at h ⊢
        have hfold : [b, c, d].foldl stepC (a.toNat % 8) = ((a.toNat % 8 * 64 + b.toNat % 64) * 64 + c.toNat % 64) * 64 + d.toNat % 64 := rfl
        have hsum : ((a.toNat % 8 * 64 + b.toNat % 64) * 64 + c.toNat % 64) * 64 + d.toNat % 64 = a.toNat % 8 * 262144 + b.toNat % 64 * 4096 + c.toNat % 64 * 64 + d.toNat % 64 := by omega
        rw [hfold, hsum] at h ⊢
        split at h
        · rename_i hall
          rw [if_pos hall]
          have hb : b.toNat / 64 = 2 ∧ c.toNat / 64 = 2 ∧ d.toNat / 64 = 2 := by simpa using hall
          split at h
          · rename_i hok
            rw [if_pos hok]
            unfold okC at hok
            simp only [Bool.and_eq_true, decide_eq_true_eq, Bool.not_eq_true', Bool.and_eq_false_iff, decide_eq_false_iff_not] at hok
            unfold Lib.decodeN
            rw [if_neg h128, if_neg (by omega), if_neg (by omega), if_pos ⟨by omega, ⟨by simp, hb.1⟩, ⟨by simp, hb.2.1⟩, by simp, hb.2.2⟩, if_pos ⟨hok.1.1, by omega⟩]
          · exact absurd rfl h
        · exact absurd rfl h
    · rw [if_neg c4] at hl
      rw [hl] at h
      simp [tailF] at h
end Go.Proofs.Tryz
set_option linter.unusedVariables false
set_option maxRecDepth 100000
namespace Go.Proofs.Tryz
open Go.Vc

/- F125: bson.writeStringWithEscapes -/
def VC125 (s : List UInt8) (buf : Addr) (escapeHTML : Bool) (w : World) (R : Value → World → Prop) : Prop :=
  Calls prog 140 ⟨[.pointer (some buf), .int .u8 34]⟩ w fun e w1 => e = .returned .nilIface ∧ 
  ∃ Ix : Nat → Int → Int → World → Prop, (∃ m_2, Ix m_2 0 0 w1) ∧
  ∀ m, ∀ start : Int, ∀ i : Int, ∀ w2, Ix m start i w2 →
  (decide (i < (s.length : Int)) = true →
    ∃ x19 : UInt8, ((0 : Int) ≤ i ∧ s[i.toNat]? = some x19) ∧ 
      (decide ((x19.toNat : Int) < 128) = true →
      ∀ Kx : Int → World → Prop, (∀ i_1 : Int, ∀ w3,
        (∀ Kx_1 : World → Prop, (∀ w4,
          (∀ Kx_2 : Bool → World → Prop, (∀ x58 : Bool, ∀ w5,
            ((x58 = true →
              Calls prog 140 ⟨[.pointer (some buf), .int .u8 92]⟩ w5 fun e w6 => e = .returned .nilIface ∧ 
                Calls prog 140 ⟨[.pointer (some buf), .int .u8 (x19.toNat : Int)]⟩ w6 fun e w7 => e = .returned .nilIface ∧ 
                ∃ x97 : Int, IntKind.i64.wrap (i_1 + 1) = x97 ∧ 
                ∃ m_1, m_1 < m ∧ Ix m_1 x97 x97 w7) ∧ (x58 = false →
              (decide ((x19.toNat : Int) = 10) = true →
                Calls prog 140 ⟨[.pointer (some buf), .int .u8 92]⟩ w5 fun e w8 => e = .returned .nilIface ∧ 
                  Calls prog 140 ⟨[.pointer (some buf), .int .u8 110]⟩ w8 fun e w9 => e = .returned .nilIface ∧ 
                  ∃ x97_1 : Int, IntKind.i64.wrap (i_1 + 1) = x97_1 ∧ 
                  ∃ m_1, m_1 < m ∧ Ix m_1 x97_1 x97_1 w9) ∧ (decide ((x19.toNat : Int) = 10) = false →
                (decide ((x19.toNat : Int) = 13) = true →
                  Calls prog 140 ⟨[.pointer (some buf), .int .u8 92]⟩ w5 fun e w10 => e = .returned .nilIface ∧ 
                    Calls prog 140 ⟨[.pointer (some buf), .int .u8 114]⟩ w10 fun e w11 => e = .returned .nilIface ∧ 
                    ∃ x97_2 : Int, IntKind.i64.wrap (i_1 + 1) = x97_2 ∧ 
                    ∃ m_1, m_1 < m ∧ Ix m_1 x97_2 x97_2 w11) ∧ (decide ((x19.toNat : Int) = 13) = false →
                  (decide ((x19.toNat : Int) = 9) = true →
                    Calls prog 140 ⟨[.pointer (some buf), .int .u8 92]⟩ w5 fun e w12 => e = .returned .nilIface ∧ 
                      Calls prog 140 ⟨[.pointer (some buf), .int .u8 116]⟩ w12 fun e w13 => e = .returned .nilIface ∧ 
                      ∃ x97_3 : Int, IntKind.i64.wrap (i_1 + 1) = x97_3 ∧ 
                      ∃ m_1, m_1 < m ∧ Ix m_1 x97_3 x97_3 w13) ∧ (decide ((x19.toNat : Int) = 9) = false →
                    (decide ((x19.toNat : Int) = 8) = true →
                      Calls prog 140 ⟨[.pointer (some buf), .int .u8 92]⟩ w5 fun e w14 => e = .returned .nilIface ∧ 
                        Calls prog 140 ⟨[.pointer (some buf), .int .u8 98]⟩ w14 fun e w15 => e = .returned .nilIface ∧ 
                        ∃ x97_4 : Int, IntKind.i64.wrap (i_1 + 1) = x97_4 ∧ 
                        ∃ m_1, m_1 < m ∧ Ix m_1 x97_4 x97_4 w15) ∧ (decide ((x19.toNat : Int) = 8) = false →
                      (decide ((x19.toNat : Int) = 12) = true →
                        Calls prog 140 ⟨[.pointer (some buf), .int .u8 92]⟩ w5 fun e w16 => e = .returned .nilIface ∧ 
                          Calls prog 140 ⟨[.pointer (some buf), .int .u8 102]⟩ w16 fun e w17 => e = .returned .nilIface ∧ 
                          ∃ x97_5 : Int, IntKind.i64.wrap (i_1 + 1) = x97_5 ∧ 
                          ∃ m_1, m_1 < m ∧ Ix m_1 x97_5 x97_5 w17) ∧ (decide ((x19.toNat : Int) = 12) = false →
                        Calls prog 141 ⟨[.pointer (some buf), .string (mkS [92, 117, 48, 48])]⟩ w5 fun e w18 => ∃ x47 : Int, e = .returned (.tuple ⟨[.int .i64 x47, .nilIface]⟩) ∧ 
                          (0 : Int) ≤ 4 ∧ ∃ x50 : Int, Int.fdiv (x19.toNat : Int) (2 ^ 4) = x50 ∧ 
                          ∃ x51 : UInt8, ((0 : Int) ≤ x50 ∧ [48, 49, 50, 51, 52, 53, 54, 55, 56, 57, 97, 98, 99, 100, 101, 102][x50.toNat]? = some x51) ∧ 
                          Calls prog 140 ⟨[.pointer (some buf), .int .u8 (x51.toNat : Int)]⟩ w18 fun e w19 => e = .returned .nilIface ∧ 
                          ∃ x55 : Int, bits .and .u8 (x19.toNat : Int) 15 = x55 ∧ 
                          ∃ x56 : UInt8, ((0 : Int) ≤ x55 ∧ [48, 49, 50, 51, 52, 53, 54, 55, 56, 57, 97, 98, 99, 100, 101, 102][x55.toNat]? = some x56) ∧ 
                          Calls prog 140 ⟨[.pointer (some buf), .int .u8 (x56.toNat : Int)]⟩ w19 fun e w20 => e = .returned .nilIface ∧ 
                          ∃ x97_6 : Int, IntKind.i64.wrap (i_1 + 1) = x97_6 ∧ 
                          ∃ m_1, m_1 < m ∧ Ix m_1 x97_6 x97_6 w20))))))) → Kx_2 x58 w5) →
            (decide ((x19.toNat : Int) = 92) = true →
            Kx_2 (decide ((x19.toNat : Int) = 92)) w4) ∧ (decide ((x19.toNat : Int) = 92) = false →
            Kx_2 (decide ((x19.toNat : Int) = 34)) w4)) → Kx_1 w4) →
          (decide (start < i_1) = true →
          ((0 : Int) ≤ start ∧ start ≤ i_1 ∧ i_1 ≤ (s.length : Int)) ∧ 
            Calls prog 141 ⟨[.pointer (some buf), .string (mkS ((s.drop start.toNat).take (i_1.toNat - start.toNat)))]⟩ w3 fun e w21 => ∃ x44 : Int, e = .returned (.tuple ⟨[.int .i64 x44, .nilIface]⟩) ∧ 
            Kx_1 w21) ∧ (decide (start < i_1) = false →
          Kx_1 w3)) → Kx i_1 w3) →
        ((0 : Int) ≤ (x19.toNat : Int) ∧ (x19.toNat : Int) < (128 : Int)) ∧ 
        ∃ x24 : Bool, w2.cell? ((⟨5, 0, none⟩ : Addr).add ((x19.toNat : Int).toNat * 1)) = some (.bool x24) ∧ 
        (x24 = true →
        ∃ x35 : Int, IntKind.i64.wrap (i + 1) = x35 ∧ 
          ∃ m_1, m_1 < m ∧ Ix m_1 start x35 w2) ∧ (x24 = false →
        ((!escapeHTML) = true →
          ((0 : Int) ≤ (x19.toNat : Int) ∧ (x19.toNat : Int) < (128 : Int)) ∧ 
            ∃ x31 : Bool, w2.cell? ((⟨6, 0, none⟩ : Addr).add ((x19.toNat : Int).toNat * 1)) = some (.bool x31) ∧ 
            (x31 = true →
            ∃ x35_1 : Int, IntKind.i64.wrap (i + 1) = x35_1 ∧ 
              ∃ m_1, m_1 < m ∧ Ix m_1 start x35_1 w2) ∧ (x31 = false →
            Kx i w2)) ∧ ((!escapeHTML) = false →
          Kx i w2))) ∧ (decide ((x19.toNat : Int) < 128) = false →
      (0 ≤ i ∧ i ≤ (s.length : Int)) ∧ 
        Calls prog 142 ⟨[.string (mkS (s.drop i.toNat))]⟩ w2 fun e w22 => ∃ x103 : Int, ∃ x103_1 : Int, e = .returned (.tuple ⟨[.int .i32 x103, .int .i64 x103_1]⟩) ∧ 
        ∀ Kx_3 : Int → Int → World → Prop, (∀ start_1 : Int, ∀ i_2 : Int, ∀ w23,
        (∀ Kx_4 : Bool → World → Prop, (∀ x132 : Bool, ∀ w24,
          ((x132 = true →
            ∀ Kx_5 : World → Prop, (∀ w25,
              (Calls prog 141 ⟨[.pointer (some buf), .string (mkS [92, 117, 50, 48, 50])]⟩ w25 fun e w26 => ∃ x143 : Int, e = .returned (.tuple ⟨[.int .i64 x143, .nilIface]⟩) ∧ 
                ∃ x146 : Int, bits .and .i32 x103 15 = x146 ∧ 
                ∃ x147 : UInt8, ((0 : Int) ≤ x146 ∧ [48, 49, 50, 51, 52, 53, 54, 55, 56, 57, 97, 98, 99, 100, 101, 102][x146.toNat]? = some x147) ∧ 
                Calls prog 140 ⟨[.pointer (some buf), .int .u8 (x147.toNat : Int)]⟩ w26 fun e w27 => e = .returned .nilIface ∧ 
                ∃ x151 : Int, IntKind.i64.wrap (i_2 + x103_1) = x151 ∧ 
                ∃ m_1, m_1 < m ∧ Ix m_1 x151 x151 w27) → Kx_5 w25) →
              (decide (start_1 < i_2) = true →
              ((0 : Int) ≤ start_1 ∧ start_1 ≤ i_2 ∧ i_2 ≤ (s.length : Int)) ∧ 
                Calls prog 141 ⟨[.pointer (some buf), .string (mkS ((s.drop start_1.toNat).take (i_2.toNat - start_1.toNat)))]⟩ w24 fun e w28 => ∃ x141 : Int, e = .returned (.tuple ⟨[.int .i64 x141, .nilIface]⟩) ∧ 
                Kx_5 w28) ∧ (decide (start_1 < i_2) = false →
              Kx_5 w24)) ∧ (x132 = false →
            ∃ x155 : Int, IntKind.i64.wrap (i_2 + x103_1) = x155 ∧ 
              ∃ m_1, m_1 < m ∧ Ix m_1 start_1 x155 w24)) → Kx_4 x132 w24) →
          (decide (x103 = 8232) = true →
          Kx_4 true w23) ∧ (decide (x103 = 8232) = false →
          Kx_4 (decide (x103 = 8233)) w23)) → Kx_3 start_1 i_2 w23) →
        ∀ Kx_6 : Bool → World → Prop, (∀ x111 : Bool, ∀ w29,
        ((x111 = true →
          ∀ Kx_7 : World → Prop, (∀ w30,
            (Calls prog 141 ⟨[.pointer (some buf), .string (mkS [92, 117, 102, 102, 102, 100])]⟩ w30 fun e w31 => ∃ x122 : Int, e = .returned (.tuple ⟨[.int .i64 x122, .nilIface]⟩) ∧ 
              ∃ x125 : Int, IntKind.i64.wrap (i + x103_1) = x125 ∧ 
              ∃ m_1, m_1 < m ∧ Ix m_1 x125 x125 w31) → Kx_7 w30) →
            (decide (start < i) = true →
            ((0 : Int) ≤ start ∧ start ≤ i ∧ i ≤ (s.length : Int)) ∧ 
              Calls prog 141 ⟨[.pointer (some buf), .string (mkS ((s.drop start.toNat).take (i.toNat - start.toNat)))]⟩ w29 fun e w32 => ∃ x120 : Int, e = .returned (.tuple ⟨[.int .i64 x120, .nilIface]⟩) ∧ 
              Kx_7 w32) ∧ (decide (start < i) = false →
            Kx_7 w29)) ∧ (x111 = false →
          Kx_3 start i w29)) → Kx_6 x111 w29) →
        (decide (x103 = 65533) = true →
        Kx_6 (decide (x103_1 = 1)) w22) ∧ (decide (x103 = 65533) = false →
        Kx_6 false w22))) ∧ (decide (i < (s.length : Int)) = false →
    (decide (start < (s.length : Int)) = true →
      (0 ≤ start ∧ start ≤ (s.length : Int)) ∧ 
        Calls prog 141 ⟨[.pointer (some buf), .string (mkS (s.drop start.toNat))]⟩ w2 fun e w33 => ∃ x164 : Int, e = .returned (.tuple ⟨[.int .i64 x164, .nilIface]⟩) ∧ 
        Calls prog 140 ⟨[.pointer (some buf), .int .u8 34]⟩ w33 fun e w34 => e = .returned .nilIface ∧ 
        R (.tuple ⟨[]⟩) w34) ∧ (decide (start < (s.length : Int)) = false →
      Calls prog 140 ⟨[.pointer (some buf), .int .u8 34]⟩ w2 fun e w35 => e = .returned .nilIface ∧ 
        R (.tuple ⟨[]⟩) w35))
def an125 : Ann :=
  .seq (.reg (.text [.p .n, .p (.sh [.nil])]))
  (.seq (.reg (.text []))
  (.seq (.seq (.reg (.text []))
  (.block (.loop [(6, .int .i64), (7, .int .i64)] [0, 1, 2] (.seq (.seq (.reg (.text []))
  (.cond 1 2 .leaf .leaf))
  (.block (.seq (.seq (.reg (.text []))
  (.seq (.reg (.text []))
  (.cond 3 4 (.cut [(7, .int .i64)] [0, 1, 2, 6, 8] (.seq (.reg (.text [.p .n, .p .n, .p (.sh [.bool]), .p .n, .gs .n 21 22, .p .n, .p .n, .on 22 (.gs .n 23 24) (.p .n), .p .n, .on 23 (.p (.sh [.bool])) (.p .n)]))
  (.on 24 (.no .leaf) (.on 23 (.cond 25 26 (.seq (.reg (.text []))
  .leaf) .leaf) (.yes (.seq (.reg (.text []))
  .leaf)))))
  (.cut [] [0, 1, 2, 7, 8] (.seq (.reg (.text []))
  (.cond 19 20 (.reg (.text [.p .n, .p .n, .p .n, .p .n, .p .n, .p (.sh [.int .i64, .nil])])) .leaf))
  (.seq (.seq (.reg (.text []))
  (.block (.cut [(58, .bool)] [0, 1, 2, 7, 8, 45] (.seq (.reg (.text []))
  (.cond 17 18 .leaf (.reg (.text []))))
  (.cond 5 6 (.seq (.reg (.text [.p .n, .p (.sh [.nil])]))
  (.reg (.text [.p .n, .p .n, .p (.sh [.nil])]))) (.seq (.reg (.text []))
  (.cond 7 8 (.seq (.reg (.text [.p .n, .p (.sh [.nil])]))
  (.reg (.text [.p .n, .p (.sh [.nil])]))) (.seq (.reg (.text []))
  (.cond 9 10 (.seq (.reg (.text [.p .n, .p (.sh [.nil])]))
  (.reg (.text [.p .n, .p (.sh [.nil])]))) (.seq (.reg (.text []))
  (.cond 11 12 (.seq (.reg (.text [.p .n, .p (.sh [.nil])]))
  (.reg (.text [.p .n, .p (.sh [.nil])]))) (.seq (.reg (.text []))
  (.cond 13 14 (.seq (.reg (.text [.p .n, .p (.sh [.nil])]))
  (.reg (.text [.p .n, .p (.sh [.nil])]))) (.seq (.reg (.text []))
  (.cond 15 16 (.seq (.reg (.text [.p .n, .p (.sh [.nil])]))
  (.reg (.text [.p .n, .p (.sh [.nil])]))) (.seq (.reg (.text [.p .n, .p (.sh [.int .i64, .nil])]))
  (.seq (.reg (.text [.p .n, .p .n, .p .n, .p .n, .p (.sh [.nil])]))
  (.reg (.text [.p .n, .p .n, .p .n, .p .n, .p (.sh [.nil])]))))))))))))))))))
  (.seq (.reg (.text []))
  (.seq (.reg (.text []))
  .leaf))))) .leaf)))
  (.seq (.reg (.text [.p .n, .p .n, .p .n, .p (.sh [.int .i32, .int .i64])]))
  (.cut [(6, .int .i64), (7, .int .i64)] [0, 1, 2, 9, 10] (.cut [(111, .bool)] [0, 1, 2, 6, 7, 9, 10] (.reg (.text [.p .n, .p .n, .p .n, .gs .n 37 38]))
  (.cond 33 34 (.cut [] [0, 1, 2, 7, 10] (.seq (.reg (.text []))
  (.cond 35 36 (.reg (.text [.p .n, .p .n, .p .n, .p .n, .p .n, .p (.sh [.int .i64, .nil])])) .leaf))
  (.seq (.reg (.text [.p .n, .p (.sh [.int .i64, .nil])]))
  (.seq (.reg (.text []))
  (.seq (.reg (.text []))
  .leaf)))) .leaf))
  (.seq (.cut [(132, .bool)] [0, 1, 2, 6, 7, 9, 10] (.reg (.text [.p .n, .p .n, .p .n, .gs .n 31 32]))
  (.cond 27 28 (.cut [] [0, 1, 2, 7, 9, 10] (.seq (.reg (.text []))
  (.cond 29 30 (.reg (.text [.p .n, .p .n, .p .n, .p .n, .p .n, .p (.sh [.int .i64, .nil])])) .leaf))
  (.seq (.reg (.text [.p .n, .p (.sh [.int .i64, .nil])]))
  (.seq (.reg (.text [.p .n, .p .n, .p .n, .p .n, .p (.sh [.nil])]))
  (.seq (.reg (.text []))
  (.seq (.reg (.text []))
  .leaf))))) .leaf))
  (.reg (.text [])))))))))))
  (.seq (.seq (.reg (.text []))
  (.cond 39 40 (.reg (.text [.p .n, .p .n, .p .n, .p .n, .p (.sh [.int .i64, .nil])])) .leaf))
  (.reg (.text [.p .n, .p (.sh [.nil])])))))
theorem vcE125 (s : List UInt8) (buf : Addr) (escapeHTML : Bool) (w : World) (R : Value → World → Prop) : vcFn prog f125 an125 [.string (mkS s), .pointer (some buf), .bool escapeHTML] w R = VC125 s buf escapeHTML w R := by kernel_rfl
theorem c125 (s : List UInt8) (buf : Addr) (escapeHTML : Bool) (w : World) (R : Value → World → Prop) (hvc : VC125 s buf escapeHTML w R) : Calls prog 125 ⟨[.string (mkS s), .pointer (some buf), .bool escapeHTML]⟩ w fun e w' => ∃ v, e = .returned v ∧ R v w' :=
  vc_calls mixed (fn := f125) (ann := an125) (by kernel_rfl) ((vcE125 s buf escapeHTML w R).symm ▸ hvc)

end Go.Proofs.Tryz
/- A bytes.Buffer of the call's own, in the words of these texts; a string of JSON written into it. -/
set_option linter.unusedVariables false
namespace Go.Proofs.Tryz
open Go.Vc Go.RowKit

/-- In block b lies a bytes.Buffer that holds these bytes; its row was made behind it. -/
def Buf (b : Nat) (l : List UInt8) (w : World) : Prop := Lib.IsBuffer 69 5 b b (bc l) w
theorem Buf.new (w : World) : Buf w.heap.size [] (w.alloc (.cells ⟨[.slice none 0 0, .int .i64 0, .int .i8 0]⟩ 69)) := Lib.fresh_isBuffer 69 5 w
theorem Buf.lt {b : Nat} {l : List UInt8} {w : World} (h : Buf b l w) : b < w.heap.size := Lib.IsBuffer.lt h
theorem Buf.byte {b : Nat} {l : List UInt8} {w : World} (h : Buf b l w) (x : UInt8) (hl : l.length ≤ 1099511627776) :
    Calls prog 140 ⟨[.pointer (some ⟨b, 0, none⟩), .int .u8 (x.toNat : Int)]⟩ w fun e w' => e = .returned .nilIface ∧ Buf b (l ++ [x]) w' ∧ Below b w w' := by
  refine (Buffer_WriteByte_k b b (bc l) (x.toNat : Int) w h (Nat.le_of_lt h.lt) (bc_one l) (by rw [bc_length]; omega)).mono fun e w' ⟨he, hb, hk, _⟩ => ⟨he, ?_, hk⟩
  unfold Buf
  rw [bc_append]; exact hb
theorem Buf.str {b : Nat} {l : List UInt8} {w : World} (h : Buf b l w) (s : List UInt8) (hl : l.length + s.length ≤ 1099511627776) :
    Calls prog 141 ⟨[.pointer (some ⟨b, 0, none⟩), .string (mkS s)]⟩ w fun e w' => e = .returned (.tuple ⟨[.int .i64 (s.length : Int), .nilIface]⟩) ∧ Buf b (l ++ s) w' ∧ Below b w w' := by
  refine (Buffer_WriteString_k b b (bc l) (mkS s) w h (Nat.le_of_lt h.lt) (bc_one l) (by rw [bc_length]; show l.length + s.length ≤ _; omega)).mono fun e w' ⟨he, hb, hk, _⟩ => ⟨he, ?_, hk⟩
  unfold Buf
  rw [bc_append]; exact hb
theorem keeps_drewN (w : World) (n : Nat) : Keeps w (w.drewN n) := ⟨rfl, rfl, rfl, Nat.le_refl _, fun _ _ => rfl⟩
theorem Buf.out {b : Nat} {l : List UInt8} {w : World} (h : Buf b l w) : Ret 42 [.pointer (some ⟨b, 0, none⟩)] w (.string (mkS l)) :=
  (Buffer_String b b l w h).mono fun e w' ⟨he, n, hn⟩ => ⟨he, by rw [hn]; exact keeps_drewN w n⟩
theorem Buf.bytes {b : Nat} {l : List UInt8} {w : World} (h : Buf b l w) :
    Calls prog 177 ⟨[.pointer (some ⟨b, 0, none⟩)]⟩ w fun e w' => ∃ p n c, e = .returned (.slice p n c) ∧ n = l.length ∧ ReadsB w' p l ∧ (p = none → c = 0) ∧ Keeps w w' := by
  refine (Buffer_Bytes b b (bc l) w h).mono ?_
  rintro e w' ⟨v, rfl, ho, n, hn⟩
  obtain ⟨p, c, rfl⟩ := slice_of_owns ho
  have hown : Own b w' p (bc l).length c l := ⟨ho, bc_length l⟩
  refine ⟨p, _, c, rfl, bc_length l, hown.reads, fun hp => ?_, by rw [hn]; exact keeps_drewN w n⟩
  rcases ho.2 with ⟨hv, _⟩ | ⟨g, cap, cur, hv, _⟩
  · simp only [Value.slice.injEq] at hv; exact hv.2.2
  · simp only [Value.slice.injEq] at hv; rw [hp] at hv; cases hv.1

def htmlB (i : Nat) : Bool := decide (32 ≤ i) && !(i == 34 || i == 92 || i == 60 || i == 62 || i == 38)
def safeB (i : Nat) : Bool := decide (32 ≤ i) && !(i == 34 || i == 92)
/-- The tables that the writer reads. -/
structure Esc (w : World) : Prop where
  html : ∀ i, i < 128 → w.cell? ⟨5, i, none⟩ = some (.bool (htmlB i))
  safe : ∀ i, i < 128 → w.cell? ⟨6, i, none⟩ = some (.bool (safeB i))
  utf : Lib.Utf8Tabs 10 11 w
theorem Esc.keeps {w w' : World} (h : Esc w) (k : Keeps w w') : Esc w' :=
  ⟨fun i hi => k.cell (h.html i hi), fun i hi => k.cell (h.safe i hi), fun c hc => k.cell (h.utf.1 c hc), fun i hi => ⟨k.cell (h.utf.2 i hi).1, k.cell (h.utf.2 i hi).2⟩⟩
theorem Esc.below {w w' : World} (h : Esc w) {B : Nat} (k : Below B w w') (hB : 11 < B) : Esc w' := by
  have c : ∀ {a : Addr} {v : Value}, a.block < B → w.cell? a = some v → w'.cell? a = some v := fun ha hc => below_cell k ha hc
  exact ⟨fun i hi => c (show 5 < B by omega) (h.html i hi), fun i hi => c (show 6 < B by omega) (h.safe i hi), fun x hx => c (show 10 < B by omega) (h.utf.1 x hx), fun i hi => ⟨c (show 11 < B by omega) (h.utf.2 i hi).1, c (show 11 < B by omega) (h.utf.2 i hi).2⟩⟩

theorem rune_big (a : UInt8) (r : List UInt8) (ha : 128 ≤ a.toNat) (h : (runeF (a :: r)).1 ≠ 0) : 2 ≤ (runeF (a :: r)).1 ∧ 128 ≤ (runeF (a :: r)).2 := by
  rw [runeF, if_neg (by omega)] at h ⊢
  have hl : (lead a.toNat).1 = 0 ∨ (2 ≤ (lead a.toNat).1 ∧ 128 ≤ (lead a.toNat).2.2) := by
    unfold lead
    repeat' split
    all_goals simp
  generalize (lead a.toNat).1 = n at *
  generalize (lead a.toNat).2.1 = c at *
  generalize (lead a.toNat).2.2 = q at *
  unfold tailF at h ⊢
  split at h
  · exact absurd rfl h
  · rename_i hn
    rw [if_neg hn]
    split at h
    · rename_i hall
      rw [if_pos hall]
      split at h
      · rename_i hok
        rw [if_pos hok]
        unfold okC at hok
        simp only [Bool.and_eq_true, decide_eq_true_eq] at hok
        exact ⟨by omega, by omega⟩
      · exact absurd rfl h
    · exact absurd rfl h

theorem drop_cons {s : List UInt8} {i : Nat} {b : UInt8} (h : s[i]? = some b) : s.drop i = b :: s.drop (i + 1) := by
  obtain ⟨hlt, he⟩ := List.getElem?_eq_some_iff.1 h
  rw [List.drop_eq_getElem_cons hlt, he]
theorem seg_step (s : List UInt8) (a i n : Nat) (h : a ≤ i) : (s.drop a).take (i + n - a) = (s.drop a).take (i - a) ++ (s.drop i).take n := by
  have e : i + n - a = (i - a) + n := by omega
  rw [e, List.take_add, List.drop_drop]
  congr 2
  congr 1
  omega

theorem hex_and15 (x : Nat) (hx : x < 256) : bits .and .u8 (x : Int) 15 = ((x % 16 : Nat) : Int) := by
  have := (bits_nat .u8 8 (by decide) (fun n h0 h1 => u8w h0 (by have : (2 : Int) ^ 8 = 256 := rfl; omega)) x 15 (by omega) (by decide)).1
  rw [show (15 : Nat) = 2 ^ 4 - 1 from rfl, Nat.and_two_pow_sub_one_eq_mod] at this
  exact this
theorem hex_and15i (x : Nat) (hx : x < 2147483648) : bits .and .i32 (x : Int) 15 = ((x % 16 : Nat) : Int) := by
  have := (bits_nat .i32 31 (by decide) (fun n h0 h1 => i32w (by omega) (by have : (2 : Int) ^ 31 = 2147483648 := rfl; omega)) x 15 (by omega) (by decide)).1
  rw [show (15 : Nat) = 2 ^ 4 - 1 from rfl, Nat.and_two_pow_sub_one_eq_mod] at this
  exact this
end Go.Proofs.Tryz
