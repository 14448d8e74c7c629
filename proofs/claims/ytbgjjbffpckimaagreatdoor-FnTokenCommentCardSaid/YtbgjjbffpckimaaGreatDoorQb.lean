/-
  The tokens of a text: the scanner: characters, blanks.
-/
import Derived.Test.YtbgjjbffpckimaaGreatDoorProg
import Derived.Shelf.Bytes.WriteByte
import Derived.Shelf.Bytes.WriteString
import Derived.Shelf.Bytes.String
import Derived.Shelf.Strconv.ParseIntPublic10
import Derived.Shelf.Strings.Repeat
import Derived.Test.YtbgjjbffpckimaaGreatDoorQa
namespace Go.Proofs.YtbgjjbffpckimaaGreatDoor
set_option linter.all false
open Go.RowKit Go.Shelf
def laysM179_ren : Go.Shelf.Ren := ⟨fun | 179 => 64 | 251 => 74 | 252 => 75 | 181 => 91 | 184 => 92 | 290 => 93 | 324 => 107 | n => n, fun | 130 => 80 | 5 => 5 | 75 => 56 | 0 => 0 | 93 => 79 | 91 => 77 | 3 => 3 | 131 => 84 | 4 => 4 | 37 => 36 | 20 => 20 | 80 => 83 | 9 => 9 | n => n, fun | 14 => 4 | n => n⟩

theorem laysM179 : Go.Proofs.LaysM.n179 Tryz.prog laysM179_ren := {
  mixed := by kernel_rfl
  f179 := Tryz.func64.trans (congrArg some (by kernel_rfl))
  f181 := Tryz.func91.trans (congrArg some (by kernel_rfl))
  f184 := Tryz.func92.trans (congrArg some (by kernel_rfl))
  f251 := Tryz.func74.trans (congrArg some (by kernel_rfl))
  f252 := Tryz.func75.trans (congrArg some (by kernel_rfl))
  f290 := Tryz.func93.trans (congrArg some (by kernel_rfl))
  f324 := Tryz.func107.trans (congrArg some (by kernel_rfl))
  t0 := Tryz.underlying0
  a0 := Tryz.isAgg0
  z0 := Tryz.sizeOf0
  v0 := Tryz.zeroValue0
  t3 := Tryz.underlying3
  a3 := Tryz.isAgg3
  z3 := Tryz.sizeOf3
  v3 := Tryz.zeroValue3
  t4 := Tryz.underlying4
  a4 := Tryz.isAgg4
  z4 := Tryz.sizeOf4
  v4 := Tryz.zeroValue4
  t5 := Tryz.underlying5
  a5 := Tryz.isAgg5
  z5 := Tryz.sizeOf5
  v5 := Tryz.zeroValue5
  t20 := Tryz.underlying20
  a20 := Tryz.isAgg20
  z20 := Tryz.sizeOf20
  v20 := Tryz.zeroValue20
  t37 := Tryz.underlying36
  a37 := Tryz.isAgg36
  z37 := Tryz.sizeOf36
  v37 := Tryz.zeroValue36
  t75 := Tryz.underlying56
  a75 := Tryz.isAgg56
  z75 := Tryz.sizeOf56
  v75 := Tryz.zeroValue56
  t91 := Tryz.underlying77
  a91 := Tryz.isAgg77
  z91 := Tryz.sizeOf77
  v91 := Tryz.zeroValue77
  t93 := Tryz.underlying79
  a93 := Tryz.isAgg79
  z93 := Tryz.sizeOf79
  v93 := Tryz.zeroValue79
  t130 := Tryz.underlying80
  a130 := Tryz.isAgg80
  z130 := Tryz.sizeOf80
  v130 := Tryz.zeroValue80
  t131 := Tryz.underlying84
  a131 := Tryz.isAgg84
  z131 := Tryz.sizeOf84
  v131 := Tryz.zeroValue84
  g14 := by kernel_rfl
  t9 := Tryz.underlying9
  a9 := Tryz.isAgg9
  z9 := Tryz.sizeOf9
  v9 := Tryz.zeroValue9
  t80 := Tryz.underlying83
  a80 := Tryz.isAgg83
  z80 := Tryz.sizeOf83
  v80 := Tryz.zeroValue83
  i0 := by kernel_rfl
  i3 := by kernel_rfl
  i4 := by kernel_rfl
  i5 := by kernel_rfl
  i9 := by kernel_rfl
  i20 := by kernel_rfl
  i37 := by kernel_rfl
  i75 := by kernel_rfl
  i80 := by kernel_rfl
  i91 := by kernel_rfl
  i93 := by kernel_rfl
  i130 := by kernel_rfl
  i131 := by kernel_rfl
  m14 := by kernel_rfl }

theorem Buffer_WriteByte (B b : Nat) (bs : List Value) (c : Int) (w : World) (h : Lib.IsBuffer 79 5 B b bs w) (hBw : B ≤ w.heap.size) (h1 : ∀ v ∈ bs, v.oneCell' = true) (hlim : bs.length + 1 ≤ 140737488355328) :
    Calls Tryz.prog 64 #[.pointer (some ⟨b, 0, none⟩), .int .u8 c] w fun e w' => e = .returned .nilIface ∧ Lib.IsBuffer 79 5 B b (bs ++ [.int .u8 c]) w' ∧ Below B w w' := Any.Buffer_WriteByte laysM179 B b bs c w h hBw h1 hlim

def laysM178_ren : Go.Shelf.Ren := ⟨fun | 178 => 65 | 251 => 74 | 252 => 75 | 181 => 91 | 184 => 92 | 290 => 93 | 324 => 107 | n => n, fun | 130 => 80 | 9 => 9 | 3 => 3 | 75 => 56 | 0 => 0 | 93 => 79 | 91 => 77 | 131 => 84 | 4 => 4 | 37 => 36 | 20 => 20 | 80 => 83 | 5 => 5 | n => n, fun | 14 => 4 | n => n⟩

theorem laysM178 : Go.Proofs.LaysM.n178 Tryz.prog laysM178_ren := {
  mixed := by kernel_rfl
  f178 := Tryz.func65.trans (congrArg some (by kernel_rfl))
  f181 := Tryz.func91.trans (congrArg some (by kernel_rfl))
  f184 := Tryz.func92.trans (congrArg some (by kernel_rfl))
  f251 := Tryz.func74.trans (congrArg some (by kernel_rfl))
  f252 := Tryz.func75.trans (congrArg some (by kernel_rfl))
  f290 := Tryz.func93.trans (congrArg some (by kernel_rfl))
  f324 := Tryz.func107.trans (congrArg some (by kernel_rfl))
  t0 := Tryz.underlying0
  a0 := Tryz.isAgg0
  z0 := Tryz.sizeOf0
  v0 := Tryz.zeroValue0
  t3 := Tryz.underlying3
  a3 := Tryz.isAgg3
  z3 := Tryz.sizeOf3
  v3 := Tryz.zeroValue3
  t4 := Tryz.underlying4
  a4 := Tryz.isAgg4
  z4 := Tryz.sizeOf4
  v4 := Tryz.zeroValue4
  t9 := Tryz.underlying9
  a9 := Tryz.isAgg9
  z9 := Tryz.sizeOf9
  v9 := Tryz.zeroValue9
  t20 := Tryz.underlying20
  a20 := Tryz.isAgg20
  z20 := Tryz.sizeOf20
  v20 := Tryz.zeroValue20
  t37 := Tryz.underlying36
  a37 := Tryz.isAgg36
  z37 := Tryz.sizeOf36
  v37 := Tryz.zeroValue36
  t75 := Tryz.underlying56
  a75 := Tryz.isAgg56
  z75 := Tryz.sizeOf56
  v75 := Tryz.zeroValue56
  t91 := Tryz.underlying77
  a91 := Tryz.isAgg77
  z91 := Tryz.sizeOf77
  v91 := Tryz.zeroValue77
  t93 := Tryz.underlying79
  a93 := Tryz.isAgg79
  z93 := Tryz.sizeOf79
  v93 := Tryz.zeroValue79
  t130 := Tryz.underlying80
  a130 := Tryz.isAgg80
  z130 := Tryz.sizeOf80
  v130 := Tryz.zeroValue80
  t131 := Tryz.underlying84
  a131 := Tryz.isAgg84
  z131 := Tryz.sizeOf84
  v131 := Tryz.zeroValue84
  g14 := by kernel_rfl
  t5 := Tryz.underlying5
  a5 := Tryz.isAgg5
  z5 := Tryz.sizeOf5
  v5 := Tryz.zeroValue5
  t80 := Tryz.underlying83
  a80 := Tryz.isAgg83
  z80 := Tryz.sizeOf83
  v80 := Tryz.zeroValue83
  i0 := by kernel_rfl
  i3 := by kernel_rfl
  i4 := by kernel_rfl
  i5 := by kernel_rfl
  i9 := by kernel_rfl
  i20 := by kernel_rfl
  i37 := by kernel_rfl
  i75 := by kernel_rfl
  i80 := by kernel_rfl
  i91 := by kernel_rfl
  i93 := by kernel_rfl
  i130 := by kernel_rfl
  i131 := by kernel_rfl
  m14 := by kernel_rfl }

theorem Buffer_WriteString (B b : Nat) (bs : List Value) (s : ByteArray) (w : World) (h : Lib.IsBuffer 79 5 B b bs w) (hBw : B ≤ w.heap.size) (h1 : ∀ v ∈ bs, v.oneCell' = true) (hlim : bs.length + s.size ≤ 140737488355328) :
    Calls Tryz.prog 65 #[.pointer (some ⟨b, 0, none⟩), .string s] w fun e w' => e = .returned (.tuple #[.int .i64 s.size, .nilIface]) ∧ Lib.IsBuffer 79 5 B b (bs ++ Lib.byteCells s.data.toList) w' ∧ Below B w w' := Any.Buffer_WriteString laysM178 B b bs s w h hBw h1 hlim

def laysM182_ren : Go.Shelf.Ren := ⟨fun | 182 => 31 | n => n, fun | 130 => 80 | 9 => 9 | 4 => 4 | 0 => 0 | 93 => 79 | 37 => 36 | 3 => 3 | 91 => 77 | 5 => 5 | n => n, fun | n => n⟩

theorem laysM182 : Go.Proofs.LaysM.n182 Tryz.prog laysM182_ren := {
  mixed := by kernel_rfl
  f182 := Tryz.func31.trans (congrArg some (by kernel_rfl))
  t0 := Tryz.underlying0
  a0 := Tryz.isAgg0
  z0 := Tryz.sizeOf0
  v0 := Tryz.zeroValue0
  t3 := Tryz.underlying3
  a3 := Tryz.isAgg3
  z3 := Tryz.sizeOf3
  v3 := Tryz.zeroValue3
  t4 := Tryz.underlying4
  a4 := Tryz.isAgg4
  z4 := Tryz.sizeOf4
  v4 := Tryz.zeroValue4
  t9 := Tryz.underlying9
  a9 := Tryz.isAgg9
  z9 := Tryz.sizeOf9
  v9 := Tryz.zeroValue9
  t37 := Tryz.underlying36
  a37 := Tryz.isAgg36
  z37 := Tryz.sizeOf36
  v37 := Tryz.zeroValue36
  t93 := Tryz.underlying79
  a93 := Tryz.isAgg79
  z93 := Tryz.sizeOf79
  v93 := Tryz.zeroValue79
  t130 := Tryz.underlying80
  a130 := Tryz.isAgg80
  z130 := Tryz.sizeOf80
  v130 := Tryz.zeroValue80
  t5 := Tryz.underlying5
  a5 := Tryz.isAgg5
  z5 := Tryz.sizeOf5
  v5 := Tryz.zeroValue5
  t91 := Tryz.underlying77
  a91 := Tryz.isAgg77
  z91 := Tryz.sizeOf77
  v91 := Tryz.zeroValue77
  i0 := by kernel_rfl
  i3 := by kernel_rfl
  i4 := by kernel_rfl
  i5 := by kernel_rfl
  i9 := by kernel_rfl
  i37 := by kernel_rfl
  i91 := by kernel_rfl
  i93 := by kernel_rfl
  i130 := by kernel_rfl }

theorem Buffer_String (B b : Nat) (l : List UInt8) (w : World) (h : Lib.IsBuffer 79 5 B b (Lib.byteCells l) w) :
    Calls Tryz.prog 31 #[.pointer (some ⟨b, 0, none⟩)] w fun e w' => e = .returned (.string ⟨l.toArray⟩) ∧ ∃ n, w' = w.drewN n := Any.Buffer_String laysM182 B b l w h

def laysC174_ren : Go.Shelf.Ren := ⟨fun | 174 => 73 | 247 => 89 | 245 => 90 | 287 => 102 | 279 => 103 | 280 => 104 | 281 => 105 | 282 => 106 | 321 => 110 | 322 => 111 | 316 => 112 | 171 => 114 | 205 => 113 | 243 => 115 | 246 => 116 | 283 => 117 | 284 => 118 | 285 => 119 | 286 => 120 | 129 => 122 | 317 => 121 | 318 => 123 | 319 => 124 | 320 => 125 | 337 => 126 | 338 => 127 | n => n, fun | 9 => 9 | 3 => 3 | 2 => 2 | 75 => 56 | 85 => 118 | 4 => 4 | 167 => 141 | 5 => 5 | 53 => 135 | 175 => 142 | 46 => 103 | 168 => 144 | 37 => 36 | 0 => 0 | 210 => 153 | 21 => 21 | 127 => 138 | 145 => 157 | 143 => 155 | 171 => 159 | 173 => 162 | 212 => 165 | 51 => 132 | 20 => 20 | 213 => 166 | 232 => 169 | 233 => 170 | 80 => 83 | n => n, fun | 15 => 7 | 16 => 8 | 17 => 10 | 18 => 11 | 19 => 12 | n => n⟩

theorem laysC174 : Go.Proofs.LaysC.n174 Tryz.prog laysC174_ren := {
  mixed := by kernel_rfl
  f129 := Tryz.func122.trans (congrArg some (by kernel_rfl))
  f171 := Tryz.func114.trans (congrArg some (by kernel_rfl))
  f174 := Tryz.func73.trans (congrArg some (by kernel_rfl))
  f205 := Tryz.func113.trans (congrArg some (by kernel_rfl))
  f243 := Tryz.func115.trans (congrArg some (by kernel_rfl))
  f245 := Tryz.func90.trans (congrArg some (by kernel_rfl))
  f246 := Tryz.func116.trans (congrArg some (by kernel_rfl))
  f247 := Tryz.func89.trans (congrArg some (by kernel_rfl))
  f279 := Tryz.func103.trans (congrArg some (by kernel_rfl))
  f280 := Tryz.func104.trans (congrArg some (by kernel_rfl))
  f281 := Tryz.func105.trans (congrArg some (by kernel_rfl))
  f282 := Tryz.func106.trans (congrArg some (by kernel_rfl))
  f283 := Tryz.func117.trans (congrArg some (by kernel_rfl))
  f284 := Tryz.func118.trans (congrArg some (by kernel_rfl))
  f285 := Tryz.func119.trans (congrArg some (by kernel_rfl))
  f286 := Tryz.func120.trans (congrArg some (by kernel_rfl))
  f287 := Tryz.func102.trans (congrArg some (by kernel_rfl))
  f316 := Tryz.func112.trans (congrArg some (by kernel_rfl))
  f317 := Tryz.func121.trans (congrArg some (by kernel_rfl))
  f318 := Tryz.func123.trans (congrArg some (by kernel_rfl))
  f319 := Tryz.func124.trans (congrArg some (by kernel_rfl))
  f320 := Tryz.func125.trans (congrArg some (by kernel_rfl))
  f321 := Tryz.func110.trans (congrArg some (by kernel_rfl))
  f322 := Tryz.func111.trans (congrArg some (by kernel_rfl))
  f337 := Tryz.func126.trans (congrArg some (by kernel_rfl))
  f338 := Tryz.func127.trans (congrArg some (by kernel_rfl))
  t0 := Tryz.underlying0
  a0 := Tryz.isAgg0
  z0 := Tryz.sizeOf0
  v0 := Tryz.zeroValue0
  t2 := Tryz.underlying2
  a2 := Tryz.isAgg2
  z2 := Tryz.sizeOf2
  v2 := Tryz.zeroValue2
  t3 := Tryz.underlying3
  a3 := Tryz.isAgg3
  z3 := Tryz.sizeOf3
  v3 := Tryz.zeroValue3
  t4 := Tryz.underlying4
  a4 := Tryz.isAgg4
  z4 := Tryz.sizeOf4
  v4 := Tryz.zeroValue4
  t5 := Tryz.underlying5
  a5 := Tryz.isAgg5
  z5 := Tryz.sizeOf5
  v5 := Tryz.zeroValue5
  t9 := Tryz.underlying9
  a9 := Tryz.isAgg9
  z9 := Tryz.sizeOf9
  v9 := Tryz.zeroValue9
  t20 := Tryz.underlying20
  a20 := Tryz.isAgg20
  z20 := Tryz.sizeOf20
  v20 := Tryz.zeroValue20
  t21 := Tryz.underlying21
  a21 := Tryz.isAgg21
  z21 := Tryz.sizeOf21
  v21 := Tryz.zeroValue21
  t37 := Tryz.underlying36
  a37 := Tryz.isAgg36
  z37 := Tryz.sizeOf36
  v37 := Tryz.zeroValue36
  t46 := Tryz.underlying103
  a46 := Tryz.isAgg103
  z46 := Tryz.sizeOf103
  v46 := Tryz.zeroValue103
  t51 := Tryz.underlying132
  a51 := Tryz.isAgg132
  z51 := Tryz.sizeOf132
  v51 := Tryz.zeroValue132
  t53 := Tryz.underlying135
  a53 := Tryz.isAgg135
  z53 := Tryz.sizeOf135
  v53 := Tryz.zeroValue135
  t75 := Tryz.underlying56
  a75 := Tryz.isAgg56
  z75 := Tryz.sizeOf56
  v75 := Tryz.zeroValue56
  t85 := Tryz.underlying118
  a85 := Tryz.isAgg118
  z85 := Tryz.sizeOf118
  v85 := Tryz.zeroValue118
  t127 := Tryz.underlying138
  a127 := Tryz.isAgg138
  z127 := Tryz.sizeOf138
  v127 := Tryz.zeroValue138
  t143 := Tryz.underlying155
  a143 := Tryz.isAgg155
  z143 := Tryz.sizeOf155
  v143 := Tryz.zeroValue155
  t145 := Tryz.underlying157
  a145 := Tryz.isAgg157
  z145 := Tryz.sizeOf157
  v145 := Tryz.zeroValue157
  t167 := Tryz.underlying141
  a167 := Tryz.isAgg141
  z167 := Tryz.sizeOf141
  v167 := Tryz.zeroValue141
  t168 := Tryz.underlying144
  a168 := Tryz.isAgg144
  z168 := Tryz.sizeOf144
  v168 := Tryz.zeroValue144
  t171 := Tryz.underlying159
  a171 := Tryz.isAgg159
  z171 := Tryz.sizeOf159
  v171 := Tryz.zeroValue159
  t173 := Tryz.underlying162
  a173 := Tryz.isAgg162
  z173 := Tryz.sizeOf162
  v173 := Tryz.zeroValue162
  t175 := Tryz.underlying142
  a175 := Tryz.isAgg142
  z175 := Tryz.sizeOf142
  v175 := Tryz.zeroValue142
  t210 := Tryz.underlying153
  a210 := Tryz.isAgg153
  z210 := Tryz.sizeOf153
  v210 := Tryz.zeroValue153
  t212 := Tryz.underlying165
  a212 := Tryz.isAgg165
  z212 := Tryz.sizeOf165
  v212 := Tryz.zeroValue165
  t213 := Tryz.underlying166
  a213 := Tryz.isAgg166
  z213 := Tryz.sizeOf166
  t232 := Tryz.underlying169
  a232 := Tryz.isAgg169
  z232 := Tryz.sizeOf169
  v232 := Tryz.zeroValue169
  t233 := Tryz.underlying170
  a233 := Tryz.isAgg170
  z233 := Tryz.sizeOf170
  v233 := Tryz.zeroValue170
  g15 := by kernel_rfl
  g16 := by kernel_rfl
  g17 := by kernel_rfl
  g18 := by kernel_rfl
  g19 := by kernel_rfl
  t80 := Tryz.underlying83
  a80 := Tryz.isAgg83
  z80 := Tryz.sizeOf83
  v80 := Tryz.zeroValue83
  i0 := by kernel_rfl
  i2 := by kernel_rfl
  i3 := by kernel_rfl
  i4 := by kernel_rfl
  i5 := by kernel_rfl
  i9 := by kernel_rfl
  i20 := by kernel_rfl
  i21 := by kernel_rfl
  i37 := by kernel_rfl
  i46 := by kernel_rfl
  i51 := by kernel_rfl
  i53 := by kernel_rfl
  i75 := by kernel_rfl
  i80 := by kernel_rfl
  i85 := by kernel_rfl
  i127 := by kernel_rfl
  i143 := by kernel_rfl
  i145 := by kernel_rfl
  i167 := by kernel_rfl
  i168 := by kernel_rfl
  i171 := by kernel_rfl
  i173 := by kernel_rfl
  i175 := by kernel_rfl
  i210 := by kernel_rfl
  i212 := by kernel_rfl
  i232 := by kernel_rfl
  i233 := by kernel_rfl
  m15 := by kernel_rfl
  m16 := by kernel_rfl
  m17 := by kernel_rfl
  m18 := by kernel_rfl
  m19 := by kernel_rfl
  c0 := by kernel_rfl
  c2 := by kernel_rfl
  c3 := by kernel_rfl
  c4 := by kernel_rfl
  c5 := by kernel_rfl
  c9 := by kernel_rfl
  c20 := by kernel_rfl
  c21 := by kernel_rfl
  c37 := by kernel_rfl
  c46 := by kernel_rfl
  c51 := by kernel_rfl
  c53 := by kernel_rfl
  c75 := by kernel_rfl
  c80 := by kernel_rfl
  c85 := by kernel_rfl
  c127 := by kernel_rfl
  c143 := by kernel_rfl
  c145 := by kernel_rfl
  c167 := by kernel_rfl
  c168 := by kernel_rfl
  c171 := by kernel_rfl
  c173 := by kernel_rfl
  c175 := by kernel_rfl
  c210 := by kernel_rfl
  c212 := by kernel_rfl
  c213 := by kernel_rfl
  c232 := by kernel_rfl
  c233 := by kernel_rfl }

theorem strconv_ParseInt_10_at32_ok (s : ByteArray) (hmax : s.size ≤ 9223372036854775806) (v : Int) (h : Lib.parseIntB 32 s.data.toList = .ok v) (w : World) :
    Calls Tryz.prog 73 #[.string s, .int .i64 10, .int .i64 32] w fun e w' => e = .returned (.tuple #[.int .i64 v, .nilIface]) ∧ (w' = w ∨ ∃ t, w' = Lib.bytesWorld w 5 t) := Any.strconv_ParseInt_10_at32_ok laysC174 s hmax v h w

def lays105_ren : Go.Shelf.Ren := ⟨fun | 105 => 66 | 212 => 76 | 99 => 77 | 165 => 78 | 166 => 79 | 170 => 80 | 169 => 81 | 263 => 94 | 264 => 95 | 206 => 96 | 240 => 97 | 241 => 98 | 276 => 108 | 277 => 109 | n => n, fun | 9 => 9 | 3 => 3 | 4 => 4 | 20 => 20 | 0 => 0 | 46 => 103 | 109 => 122 | 5 => 5 | 72 => 126 | 76 => 108 | 51 => 132 | 146 => 133 | 53 => 135 | 148 => 136 | 70 => 124 | 37 => 36 | 75 => 56 | 127 => 138 | 164 => 147 | 80 => 83 | n => n, fun | n => n⟩

theorem lays105 : Go.Proofs.Lays.n105 Tryz.prog lays105_ren := {
  mixed := by kernel_rfl
  f99 := Tryz.func77.trans (congrArg some (by kernel_rfl))
  f105 := Tryz.func66.trans (congrArg some (by kernel_rfl))
  f165 := Tryz.func78.trans (congrArg some (by kernel_rfl))
  f166 := Tryz.func79.trans (congrArg some (by kernel_rfl))
  f169 := Tryz.func81.trans (congrArg some (by kernel_rfl))
  f170 := Tryz.func80.trans (congrArg some (by kernel_rfl))
  f206 := Tryz.func96.trans (congrArg some (by kernel_rfl))
  f212 := Tryz.func76.trans (congrArg some (by kernel_rfl))
  f240 := Tryz.func97.trans (congrArg some (by kernel_rfl))
  f241 := Tryz.func98.trans (congrArg some (by kernel_rfl))
  f263 := Tryz.func94.trans (congrArg some (by kernel_rfl))
  f264 := Tryz.func95.trans (congrArg some (by kernel_rfl))
  f276 := Tryz.func108.trans (congrArg some (by kernel_rfl))
  f277 := Tryz.func109.trans (congrArg some (by kernel_rfl))
  t0 := Tryz.underlying0
  a0 := Tryz.isAgg0
  z0 := Tryz.sizeOf0
  v0 := Tryz.zeroValue0
  t3 := Tryz.underlying3
  a3 := Tryz.isAgg3
  z3 := Tryz.sizeOf3
  v3 := Tryz.zeroValue3
  t4 := Tryz.underlying4
  a4 := Tryz.isAgg4
  z4 := Tryz.sizeOf4
  v4 := Tryz.zeroValue4
  t5 := Tryz.underlying5
  a5 := Tryz.isAgg5
  z5 := Tryz.sizeOf5
  v5 := Tryz.zeroValue5
  t9 := Tryz.underlying9
  a9 := Tryz.isAgg9
  z9 := Tryz.sizeOf9
  v9 := Tryz.zeroValue9
  t20 := Tryz.underlying20
  a20 := Tryz.isAgg20
  z20 := Tryz.sizeOf20
  v20 := Tryz.zeroValue20
  t37 := Tryz.underlying36
  a37 := Tryz.isAgg36
  z37 := Tryz.sizeOf36
  v37 := Tryz.zeroValue36
  t46 := Tryz.underlying103
  a46 := Tryz.isAgg103
  z46 := Tryz.sizeOf103
  v46 := Tryz.zeroValue103
  t51 := Tryz.underlying132
  a51 := Tryz.isAgg132
  z51 := Tryz.sizeOf132
  v51 := Tryz.zeroValue132
  t53 := Tryz.underlying135
  a53 := Tryz.isAgg135
  z53 := Tryz.sizeOf135
  v53 := Tryz.zeroValue135
  t70 := Tryz.underlying124
  a70 := Tryz.isAgg124
  z70 := Tryz.sizeOf124
  v70 := Tryz.zeroValue124
  t72 := Tryz.underlying126
  a72 := Tryz.isAgg126
  z72 := Tryz.sizeOf126
  v72 := Tryz.zeroValue126
  t75 := Tryz.underlying56
  a75 := Tryz.isAgg56
  z75 := Tryz.sizeOf56
  v75 := Tryz.zeroValue56
  t76 := Tryz.underlying108
  a76 := Tryz.isAgg108
  z76 := Tryz.sizeOf108
  v76 := Tryz.zeroValue108
  t109 := Tryz.underlying122
  a109 := Tryz.isAgg122
  z109 := Tryz.sizeOf122
  v109 := Tryz.zeroValue122
  t127 := Tryz.underlying138
  a127 := Tryz.isAgg138
  z127 := Tryz.sizeOf138
  v127 := Tryz.zeroValue138
  t146 := Tryz.underlying133
  a146 := Tryz.isAgg133
  z146 := Tryz.sizeOf133
  v146 := Tryz.zeroValue133
  t148 := Tryz.underlying136
  a148 := Tryz.isAgg136
  z148 := Tryz.sizeOf136
  v148 := Tryz.zeroValue136
  t164 := Tryz.underlying147
  a164 := Tryz.isAgg147
  z164 := Tryz.sizeOf147
  v164 := Tryz.zeroValue147 }

theorem Builder_Extra_105 : Builder.Extra Tryz.prog lays105_ren := {
  sizeBuilder := by kernel_rfl
  liesBuilder := by kernel_rfl
  t5 := Tryz.underlying5
  a5 := Tryz.isAgg5
  z5 := Tryz.sizeOf5
  v5 := Tryz.zeroValue5
  infoByte := by kernel_rfl
  cellsByte := by kernel_rfl
  sizeByte := by kernel_rfl
  neB5 := by decide }

theorem strings_Repeat (s : ByteArray) (c : Nat) (w : World) (hc : c ≤ 9223372036854775807) (hlen : s.size * c ≤ 140737488355328) :
    Calls Tryz.prog 66 #[.string s, .int .i64 c] w fun e w' => e = .returned (.string ⟨(Lib.repeatL s.data.toList c).toArray⟩) ∧ Below w.heap.size w w' := Any.strings_Repeat lays105 Builder_Extra_105 s c w hc hlen
end Go.Proofs.YtbgjjbffpckimaaGreatDoor

namespace Go.Proofs.YtbgjjbffpckimaaGreatDoor
set_option linter.all false
open Go.RowKit

/-- The blocks of a scanner. -/
structure Bl where
  Z : Nat
  B : Nat
  F : Nat
  S : Nat
  X : Addr
def Tr (b : Bl) (k : Nat) : Prop := Tz b.Z b.B b.F b.S k

/-- The next byte, -1 at the end. -/
def hd : Bs → Int
  | [] => -1
  | c :: _ => (c.toNat : Int)

/-- A scanner: what is left of its text, and its line. -/
structure Rd (w : World) (b : Bl) (r : Bs) (L : Int) : Prop where
  sc : ∃ s i, Sc w b.Z b.B b.F b.S b.X s i ∧ s.data.toList.drop i = r ∧ i ≤ s.size
  ln : w.cell? ⟨b.Z, 1, none⟩ = some (.int .i64 L)
  lo : -1 ≤ L
  hi : L + (r.length : Int) ≤ 4100

section
variable {w w' : World} {b : Bl} {r : Bs} {L : Int}
theorem Rd.keep {T : Nat → Prop} (h : Rd w b r L) (hc : Ch T w w') (hT : ∀ k, Tr b k → ¬ T k) (h2 : ¬ T 2) : Rd w' b r L := by
  obtain ⟨s, i, hs, hr⟩ := h.sc
  exact ⟨⟨s, i, hs.keep hc hT h2, hr⟩, hc.cell_some h.ln (hT _ (.inl rfl)), h.lo, h.hi⟩
theorem Rd.moved (h : Rd w b r L) (hc : Ch (fun _ => False) w w') : Rd w' b r L := h.keep hc (fun _ _ => id) id
theorem Rd.size (h : Rd w b r L) : ∀ k, Tr b k → k < w.heap.size := by
  obtain ⟨s, i, hs, hr⟩ := h.sc
  obtain ⟨r, u, lb, hb, _⟩ := hs.bio
  rintro k (rfl | rfl | rfl | rfl)
  · exact World.block_lt_of_cell? w _ hs.z3
  · exact World.block_lt_of_cell? w _ hb.b0
  · obtain ⟨v, hv⟩ := Option.isSome_iff_exists.1 (hb.f 0 (by omega))
    exact World.block_lt_of_cell? w _ hv
  · exact World.block_lt_of_cell? w _ hb.s0
theorem Rd.z0 (h : Rd w b r L) : ∃ v : ByteArray, w.cell? ⟨b.Z, 0, none⟩ = some (.string v) := by
  obtain ⟨s, i, hs, hr⟩ := h.sc
  exact hs.z0
theorem Rd.z2 (h : Rd w b r L) : ∃ v : Int, w.cell? ⟨b.Z, 2, none⟩ = some (.int .i64 v) := by
  obtain ⟨s, i, hs, hr⟩ := h.sc
  exact hs.z2
theorem Rd.zz (h : Rd w b r L) : ∀ j, w.frozen? ⟨b.Z, j, none⟩ = false := by
  obtain ⟨s, i, hs, hr⟩ := h.sc
  exact hs.zz
theorem Rd.g2 (h : Rd w b r L) : 2 < w.heap.size := by
  obtain ⟨s, i, hs, hr⟩ := h.sc
  exact World.block_lt_of_cell? w _ hs.eof
theorem Rd.n2 (h : Rd w b r L) : ¬ Tr b 2 := by
  obtain ⟨s, i, hs, hr⟩ := h.sc
  exact hs.n2
theorem Rd.len (h : Rd w b r L) : r.length < 4096 := by
  obtain ⟨s, i, hs, rfl, hi⟩ := h.sc
  have := hs.s4
  have e : s.data.toList.length = s.size := Array.length_toList
  rw [List.length_drop, e]
  omega

theorem drop_cons {s : ByteArray} {i : Nat} {c : UInt8} {t : Bs} (h : s.data.toList.drop i = c :: t) : ∃ hi : i < s.size, s[i] = c ∧ s.data.toList.drop (i + 1) = t := by
  have e : s.data.toList.length = s.size := Array.length_toList
  have hi : i < s.size := by
    have := congrArg List.length h
    rw [List.length_drop, e, List.length_cons] at this
    omega
  have hi' : i < s.data.toList.length := by omega
  rw [List.drop_eq_getElem_cons hi'] at h
  injection h with h1 h2
  exact ⟨hi, h1, h2⟩
theorem drop_nil {s : ByteArray} {i : Nat} (h : s.data.toList.drop i = []) (hi : i ≤ s.size) : i = s.size := by
  have e : s.data.toList.length = s.size := Array.length_toList
  have := congrArg List.length h
  rw [List.length_drop, e] at this
  simp at this
  omega

/-- The scanner behind a step of the reader. -/
theorem Rd.on {s : ByteArray} {i j : Nat} {r' : Bs} (h : Rd w b r L) (hc : Ch (Tb b.B b.F b.S) w w') (hs : Sc w' b.Z b.B b.F b.S b.X s j) (hj : j ≤ s.size) (hr : s.data.toList.drop j = r') (hl : r'.length ≤ r.length) : Rd w' b r' L :=
  ⟨⟨s, j, hs, hr, hj⟩, hc.cell_some h.ln hs.nZ, h.lo, by have := h.hi; omega⟩
end

set_option maxRecDepth 100000 in
set_option maxHeartbeats 4000000 in
theorem readNext_c {w : World} {b : Bl} {c : UInt8} {t : Bs} {L : Int} (H : Hid (Rd w b (c :: t) L)) :
    Calls Tryz.prog 59 #[ptr b.Z] w fun e w' => e = .returned (.int .i64 (c.toNat : Int)) ∧ Ch (Tb b.B b.F b.S) w w' ∧ Rd w' b t L := by
  obtain ⟨s, i, hs, hr, hi⟩ := H.out.sc
  obtain ⟨hlt, rfl, ht⟩ := drop_cons hr
  refine (readNext_some (Lib.hid hs) hlt).mono ?_
  rintro e w' ⟨rfl, hc, r', u', hb, h0, h1⟩
  exact ⟨rfl, hc, H.out.on (i := i) hc (hs.on hc ⟨r', u', _, hb, h1⟩) (by omega) ht (by simp)⟩

set_option maxRecDepth 100000 in
set_option maxHeartbeats 4000000 in
theorem readNext_e {w : World} {b : Bl} {L : Int} (H : Hid (Rd w b [] L)) :
    Calls Tryz.prog 59 #[ptr b.Z] w fun e w' => e = .returned (.int .i64 (-1)) ∧ Ch (Tb b.B b.F b.S) w w' ∧ Rd w' b [] L := by
  obtain ⟨s, i, hs, hr, hi⟩ := H.out.sc
  obtain rfl := drop_nil hr hi
  refine (readNext_eof (Lib.hid hs)).mono ?_
  rintro e w' ⟨rfl, hc, hs'⟩
  exact ⟨rfl, hc, H.out.on (i := s.size) hc hs' (Nat.le_refl _) hr (by simp)⟩

theorem tb_tr {b : Bl} {w w' : World} (h : Ch (Tb b.B b.F b.S) w w') : Ch (Tr b) w w' := h.mono fun _ _ h => .inr h

theorem peek_calls {w : World} {b : Bl} {r : Bs} {L : Int} (H : Hid (Rd w b r L)) :
    Calls Tryz.prog 34 #[ptr b.Z] w fun e w' => e = .returned (.int .i64 (hd r)) ∧ Ch (Tr b) w w' ∧ Rd w' b r L := by
  obtain ⟨s, i, hs, hr, hi⟩ := H.out.sc
  cases r with
  | nil =>
    obtain rfl := drop_nil hr hi
    refine (peek_eof (Lib.hid hs)).mono ?_
    rintro e w' ⟨rfl, hc, hs'⟩
    exact ⟨rfl, tb_tr hc, H.out.on (i := s.size) hc hs' (Nat.le_refl _) hr (by simp)⟩
  | cons c t =>
    obtain ⟨hlt, rfl, ht⟩ := drop_cons hr
    refine (peek_some (Lib.hid hs) hlt).mono ?_
    rintro e w' ⟨rfl, hc, hs'⟩
    exact ⟨rfl, tb_tr hc, H.out.on (i := i) hc hs' (by omega) hr (by simp)⟩

theorem Rd.setCol {w : World} {b : Bl} {r : Bs} {L : Int} (h : Rd w b r L) (v : Int) : Rd (w.setCell ⟨b.Z, 2, none⟩ (.int .i64 v)) b r L := by
  obtain ⟨s, i, hs, hr⟩ := h.sc
  exact ⟨⟨s, i, hs.pos 2 (.inr rfl) v, hr⟩, co h.ln (addr_ne (by decide)), h.lo, h.hi⟩
theorem Rd.setLine {w : World} {b : Bl} {r : Bs} {L : Int} (h : Rd w b r L) (v : Int) (h0 : -1 ≤ v) (h1 : v + (r.length : Int) ≤ 4100) : Rd (w.setCell ⟨b.Z, 1, none⟩ (.int .i64 v)) b r v := by
  obtain ⟨s, i, hs, hr⟩ := h.sc
  exact ⟨⟨s, i, hs.pos 1 (.inl rfl) v, hr⟩, cs h.ln, h0, h1⟩
theorem ch_z {b : Bl} {w w' : World} (h : Ch (Tr b) w w') (k : Nat) (v : Value) : Ch (Tr b) w (w'.setCell ⟨b.Z, k, none⟩ v) := h.setCell (p := ⟨b.Z, k, none⟩) (fun _ => .inl rfl) v

set_option maxRecDepth 100000 in
set_option maxHeartbeats 4000000 in
theorem next_c {w : World} {b : Bl} {c : UInt8} {t : Bs} {L : Int} (H : Hid (Rd w b (c :: t) L)) (h10 : c.toNat ≠ 10) (h13 : c.toNat ≠ 13) :
    Calls Tryz.prog 36 #[ptr b.Z] w fun e w' => e = .returned (.int .i64 (c.toNat : Int)) ∧ Ch (Tr b) w w' ∧ Rd w' b t L := by
  have g1 : ((c.toNat : Int) == -1) = false := by simp <;> omega
  have g2 : ((c.toNat : Int) == 10) = false := by simp <;> omega
  have g3 : ((c.toNat : Int) == 13) = false := by simp <;> omega
  go_enter Tryz.func36, Tryz.ntmps36
  go_wp2_with fail
  refine (readNext_c H).mono ?_
  rintro e w' ⟨rfl, hc, hs⟩
  obtain ⟨v2, e2⟩ := hs.z2
  have x2 := hs.zz 2
  have HC := Lib.hid hc
  have HS := Lib.hid hs
  clear hc hs
  simp only []
  go_wp2_with fail
  go_ret
  exact ⟨rfl, ch_z (tb_tr HC.out) 2 _, HS.out.setCol _⟩

set_option maxRecDepth 100000 in
set_option maxHeartbeats 4000000 in
theorem next_e {w : World} {b : Bl} {L : Int} (H : Hid (Rd w b [] L)) :
    Calls Tryz.prog 36 #[ptr b.Z] w fun e w' => e = .returned (.int .i64 (-1)) ∧ Ch (Tr b) w w' ∧ Rd w' b [] (-1) := by
  go_enter Tryz.func36, Tryz.ntmps36
  go_wp2_with fail
  refine (readNext_e H).mono ?_
  rintro e w' ⟨rfl, hc, hs⟩
  obtain ⟨v2, e2⟩ := hs.z2
  have e1 := hs.ln
  have x1 := hs.zz 1
  have x2 := hs.zz 2
  have HC := Lib.hid hc
  have HS := Lib.hid hs
  clear hc hs
  simp only []
  go_wp2_with fail
  go_ret
  exact ⟨rfl, ch_z (ch_z (tb_tr HC.out) 1 _) 2 _, (HS.out.setLine (-1) (by omega) (by simp)).setCol _⟩

set_option maxRecDepth 100000 in
set_option maxHeartbeats 4000000 in
theorem newline_calls {w : World} {b : Bl} {t : Bs} {L : Int} (H : Hid (Rd w b t L)) (hl : L + 1 + (t.length : Int) ≤ 4100) (h13 : hd t ≠ 13) :
    Calls Tryz.prog 61 #[ptr b.Z, .int .i64 10] w fun e w' => e = .returned (.tuple #[]) ∧ Ch (Tr b) w w' ∧ Rd w' b t (L + 1) := by
  obtain ⟨v2, e2⟩ := H.out.z2
  have e1 := H.out.ln
  have x1 := H.out.zz 1
  have x2 := H.out.zz 2
  have lo := H.out.lo
  have hw : IntKind.i64.wrap (L + 1) = L + 1 := by rw [IntKind.wrap_i64]; omega
  have g : (hd t == 13) = false := by simpa using h13
  go_enter Tryz.func61, Tryz.ntmps61
  go_wp2_with fail
  refine (peek_calls (b := b) (r := t) (L := L + 1) (Lib.hid ((H.out.setLine (L + 1) (by omega) hl).setCol 0))).mono ?_
  rintro e w' ⟨rfl, hc, hs⟩
  have HC := Lib.hid hc
  have HS := Lib.hid hs
  clear hc hs
  simp only []
  go_wp2_with fail
  refine bodyPost_end (results_none rfl _ _ _) rfl ?_
  exact ⟨rfl, (ch_z (ch_z (Ch.refl _ _) 1 _) 2 _).trans HC.out, HS.out⟩

set_option maxRecDepth 100000 in
set_option maxHeartbeats 4000000 in
theorem next_n {w : World} {b : Bl} {t : Bs} {L : Int} (H : Hid (Rd w b (10 :: t) L)) (h13 : hd t ≠ 13) :
    Calls Tryz.prog 36 #[ptr b.Z] w fun e w' => e = .returned (.int .i64 10) ∧ Ch (Tr b) w w' ∧ Rd w' b t (L + 1) := by
  have hl := H.out.hi
  go_enter Tryz.func36, Tryz.ntmps36
  go_wp2_with fail
  refine (readNext_c H).mono ?_
  rintro e w' ⟨rfl, hc, hs⟩
  have HC := Lib.hid hc
  have HS := Lib.hid hs
  clear hc hs
  have e10 : ((UInt8.toNat 10 : Nat) : Int) = 10 := rfl
  simp only [e10]
  go_wp2_with fail
  refine (newline_calls HS (by simp only [List.length_cons] at hl; omega) h13).mono ?_
  rintro e w2 ⟨rfl, hc2, hs2⟩
  have HC2 := Lib.hid hc2
  have HS2 := Lib.hid hs2
  clear hc2 hs2
  simp only []
  go_wp2_with fail
  go_ret
  exact ⟨rfl, (tb_tr HC.out).trans HC2.out, HS2.out⟩

/-- The rest and the line behind the next byte. -/
def tl1 : Bs → Bs
  | [] => []
  | _ :: t => t
def ln1 (r : Bs) (L : Int) : Int := match r with
  | [] => -1
  | c :: _ => if c = 10 then L + 1 else L
/-- No carriage return. -/
def NoCr (r : Bs) : Prop := ∀ c ∈ r, c ≠ 13
theorem NoCr.hd {r : Bs} (h : NoCr r) : hd r ≠ 13 := by
  cases r with
  | nil => simp [YtbgjjbffpckimaaGreatDoor.hd]
  | cons c t =>
    have := h c (by simp)
    intro e
    apply this
    have e' : (c.toNat : Int) = 13 := e
    exact UInt8.toNat_inj.1 (by show c.toNat = 13; omega)
theorem NoCr.tail {c : UInt8} {r : Bs} (h : NoCr (c :: r)) : NoCr r := fun x hx => h x (by simp [hx])

theorem next_calls {w : World} {b : Bl} {r : Bs} {L : Int} (H : Hid (Rd w b r L)) (h13 : NoCr r) :
    Calls Tryz.prog 36 #[ptr b.Z] w fun e w' => e = .returned (.int .i64 (hd r)) ∧ Ch (Tr b) w w' ∧ Rd w' b (tl1 r) (ln1 r L) := by
  cases r with
  | nil => exact next_e H
  | cons c t =>
    have hc13 := h13 c (by simp)
    by_cases h : c = 10
    · subst h
      exact next_n H h13.tail.hd
    · have := next_c H (fun e => h (UInt8.toNat_inj.1 e)) (fun e => hc13 (UInt8.toNat_inj.1 e))
      rw [show ln1 (c :: t) L = L from if_neg h]
      exact this

end Go.Proofs.YtbgjjbffpckimaaGreatDoor

namespace Go.Proofs.YtbgjjbffpckimaaGreatDoor
set_option linter.all false
open Go.RowKit

set_option maxRecDepth 100000 in
set_option maxHeartbeats 4000000 in
theorem dec_t {w : World} {c : Int} (h : 48 ≤ c ∧ c ≤ 57) : Calls Tryz.prog 32 #[.int .i64 c] w fun e w' => e = .returned (.bool true) ∧ w' = w := by
  have g0 : 48 ≤ c := by first | omega | (simp <;> omega)
  have g1 : c ≤ 57 := by first | omega | (simp <;> omega)
  go_enter Tryz.func32, Tryz.ntmps32
  go_wp2_with fail
  go_ret
  exact ⟨rfl, rfl⟩

set_option maxRecDepth 100000 in
set_option maxHeartbeats 4000000 in
theorem dec_a {w : World} {c : Int} (h : c < 48) : Calls Tryz.prog 32 #[.int .i64 c] w fun e w' => e = .returned (.bool false) ∧ w' = w := by
  have g0 : ¬ 48 ≤ c := by first | omega | (simp <;> omega)
  go_enter Tryz.func32, Tryz.ntmps32
  go_wp2_with fail
  go_ret
  exact ⟨rfl, rfl⟩

set_option maxRecDepth 100000 in
set_option maxHeartbeats 4000000 in
theorem dec_b {w : World} {c : Int} (h : 57 < c) : Calls Tryz.prog 32 #[.int .i64 c] w fun e w' => e = .returned (.bool false) ∧ w' = w := by
  have g0 : 48 ≤ c := by first | omega | (simp <;> omega)
  have g1 : ¬ c ≤ 57 := by first | omega | (simp <;> omega)
  go_enter Tryz.func32, Tryz.ntmps32
  go_wp2_with fail
  go_ret
  exact ⟨rfl, rfl⟩

set_option maxRecDepth 100000 in
set_option maxHeartbeats 4000000 in
theorem id_a {w : World} {c p : Int} (h : c < 48) : Calls Tryz.prog 29 #[.int .i64 c, .int .i64 p] w fun e w' => e = .returned (.bool false) ∧ w' = w := by
  have g0 : (c == 95) = false := by first | omega | (simp <;> omega)
  have g1 : ¬ 65 ≤ c := by first | omega | (simp <;> omega)
  have g2 : ¬ 97 ≤ c := by first | omega | (simp <;> omega)
  go_enter Tryz.func29, Tryz.ntmps29
  go_wp2_with fail
  refine (dec_a h).mono ?_
  rintro e w' ⟨rfl, rfl⟩
  simp only []
  go_wp2_with fail
  go_ret
  exact ⟨rfl, rfl⟩

set_option maxRecDepth 100000 in
set_option maxHeartbeats 4000000 in
theorem id_b0 {w : World} {c : Int} (h : 48 ≤ c ∧ c ≤ 57) : Calls Tryz.prog 29 #[.int .i64 c, .int .i64 0] w fun e w' => e = .returned (.bool false) ∧ w' = w := by
  have g0 : (c == 95) = false := by first | omega | (simp <;> omega)
  have g1 : ¬ 65 ≤ c := by first | omega | (simp <;> omega)
  have g2 : ¬ 97 ≤ c := by first | omega | (simp <;> omega)
  go_enter Tryz.func29, Tryz.ntmps29
  go_wp2_with fail
  refine (dec_t h).mono ?_
  rintro e w' ⟨rfl, rfl⟩
  simp only []
  go_wp2_with fail
  go_ret
  exact ⟨rfl, rfl⟩

set_option maxRecDepth 100000 in
set_option maxHeartbeats 4000000 in
theorem id_b1 {w : World} {c : Int} (h : 48 ≤ c ∧ c ≤ 57) : Calls Tryz.prog 29 #[.int .i64 c, .int .i64 1] w fun e w' => e = .returned (.bool true) ∧ w' = w := by
  have g0 : (c == 95) = false := by first | omega | (simp <;> omega)
  have g1 : ¬ 65 ≤ c := by first | omega | (simp <;> omega)
  have g2 : ¬ 97 ≤ c := by first | omega | (simp <;> omega)
  go_enter Tryz.func29, Tryz.ntmps29
  go_wp2_with fail
  refine (dec_t h).mono ?_
  rintro e w' ⟨rfl, rfl⟩
  simp only []
  go_wp2_with fail
  go_ret
  exact ⟨rfl, rfl⟩

set_option maxRecDepth 100000 in
set_option maxHeartbeats 4000000 in
theorem id_c {w : World} {c p : Int} (h : 57 < c ∧ c < 65) : Calls Tryz.prog 29 #[.int .i64 c, .int .i64 p] w fun e w' => e = .returned (.bool false) ∧ w' = w := by
  have g0 : (c == 95) = false := by first | omega | (simp <;> omega)
  have g1 : ¬ 65 ≤ c := by first | omega | (simp <;> omega)
  have g2 : ¬ 97 ≤ c := by first | omega | (simp <;> omega)
  go_enter Tryz.func29, Tryz.ntmps29
  go_wp2_with fail
  refine (dec_b h.1).mono ?_
  rintro e w' ⟨rfl, rfl⟩
  simp only []
  go_wp2_with fail
  go_ret
  exact ⟨rfl, rfl⟩

set_option maxRecDepth 100000 in
set_option maxHeartbeats 4000000 in
theorem id_d {w : World} {c p : Int} (h : 65 ≤ c ∧ c ≤ 90) : Calls Tryz.prog 29 #[.int .i64 c, .int .i64 p] w fun e w' => e = .returned (.bool true) ∧ w' = w := by
  have g0 : (c == 95) = false := by first | omega | (simp <;> omega)
  have g1 : 65 ≤ c := by first | omega | (simp <;> omega)
  have g2 : c ≤ 90 := by first | omega | (simp <;> omega)
  go_enter Tryz.func29, Tryz.ntmps29
  go_wp2_with fail
  go_ret
  exact ⟨rfl, rfl⟩

set_option maxRecDepth 100000 in
set_option maxHeartbeats 4000000 in
theorem id_e {w : World} {c p : Int} (h : 90 < c ∧ c < 97 ∧ c ≠ 95) : Calls Tryz.prog 29 #[.int .i64 c, .int .i64 p] w fun e w' => e = .returned (.bool false) ∧ w' = w := by
  have g0 : (c == 95) = false := by first | omega | (simp <;> omega)
  have g1 : 65 ≤ c := by first | omega | (simp <;> omega)
  have g2 : ¬ c ≤ 90 := by first | omega | (simp <;> omega)
  have g3 : ¬ 97 ≤ c := by first | omega | (simp <;> omega)
  go_enter Tryz.func29, Tryz.ntmps29
  go_wp2_with fail
  refine (dec_b (by omega)).mono ?_
  rintro e w' ⟨rfl, rfl⟩
  simp only []
  go_wp2_with fail
  go_ret
  exact ⟨rfl, rfl⟩

set_option maxRecDepth 100000 in
set_option maxHeartbeats 4000000 in
theorem id_f {w : World} {p : Int} : Calls Tryz.prog 29 #[.int .i64 95, .int .i64 p] w fun e w' => e = .returned (.bool true) ∧ w' = w := by
  go_enter Tryz.func29, Tryz.ntmps29
  go_wp2_with fail
  go_ret
  exact ⟨rfl, rfl⟩

set_option maxRecDepth 100000 in
set_option maxHeartbeats 4000000 in
theorem id_g {w : World} {c p : Int} (h : 97 ≤ c ∧ c ≤ 122) : Calls Tryz.prog 29 #[.int .i64 c, .int .i64 p] w fun e w' => e = .returned (.bool true) ∧ w' = w := by
  have g0 : (c == 95) = false := by first | omega | (simp <;> omega)
  have g1 : 65 ≤ c := by first | omega | (simp <;> omega)
  have g2 : ¬ c ≤ 90 := by first | omega | (simp <;> omega)
  have g3 : 97 ≤ c := by first | omega | (simp <;> omega)
  have g4 : c ≤ 122 := by first | omega | (simp <;> omega)
  go_enter Tryz.func29, Tryz.ntmps29
  go_wp2_with fail
  go_ret
  exact ⟨rfl, rfl⟩

set_option maxRecDepth 100000 in
set_option maxHeartbeats 4000000 in
theorem id_h {w : World} {c p : Int} (h : 122 < c) : Calls Tryz.prog 29 #[.int .i64 c, .int .i64 p] w fun e w' => e = .returned (.bool false) ∧ w' = w := by
  have g0 : (c == 95) = false := by first | omega | (simp <;> omega)
  have g1 : 65 ≤ c := by first | omega | (simp <;> omega)
  have g2 : ¬ c ≤ 90 := by first | omega | (simp <;> omega)
  have g3 : 97 ≤ c := by first | omega | (simp <;> omega)
  have g4 : ¬ c ≤ 122 := by first | omega | (simp <;> omega)
  go_enter Tryz.func29, Tryz.ntmps29
  go_wp2_with fail
  refine (dec_b (by omega)).mono ?_
  rintro e w' ⟨rfl, rfl⟩
  simp only []
  go_wp2_with fail
  go_ret
  exact ⟨rfl, rfl⟩

set_option maxRecDepth 100000 in
set_option maxHeartbeats 4000000 in
theorem hx_a {w : World} {c : Int} (h : c < 48) : Calls Tryz.prog 57 #[.int .i64 c] w fun e w' => e = .returned (.bool false) ∧ w' = w := by
  have g0 : ¬ 48 ≤ c := by first | omega | (simp <;> omega)
  have g1 : ¬ 97 ≤ c := by first | omega | (simp <;> omega)
  have g2 : ¬ 65 ≤ c := by first | omega | (simp <;> omega)
  go_enter Tryz.func57, Tryz.ntmps57
  go_wp2_with fail
  go_ret
  exact ⟨rfl, rfl⟩

set_option maxRecDepth 100000 in
set_option maxHeartbeats 4000000 in
theorem hx_b {w : World} {c : Int} (h : 48 ≤ c ∧ c ≤ 57) : Calls Tryz.prog 57 #[.int .i64 c] w fun e w' => e = .returned (.bool true) ∧ w' = w := by
  have g0 : 48 ≤ c := by first | omega | (simp <;> omega)
  have g1 : c ≤ 57 := by first | omega | (simp <;> omega)
  go_enter Tryz.func57, Tryz.ntmps57
  go_wp2_with fail
  go_ret
  exact ⟨rfl, rfl⟩

set_option maxRecDepth 100000 in
set_option maxHeartbeats 4000000 in
theorem hx_c {w : World} {c : Int} (h : 57 < c ∧ c < 65) : Calls Tryz.prog 57 #[.int .i64 c] w fun e w' => e = .returned (.bool false) ∧ w' = w := by
  have g0 : 48 ≤ c := by first | omega | (simp <;> omega)
  have g1 : ¬ c ≤ 57 := by first | omega | (simp <;> omega)
  have g2 : ¬ 97 ≤ c := by first | omega | (simp <;> omega)
  have g3 : ¬ 65 ≤ c := by first | omega | (simp <;> omega)
  go_enter Tryz.func57, Tryz.ntmps57
  go_wp2_with fail
  go_ret
  exact ⟨rfl, rfl⟩

set_option maxRecDepth 100000 in
set_option maxHeartbeats 4000000 in
theorem hx_d {w : World} {c : Int} (h : 65 ≤ c ∧ c ≤ 70) : Calls Tryz.prog 57 #[.int .i64 c] w fun e w' => e = .returned (.bool true) ∧ w' = w := by
  have g0 : 48 ≤ c := by first | omega | (simp <;> omega)
  have g1 : ¬ c ≤ 57 := by first | omega | (simp <;> omega)
  have g2 : ¬ 97 ≤ c := by first | omega | (simp <;> omega)
  have g3 : 65 ≤ c := by first | omega | (simp <;> omega)
  have g4 : c ≤ 70 := by first | omega | (simp <;> omega)
  go_enter Tryz.func57, Tryz.ntmps57
  go_wp2_with fail
  go_ret
  exact ⟨rfl, rfl⟩

set_option maxRecDepth 100000 in
set_option maxHeartbeats 4000000 in
theorem hx_e {w : World} {c : Int} (h : 70 < c ∧ c < 97) : Calls Tryz.prog 57 #[.int .i64 c] w fun e w' => e = .returned (.bool false) ∧ w' = w := by
  have g0 : 48 ≤ c := by first | omega | (simp <;> omega)
  have g1 : ¬ c ≤ 57 := by first | omega | (simp <;> omega)
  have g2 : ¬ 97 ≤ c := by first | omega | (simp <;> omega)
  have g3 : 65 ≤ c := by first | omega | (simp <;> omega)
  have g4 : ¬ c ≤ 70 := by first | omega | (simp <;> omega)
  go_enter Tryz.func57, Tryz.ntmps57
  go_wp2_with fail
  go_ret
  exact ⟨rfl, rfl⟩

set_option maxRecDepth 100000 in
set_option maxHeartbeats 4000000 in
theorem hx_f {w : World} {c : Int} (h : 97 ≤ c ∧ c ≤ 102) : Calls Tryz.prog 57 #[.int .i64 c] w fun e w' => e = .returned (.bool true) ∧ w' = w := by
  have g0 : 48 ≤ c := by first | omega | (simp <;> omega)
  have g1 : ¬ c ≤ 57 := by first | omega | (simp <;> omega)
  have g2 : 97 ≤ c := by first | omega | (simp <;> omega)
  have g3 : c ≤ 102 := by first | omega | (simp <;> omega)
  go_enter Tryz.func57, Tryz.ntmps57
  go_wp2_with fail
  go_ret
  exact ⟨rfl, rfl⟩

set_option maxRecDepth 100000 in
set_option maxHeartbeats 4000000 in
theorem hx_g {w : World} {c : Int} (h : 102 < c) : Calls Tryz.prog 57 #[.int .i64 c] w fun e w' => e = .returned (.bool false) ∧ w' = w := by
  have g0 : 48 ≤ c := by first | omega | (simp <;> omega)
  have g1 : ¬ c ≤ 57 := by first | omega | (simp <;> omega)
  have g2 : 97 ≤ c := by first | omega | (simp <;> omega)
  have g3 : ¬ c ≤ 102 := by first | omega | (simp <;> omega)
  have g4 : 65 ≤ c := by first | omega | (simp <;> omega)
  have g5 : ¬ c ≤ 70 := by first | omega | (simp <;> omega)
  go_enter Tryz.func57, Tryz.ntmps57
  go_wp2_with fail
  go_ret
  exact ⟨rfl, rfl⟩

/-- Whether the next byte is of a class. -/
def hdIs (p : UInt8 → Bool) : Bs → Bool
  | [] => false
  | c :: _ => p c

theorem isDec_calls {w : World} {r : Bs} {v : Bool} (hv : hdIs isDec r = v) : Calls Tryz.prog 32 #[.int .i64 (hd r)] w fun e w' => e = .returned (.bool v) ∧ w' = w := by
  subst hv
  cases r with
  | nil => exact dec_a (by simp [hd])
  | cons c t =>
    simp only [hdIs, hd]
    by_cases h1 : c.toNat < 48
    · rw [show isDec c = false by simp [isDec]; omega]; exact dec_a (by omega)
    by_cases h2 : c.toNat ≤ 57
    · rw [show isDec c = true by simp [isDec]; omega]; exact dec_t (by omega)
    · rw [show isDec c = false by simp [isDec]; omega]; exact dec_b (by omega)

theorem isIdc_calls {w : World} {r : Bs} {v : Bool} (hv : hdIs isIdc r = v) : Calls Tryz.prog 29 #[.int .i64 (hd r), .int .i64 1] w fun e w' => e = .returned (.bool v) ∧ w' = w := by
  subst hv
  cases r with
  | nil => exact id_a (by simp [hd])
  | cons c t =>
    simp only [hdIs, hd]
    by_cases h1 : c.toNat < 48
    · rw [show isIdc c = false by simp [isIdc, isLet, isDec]; omega]; exact id_a (by omega)
    by_cases h2 : c.toNat ≤ 57
    · rw [show isIdc c = true by simp [isIdc, isLet, isDec]; omega]; exact id_b1 (by omega)
    by_cases h3 : c.toNat < 65
    · rw [show isIdc c = false by simp [isIdc, isLet, isDec]; omega]; exact id_c (by omega)
    by_cases h4 : c.toNat ≤ 90
    · rw [show isIdc c = true by simp [isIdc, isLet, isDec]; omega]; exact id_d (by omega)
    by_cases h5 : c.toNat = 95
    · rw [show isIdc c = true by simp [isIdc, isLet, isDec]; omega, h5]; exact id_f
    by_cases h6 : c.toNat < 97
    · rw [show isIdc c = false by simp [isIdc, isLet, isDec]; omega]; exact id_e (by omega)
    by_cases h7 : c.toNat ≤ 122
    · rw [show isIdc c = true by simp [isIdc, isLet, isDec]; omega]; exact id_g (by omega)
    · rw [show isIdc c = false by simp [isIdc, isLet, isDec]; omega]; exact id_h (by omega)

theorem isLet_calls {w : World} {r : Bs} {v : Bool} (hv : hdIs isLet r = v) : Calls Tryz.prog 29 #[.int .i64 (hd r), .int .i64 0] w fun e w' => e = .returned (.bool v) ∧ w' = w := by
  subst hv
  cases r with
  | nil => exact id_a (by simp [hd])
  | cons c t =>
    simp only [hdIs, hd]
    by_cases h1 : c.toNat < 48
    · rw [show isLet c = false by simp [isLet]; omega]; exact id_a (by omega)
    by_cases h2 : c.toNat ≤ 57
    · rw [show isLet c = false by simp [isLet]; omega]; exact id_b0 (by omega)
    by_cases h3 : c.toNat < 65
    · rw [show isLet c = false by simp [isLet]; omega]; exact id_c (by omega)
    by_cases h4 : c.toNat ≤ 90
    · rw [show isLet c = true by simp [isLet]; omega]; exact id_d (by omega)
    by_cases h5 : c.toNat = 95
    · rw [show isLet c = true by simp [isLet]; omega, h5]; exact id_f
    by_cases h6 : c.toNat < 97
    · rw [show isLet c = false by simp [isLet]; omega]; exact id_e (by omega)
    by_cases h7 : c.toNat ≤ 122
    · rw [show isLet c = true by simp [isLet]; omega]; exact id_g (by omega)
    · rw [show isLet c = false by simp [isLet]; omega]; exact id_h (by omega)

theorem isHex_calls {w : World} {r : Bs} {v : Bool} (hv : hdIs isHex r = v) : Calls Tryz.prog 57 #[.int .i64 (hd r)] w fun e w' => e = .returned (.bool v) ∧ w' = w := by
  subst hv
  cases r with
  | nil => exact hx_a (by simp [hd])
  | cons c t =>
    simp only [hdIs, hd]
    by_cases h1 : c.toNat < 48
    · rw [show isHex c = false by simp [isHex, isDec]; omega]; exact hx_a (by omega)
    by_cases h2 : c.toNat ≤ 57
    · rw [show isHex c = true by simp [isHex, isDec]; omega]; exact hx_b (by omega)
    by_cases h3 : c.toNat < 65
    · rw [show isHex c = false by simp [isHex, isDec]; omega]; exact hx_c (by omega)
    by_cases h4 : c.toNat ≤ 70
    · rw [show isHex c = true by simp [isHex, isDec]; omega]; exact hx_d (by omega)
    by_cases h5 : c.toNat < 97
    · rw [show isHex c = false by simp [isHex, isDec]; omega]; exact hx_e (by omega)
    by_cases h6 : c.toNat ≤ 102
    · rw [show isHex c = true by simp [isHex, isDec]; omega]; exact hx_f (by omega)
    · rw [show isHex c = false by simp [isHex, isDec]; omega]; exact hx_g (by omega)

end Go.Proofs.YtbgjjbffpckimaaGreatDoor

namespace Go.Proofs.YtbgjjbffpckimaaGreatDoor
set_option linter.all false
open Go.RowKit

def sp1 (c : UInt8) : Bool := c == 32 || c == 9
def sp2 (c : UInt8) : Bool := c == 32 || c == 9 || c == 10 || c == 13
def nl (r : Bs) : Int := ((r.filter (· == 10)).length : Nat)
theorem nl_cons (c : UInt8) (r : Bs) : nl (c :: r) = (if c = 10 then 1 else 0) + nl r := by
  unfold nl
  by_cases h : c = 10
  · simp [h]; omega
  · simp [h]
theorem ln1_nl (r : Bs) (L : Int) (h : r ≠ []) : ln1 r L + nl (tl1 r) = L + nl r := by
  cases r with
  | nil => exact absurd rfl h
  | cons c t =>
    simp only [ln1, tl1, nl_cons]
    split <;> omega

theorem bit1 : ∀ c : Fin 256, (bits BinOp.and IntKind.i64 4294967808 (wrap64 (2 ^ min (IntKind.u64.wrap (c.val : Int)).toNat 64)) != 0) = (c.val == 32 || c.val == 9) := by decide +kernel
theorem bit2 : ∀ c : Fin 256, (bits BinOp.and IntKind.i64 4294977024 (wrap64 (2 ^ min (IntKind.u64.wrap (c.val : Int)).toNat 64)) != 0) = (c.val == 32 || c.val == 9 || c.val == 10 || c.val == 13) := by decide +kernel
theorem bit1e : (bits BinOp.and IntKind.i64 4294967808 (wrap64 (2 ^ min (IntKind.u64.wrap (-1)).toNat 64)) != 0) = false := by decide +kernel
theorem bit2e : (bits BinOp.and IntKind.i64 4294977024 (wrap64 (2 ^ min (IntKind.u64.wrap (-1)).toNat 64)) != 0) = false := by decide +kernel
theorem eq_nat (c : UInt8) (n : Nat) (h : n < 256) : (c.toNat == n) = (c == UInt8.ofNat n) := by
  rw [Bool.eq_iff_iff, beq_iff_eq, beq_iff_eq]
  constructor
  · intro e
    apply UInt8.toNat_inj.1
    rw [e, UInt8.toNat_ofNat_of_lt' h]
  · rintro rfl
    rw [UInt8.toNat_ofNat_of_lt' h]
theorem mask1 (r : Bs) : (bits BinOp.and IntKind.i64 4294967808 (wrap64 (2 ^ min (IntKind.u64.wrap (hd r)).toNat 64)) != 0) = hdIs sp1 r := by
  cases r with
  | nil => exact bit1e
  | cons c t =>
    refine (bit1 ⟨c.toNat, c.toNat_lt⟩).trans ?_
    simp only [hdIs, sp1, eq_nat c 32 (by decide), eq_nat c 9 (by decide)]
    rfl
theorem mask2 (r : Bs) : (bits BinOp.and IntKind.i64 4294977024 (wrap64 (2 ^ min (IntKind.u64.wrap (hd r)).toNat 64)) != 0) = hdIs sp2 r := by
  cases r with
  | nil => exact bit2e
  | cons c t =>
    refine (bit2 ⟨c.toNat, c.toNat_lt⟩).trans ?_
    simp only [hdIs, sp2, eq_nat c 32 (by decide), eq_nat c 9 (by decide), eq_nat c 10 (by decide), eq_nat c 13 (by decide)]
    rfl

/-- What is skipped. -/
def SkPost (p : UInt8 → Bool) (w : World) (b : Bl) (r : Bs) (L : Int) (e : Ending) (w' : World) : Prop :=
  e = .returned (.int .i64 (hd (r.dropWhile p))) ∧ Ch (Tr b) w w' ∧ Rd w' b (tl1 (r.dropWhile p)) (ln1 (r.dropWhile p) (L + nl r - nl (r.dropWhile p)))

/-- The state of the loop: what is left with the current byte ahead. -/
def SkRel (p : UInt8 → Bool) (w : World) (b : Bl) (r : Bs) (L : Int) (k : Nat) (v : Value) (wr : World) : Prop :=
  ∃ r' L', v = .int .i64 (hd r') ∧ Ch (Tr b) w wr ∧ Rd wr b (tl1 r') (ln1 r' L') ∧ r'.dropWhile p = r.dropWhile p ∧ L' + nl r' = L + nl r ∧ k = r'.length ∧ NoCr r'

theorem SkRel.done {p : UInt8 → Bool} {w : World} {b : Bl} {r : Bs} {L : Int} {r' : Bs} {L' : Int} {wr : World} (h : hdIs p r' = false) (hc : Ch (Tr b) w wr) (hs : Rd wr b (tl1 r') (ln1 r' L')) (hd' : r'.dropWhile p = r.dropWhile p) (hn : L' + nl r' = L + nl r) : SkPost p w b r L (.returned (.int .i64 (hd r'))) wr := by
  have e : r'.dropWhile p = r' := by
    cases r' with
    | nil => rfl
    | cons c t =>
      rw [List.dropWhile_cons, if_neg]
      simpa [hdIs] using h
  have e2 : r.dropWhile p = r' := hd'.symm.trans e
  have e3 : L' = L + nl r - nl r' := by omega
  unfold SkPost
  rw [e2, ← e3]
  exact ⟨rfl, hc, hs⟩

set_option maxRecDepth 100000 in
set_option maxHeartbeats 4000000 in
theorem skip1_calls {w : World} {b : Bl} {r : Bs} {L : Int} (H : Hid (Rd w b r L)) (hcr : NoCr r) :
    Calls Tryz.prog 28 #[ptr b.Z, .int .i64 4294967808] w (SkPost sp1 w b r L) := by
  go_enter Tryz.func28, Tryz.ntmps28
  go_wp2_with fail
  refine (next_calls H hcr).mono ?_
  rintro e w' ⟨rfl, hc, hs⟩
  have HC := Lib.hid hc
  have HS := Lib.hid hs
  have HCR := Lib.hid hcr
  clear hc hs hcr
  simp only []
  go_wp2_with fail
  go_loopg [5] r.length (fun k s5 wr => SkRel sp1 w b r L k s5 wr)
  case atStart => exact ⟨r, L, rfl, HC.out, HS.out, rfl, rfl, rfl, HCR.out⟩
  case round =>
    obtain ⟨r', L', rfl, hc, hs, hdr, hn, hk, hcr⟩ := hrel
    have HC1 := Lib.hid hc
    have HS1 := Lib.hid hs
    have HD := Lib.hid hdr
    have HN := Lib.hid hn
    have HK := Lib.hid hk
    have HCR1 := Lib.hid hcr
    have hm := mask1 r'
    clear hc hs hdr hn hk hcr HC HS HCR H
    cases hv : hdIs sp1 r' with
    | false =>
      rw [hv] at hm
      have HV := Lib.hid hv
      clear hv
      go_wp2_with fail
      go_ret
      exact SkRel.done HV.out HC1.out HS1.out HD.out HN.out
    | true =>
      rw [hv] at hm
      cases r' with
      | nil => simp [hdIs] at hv
      | cons c t =>
        have HV := Lib.hid hv
        clear hv
        go_wp2_with fail
        refine (next_calls HS1 HCR1.out.tail).mono ?_
        rintro e w2 ⟨rfl, hc2, hs2⟩
        have HC2 := Lib.hid (HC1.out.trans hc2)
        have HS2 := Lib.hid hs2
        clear hc2 hs2
        simp only [tl1]
        go_wp2_with fail
        go_roundg (gk - 1)
        case rel =>
          refine ⟨t, ln1 (c :: t) L', rfl, HC2.out, HS2.out, ?_, ?_, ?_, HCR1.out.tail⟩
          · rw [← HD.out, List.dropWhile_cons, if_pos (show sp1 c = true from HV.out)]
          · rw [← HN.out]
            exact ln1_nl (c :: t) L' (by simp)
          · have := HK.out
            simp only [List.length_cons] at this
            omega
        case measure =>
          have := HK.out
          simp only [List.length_cons] at this
          omega

set_option maxRecDepth 100000 in
set_option maxHeartbeats 4000000 in
theorem skip2_calls {w : World} {b : Bl} {r : Bs} {L : Int} (H : Hid (Rd w b r L)) (hcr : NoCr r) :
    Calls Tryz.prog 28 #[ptr b.Z, .int .i64 4294977024] w (SkPost sp2 w b r L) := by
  go_enter Tryz.func28, Tryz.ntmps28
  go_wp2_with fail
  refine (next_calls H hcr).mono ?_
  rintro e w' ⟨rfl, hc, hs⟩
  have HC := Lib.hid hc
  have HS := Lib.hid hs
  have HCR := Lib.hid hcr
  clear hc hs hcr
  simp only []
  go_wp2_with fail
  go_loopg [5] r.length (fun k s5 wr => SkRel sp2 w b r L k s5 wr)
  case atStart => exact ⟨r, L, rfl, HC.out, HS.out, rfl, rfl, rfl, HCR.out⟩
  case round =>
    obtain ⟨r', L', rfl, hc, hs, hdr, hn, hk, hcr⟩ := hrel
    have HC1 := Lib.hid hc
    have HS1 := Lib.hid hs
    have HD := Lib.hid hdr
    have HN := Lib.hid hn
    have HK := Lib.hid hk
    have HCR1 := Lib.hid hcr
    have hm := mask2 r'
    clear hc hs hdr hn hk hcr HC HS HCR H
    cases hv : hdIs sp2 r' with
    | false =>
      rw [hv] at hm
      have HV := Lib.hid hv
      clear hv
      go_wp2_with fail
      go_ret
      exact SkRel.done HV.out HC1.out HS1.out HD.out HN.out
    | true =>
      rw [hv] at hm
      cases r' with
      | nil => simp [hdIs] at hv
      | cons c t =>
        have HV := Lib.hid hv
        clear hv
        go_wp2_with fail
        refine (next_calls HS1 HCR1.out.tail).mono ?_
        rintro e w2 ⟨rfl, hc2, hs2⟩
        have HC2 := Lib.hid (HC1.out.trans hc2)
        have HS2 := Lib.hid hs2
        clear hc2 hs2
        simp only [tl1]
        go_wp2_with fail
        go_roundg (gk - 1)
        case rel =>
          refine ⟨t, ln1 (c :: t) L', rfl, HC2.out, HS2.out, ?_, ?_, ?_, HCR1.out.tail⟩
          · rw [← HD.out, List.dropWhile_cons, if_pos (show sp2 c = true from HV.out)]
          · rw [← HN.out]
            exact ln1_nl (c :: t) L' (by simp)
          · have := HK.out
            simp only [List.length_cons] at this
            omega
        case measure =>
          have := HK.out
          simp only [List.length_cons] at this
          omega

end Go.Proofs.YtbgjjbffpckimaaGreatDoor

namespace Go.Proofs.YtbgjjbffpckimaaGreatDoor
set_option linter.all false
open Go.RowKit

theorem buf_keep {T : Nat → Prop} {w w' : World} {b : Nat} {bs : List Value} (h : Lib.IsBuffer 79 5 b b bs w) (hc : Ch T w w') (hT : ∀ k, b ≤ k → ¬ T k) : Lib.IsBuffer 79 5 b b bs w' := by
  have hl := h.lt
  obtain ⟨h0, v, lr, h1, h2, h3⟩ := h
  refine ⟨h0, v, lr, (hc.block b hl (hT b (Nat.le_refl _))).trans h1, hc.owns h2 (fun k hk => ?_), h3⟩
  rcases h2.2 with hz | ⟨g, cap, cur, rfl, hb, _⟩
  · rw [hz.1] at hk; simp [Value.ownBlock] at hk
  · simp [Value.ownBlock] at hk
    subst hk
    exact hT g hb

/-- A scanner and a buffer g above it that holds l. -/
structure Sb (w : World) (b : Bl) (r : Bs) (L : Int) (g : Nat) (l : Bs) : Prop where
  rd : Rd w b r L
  bf : Lib.IsBuffer 79 5 g g (Lib.byteCells l) w
  up : ∀ k, Tr b k → k < g
  u2 : 2 < g
def Ub (b : Bl) (g k : Nat) : Prop := Tr b k ∨ g ≤ k

section
variable {w w' : World} {b : Bl} {r r' : Bs} {L L' : Int} {g : Nat} {l : Bs}
theorem Sb.keep {T : Nat → Prop} (h : Sb w b r L g l) (hc : Ch T w w') (hT : ∀ k, Ub b g k → ¬ T k) (h2 : ¬ T 2) : Sb w' b r L g l :=
  ⟨h.rd.keep hc (fun k hk => hT k (.inl hk)) h2, buf_keep h.bf hc (fun k hk => hT k (.inr hk)), h.up, h.u2⟩
theorem Sb.moved (h : Sb w b r L g l) (hc : Ch (fun _ => False) w w') : Sb w' b r L g l := h.keep hc (fun _ _ => id) id
theorem Sb.step (h : Sb w b r L g l) (hc : Ch (Tr b) w w') (hr : Rd w' b r' L') : Sb w' b r' L' g l :=
  ⟨hr, buf_keep h.bf hc (fun k hk ht => by have := h.up k ht; omega), h.up, h.u2⟩
theorem ub_tr (h : Ch (Tr b) w w') : Ch (Ub b g) w w' := h.mono fun _ _ h => .inl h
theorem Sb.write {l' : Bs} (h : Sb w b r L g l) (hb : Below g w w') (hl : Lib.IsBuffer 79 5 g g (Lib.byteCells l') w') : Sb w' b r L g l' ∧ Ch (Ub b g) w w' := by
  have hc : Ch (fun k => g ≤ k) w w' := Ch.of_below hb fun _ h _ => h
  have h2 := h.u2
  exact ⟨⟨h.rd.keep hc (fun k hk e => by have := h.up k hk; omega) (by omega), hl, h.up, h.u2⟩, hc.mono fun _ _ h => .inr h⟩
end

/-- The steps of a scanner with a buffer. -/
theorem sb_peek {w : World} {b : Bl} {r : Bs} {L : Int} {g : Nat} {l : Bs} (H : Hid (Sb w b r L g l)) :
    Calls Tryz.prog 34 #[ptr b.Z] w fun e w' => e = .returned (.int .i64 (hd r)) ∧ Sb w' b r L g l ∧ Ch (Ub b g) w w' := by
  refine (peek_calls (Lib.hid H.out.rd)).mono ?_
  rintro e w' ⟨rfl, hc, hs⟩
  exact ⟨rfl, H.out.step hc hs, ub_tr hc⟩
theorem sb_next {w : World} {b : Bl} {r : Bs} {L : Int} {g : Nat} {l : Bs} (H : Hid (Sb w b r L g l)) (h13 : NoCr r) :
    Calls Tryz.prog 36 #[ptr b.Z] w fun e w' => e = .returned (.int .i64 (hd r)) ∧ Sb w' b (tl1 r) (ln1 r L) g l ∧ Ch (Ub b g) w w' := by
  refine (next_calls (Lib.hid H.out.rd) h13).mono ?_
  rintro e w' ⟨rfl, hc, hs⟩
  exact ⟨rfl, H.out.step hc hs, ub_tr hc⟩

set_option maxRecDepth 100000 in
set_option maxHeartbeats 4000000 in
theorem sb_write {w : World} {b : Bl} {r : Bs} {L : Int} {g : Nat} {l : Bs} {c : UInt8} (H : Hid (Sb w b r L g l)) (hl : l.length < 100000) :
    Calls Tryz.prog 40 #[ptr g, .int .i64 (c.toNat : Int)] w fun e w' => e = .returned (.tuple #[]) ∧ Sb w' b r L g (l ++ [c]) ∧ Ch (Ub b g) w w' := by
  have hw : IntKind.u8.wrap (c.toNat : Int) = (c.toNat : Int) := by rw [IntKind.wrap_u8]; have := c.toNat_lt; omega
  have hlen : (Lib.byteCells l).length = l.length := by simp [Lib.byteCells]
  go_enter Tryz.func40, Tryz.ntmps40
  go_wp2_with fail
  refine (Buffer_WriteByte g g (Lib.byteCells l) (c.toNat : Int) w H.out.bf (Nat.le_of_lt H.out.bf.lt) (Lib.byteCells_one _) (by omega)).mono ?_
  rintro e w' ⟨rfl, h1, h2⟩
  have H1 := Lib.hid h1
  have H2 := Lib.hid h2
  clear h1 h2
  simp only []
  go_wp2_with fail
  refine bodyPost_end (results_none rfl _ _ _) rfl ?_
  refine ⟨rfl, H.out.write H2.out ?_⟩
  have e : Lib.byteCells (l ++ [c]) = Lib.byteCells l ++ [.int .u8 (c.toNat : Int)] := by simp [Lib.byteCells]
  rw [e]
  exact H1.out

/-- A run of bytes of a class goes into the buffer. -/
def RunRel (p : UInt8 → Bool) (w : World) (b : Bl) (r : Bs) (L : Int) (g : Nat) (l : Bs) (k : Nat) (wr : World) : Prop :=
  ∃ a r', r = a ++ r' ∧ (∀ c ∈ a, p c = true) ∧ Sb wr b r' L g (l ++ a) ∧ Ch (Ub b g) w wr ∧ k = r'.length
def RunPost (p : UInt8 → Bool) (w : World) (b : Bl) (r : Bs) (L : Int) (g : Nat) (l : Bs) (e : Ending) (w' : World) : Prop :=
  e = .returned .nilIface ∧ Sb w' b (r.dropWhile p) L g (l ++ r.takeWhile p) ∧ Ch (Ub b g) w w'
theorem take_all {p : UInt8 → Bool} {a r' : Bs} (ha : ∀ c ∈ a, p c = true) (hr : hdIs p r' = false) : (a ++ r').takeWhile p = a ∧ (a ++ r').dropWhile p = r' := by
  induction a with
  | nil =>
    cases r' with
    | nil => exact ⟨rfl, rfl⟩
    | cons c t =>
      have h : p c = false := hr
      simp [List.takeWhile_cons, List.dropWhile_cons, h]
  | cons c t ih =>
    have h := ih fun x hx => ha x (by simp [hx])
    have hc := ha c (by simp)
    simp [List.takeWhile_cons, List.dropWhile_cons, hc, h.1, h.2]
theorem RunRel.done {p : UInt8 → Bool} {w wr : World} {b : Bl} {r a r' : Bs} {L : Int} {g : Nat} {l : Bs} (hr : r = a ++ r') (ha : ∀ c ∈ a, p c = true) (hp : hdIs p r' = false) (hs : Sb wr b r' L g (l ++ a)) (hc : Ch (Ub b g) w wr) : RunPost p w b r L g l (.returned .nilIface) wr := by
  obtain ⟨h1, h2⟩ := take_all ha hp
  subst hr
  unfold RunPost
  rw [h1, h2]
  exact ⟨rfl, hs, hc⟩
theorem run_more {a : Bs} {c : UInt8} {p : UInt8 → Bool} (ha : ∀ c ∈ a, p c = true) (hc : p c = true) : ∀ x ∈ a ++ [c], p x = true := by
  intro x hx
  rcases List.mem_append.1 hx with h | h
  · exact ha x h
  · rw [List.mem_singleton.1 h]; exact hc
theorem NoCr.app {a r : Bs} (h : NoCr (a ++ r)) : NoCr r := fun x hx => h x (List.mem_append_right _ hx)
theorem NoCr.tl1 {r : Bs} (h : NoCr r) : NoCr (YtbgjjbffpckimaaGreatDoor.tl1 r) := by
  cases r with
  | nil => exact h
  | cons c t => exact h.tail
theorem NoCr.drop {p : UInt8 → Bool} {r : Bs} (h : NoCr r) : NoCr (r.dropWhile p) := fun x hx => h x ((List.dropWhile_sublist p).mem hx)
theorem ln1_of {r : Bs} {L : Int} {c : UInt8} {t : Bs} (h : r = c :: t) (h10 : c ≠ 10) : ln1 r L = L := by subst h; exact if_neg h10

set_option maxRecDepth 100000 in
set_option maxHeartbeats 4000000 in
theorem scanIdent_calls {w : World} {b : Bl} {r : Bs} {L : Int} {g : Nat} {l : Bs} {c : UInt8} (H : Hid (Sb w b r L g l)) (h13 : NoCr r) (hl : l.length + 1 + r.length < 100000) :
    Calls Tryz.prog 30 #[ptr b.Z, .int .i64 (c.toNat : Int), ptr g] w (RunPost isIdc w b r L g (l ++ [c])) := by
  have H13 := Lib.hid h13
  clear h13
  go_enter Tryz.func30, Tryz.ntmps30
  go_wp2_with fail
  refine (sb_write H (by omega)).mono ?_
  rintro e w1 ⟨rfl, hs, hc⟩
  have HS := Lib.hid hs
  have HC := Lib.hid hc
  clear hs hc
  simp only []
  go_wp2_with fail
  go_loopg [] r.length (fun k wr => RunRel isIdc w b r L g (l ++ [c]) k wr)
  case atStart => exact ⟨[], r, rfl, by simp, by rw [List.append_nil]; exact HS.out, HC.out, rfl⟩
  case round =>
    obtain ⟨a, r', hr, ha, hs, hc, hk⟩ := hrel
    have HR := Lib.hid hr
    have HA := Lib.hid ha
    have HS1 := Lib.hid hs
    have HC1 := Lib.hid hc
    have HK := Lib.hid hk
    clear hr ha hs hc hk HS HC H
    have hcr : NoCr r' := by have := H13.out; rw [HR.out] at this; exact this.app
    have HCR := Lib.hid hcr
    clear hcr
    go_wp2_with fail
    refine (sb_peek HS1).mono ?_
    rintro e w2 ⟨rfl, hs2, hc2⟩
    have HS2 := Lib.hid hs2
    have HC2 := Lib.hid (HC1.out.trans hc2)
    clear hs2 hc2 HS1 HC1
    simp only []
    go_wp2_with fail
    cases hv : hdIs isIdc r' with
    | false =>
      have HV := Lib.hid hv
      refine (isIdc_calls hv).mono ?_
      rintro e w3 ⟨rfl, rfl⟩
      clear hv
      simp only []
      go_wp2_with fail
      go_ret
      exact RunRel.done HR.out HA.out HV.out HS2.out HC2.out
    | true =>
      have HV := Lib.hid hv
      refine (isIdc_calls hv).mono ?_
      rintro e w3 ⟨rfl, rfl⟩
      cases r' with
      | nil => simp [hdIs] at hv
      | cons x t =>
        clear hv
        have hx : x ≠ 10 := by
          rintro rfl
          exact absurd (show isIdc 10 = true from HV.out) (by decide)
        have hlen : (l ++ [c] ++ a).length < 100000 := by
          have := congrArg List.length HR.out
          simp at this ⊢
          omega
        simp only []
        go_wp2_with fail
        refine (sb_next HS2 HCR.out).mono ?_
        rintro e w4 ⟨rfl, hs4, hc4⟩
        have HS4 := Lib.hid hs4
        have HC4 := Lib.hid (HC2.out.trans hc4)
        clear hs4 hc4 HS2 HC2
        simp only [hd]
        go_wp2_with fail
        refine (sb_write HS4 hlen).mono ?_
        rintro e w5 ⟨rfl, hs5, hc5⟩
        have HS5 := Lib.hid hs5
        have HC5 := Lib.hid (HC4.out.trans hc5)
        clear hs5 hc5 HS4 HC4
        simp only []
        go_wp2_with fail
        go_roundg (gk - 1)
        case rel =>
          refine ⟨a ++ [x], t, by rw [HR.out]; simp, run_more HA.out HV.out, ?_, HC5.out, ?_⟩
          · have := HS5.out
            rw [ln1_of rfl hx] at this
            simpa [tl1] using this
          · have := HK.out
            simp only [List.length_cons] at this
            omega
        case measure =>
          have := HK.out
          simp only [List.length_cons] at this
          omega

set_option maxRecDepth 100000 in
set_option maxHeartbeats 4000000 in
theorem scanDecimal_calls {w : World} {b : Bl} {r : Bs} {L : Int} {g : Nat} {l : Bs} {c : UInt8} (H : Hid (Sb w b r L g l)) (h13 : NoCr r) (hl : l.length + 1 + r.length < 100000) :
    Calls Tryz.prog 58 #[ptr b.Z, .int .i64 (c.toNat : Int), ptr g] w (RunPost isDec w b r L g (l ++ [c])) := by
  have H13 := Lib.hid h13
  clear h13
  go_enter Tryz.func58, Tryz.ntmps58
  go_wp2_with fail
  refine (sb_write H (by omega)).mono ?_
  rintro e w1 ⟨rfl, hs, hc⟩
  have HS := Lib.hid hs
  have HC := Lib.hid hc
  clear hs hc
  simp only []
  go_wp2_with fail
  go_loopg [] r.length (fun k wr => RunRel isDec w b r L g (l ++ [c]) k wr)
  case atStart => exact ⟨[], r, rfl, by simp, by rw [List.append_nil]; exact HS.out, HC.out, rfl⟩
  case round =>
    obtain ⟨a, r', hr, ha, hs, hc, hk⟩ := hrel
    have HR := Lib.hid hr
    have HA := Lib.hid ha
    have HS1 := Lib.hid hs
    have HC1 := Lib.hid hc
    have HK := Lib.hid hk
    clear hr ha hs hc hk HS HC H
    have hcr : NoCr r' := by have := H13.out; rw [HR.out] at this; exact this.app
    have HCR := Lib.hid hcr
    clear hcr
    go_wp2_with fail
    refine (sb_peek HS1).mono ?_
    rintro e w2 ⟨rfl, hs2, hc2⟩
    have HS2 := Lib.hid hs2
    have HC2 := Lib.hid (HC1.out.trans hc2)
    clear hs2 hc2 HS1 HC1
    simp only []
    go_wp2_with fail
    cases hv : hdIs isDec r' with
    | false =>
      have HV := Lib.hid hv
      refine (isDec_calls hv).mono ?_
      rintro e w3 ⟨rfl, rfl⟩
      clear hv
      simp only []
      go_wp2_with fail
      go_ret
      exact RunRel.done HR.out HA.out HV.out HS2.out HC2.out
    | true =>
      have HV := Lib.hid hv
      refine (isDec_calls hv).mono ?_
      rintro e w3 ⟨rfl, rfl⟩
      cases r' with
      | nil => simp [hdIs] at hv
      | cons x t =>
        clear hv
        have hx : x ≠ 10 := by
          rintro rfl
          exact absurd (show isDec 10 = true from HV.out) (by decide)
        have hlen : (l ++ [c] ++ a).length < 100000 := by
          have := congrArg List.length HR.out
          simp at this ⊢
          omega
        simp only []
        go_wp2_with fail
        refine (sb_next HS2 HCR.out).mono ?_
        rintro e w4 ⟨rfl, hs4, hc4⟩
        have HS4 := Lib.hid hs4
        have HC4 := Lib.hid (HC2.out.trans hc4)
        clear hs4 hc4 HS2 HC2
        simp only [hd]
        go_wp2_with fail
        refine (sb_write HS4 hlen).mono ?_
        rintro e w5 ⟨rfl, hs5, hc5⟩
        have HS5 := Lib.hid hs5
        have HC5 := Lib.hid (HC4.out.trans hc5)
        clear hs5 hc5 HS4 HC4
        simp only []
        go_wp2_with fail
        go_roundg (gk - 1)
        case rel =>
          refine ⟨a ++ [x], t, by rw [HR.out]; simp, run_more HA.out HV.out, ?_, HC5.out, ?_⟩
          · have := HS5.out
            rw [ln1_of rfl hx] at this
            simpa [tl1] using this
          · have := HK.out
            simp only [List.length_cons] at this
            omega
        case measure =>
          have := HK.out
          simp only [List.length_cons] at this
          omega

end Go.Proofs.YtbgjjbffpckimaaGreatDoor
