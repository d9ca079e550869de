/- The contracts of the library at this program: the table of numbers of each, and that the program holds the functions that it speaks of. (Printed by shelf.py.) -/
import Derived.Shelf.LaysM
import Derived.Shelf.LaysC
import Derived.Shelf.Strings.Repeat
import Derived.KernelRfl
import Derived.Test.YtcpjdgbnfjdakaaProg
namespace Go.Proofs.Ytcpjdgbnfjdakaa
open Go.Shelf
def lays105_ren : Go.Shelf.Ren := ⟨fun | 105 => 109 | 212 => 114 | 99 => 115 | 165 => 116 | 166 => 117 | 170 => 118 | 169 => 119 | 263 => 123 | 264 => 124 | 206 => 125 | 240 => 126 | 241 => 127 | 276 => 130 | 277 => 131 | n => n, fun | 9 => 9 | 3 => 3 | 4 => 4 | 20 => 20 | 0 => 0 | 46 => 172 | 109 => 173 | 5 => 5 | 72 => 178 | 76 => 180 | 51 => 182 | 146 => 183 | 53 => 185 | 148 => 186 | 70 => 176 | 37 => 114 | 75 => 83 | 127 => 188 | 164 => 189 | 80 => 138 | n => n, fun | n => n⟩
theorem lays105 : Go.Proofs.Lays.n105 Try.prog lays105_ren := {
  mixed := by kernel_rfl
  f99 := Try.func115.trans (congrArg some (by kernel_rfl))
  f105 := Try.func109.trans (congrArg some (by kernel_rfl))
  f165 := Try.func116.trans (congrArg some (by kernel_rfl))
  f166 := Try.func117.trans (congrArg some (by kernel_rfl))
  f169 := Try.func119.trans (congrArg some (by kernel_rfl))
  f170 := Try.func118.trans (congrArg some (by kernel_rfl))
  f206 := Try.func125.trans (congrArg some (by kernel_rfl))
  f212 := Try.func114.trans (congrArg some (by kernel_rfl))
  f240 := Try.func126.trans (congrArg some (by kernel_rfl))
  f241 := Try.func127.trans (congrArg some (by kernel_rfl))
  f263 := Try.func123.trans (congrArg some (by kernel_rfl))
  f264 := Try.func124.trans (congrArg some (by kernel_rfl))
  f276 := Try.func130.trans (congrArg some (by kernel_rfl))
  f277 := Try.func131.trans (congrArg some (by kernel_rfl))
  t0 := Try.underlying0
  a0 := Try.isAgg0
  z0 := Try.sizeOf0
  v0 := Try.zeroValue0
  t3 := Try.underlying3
  a3 := Try.isAgg3
  z3 := Try.sizeOf3
  v3 := Try.zeroValue3
  t4 := Try.underlying4
  a4 := Try.isAgg4
  z4 := Try.sizeOf4
  v4 := Try.zeroValue4
  t5 := Try.underlying5
  a5 := Try.isAgg5
  z5 := Try.sizeOf5
  v5 := Try.zeroValue5
  t9 := Try.underlying9
  a9 := Try.isAgg9
  z9 := Try.sizeOf9
  v9 := Try.zeroValue9
  t20 := Try.underlying20
  a20 := Try.isAgg20
  z20 := Try.sizeOf20
  v20 := Try.zeroValue20
  t37 := Try.underlying114
  a37 := Try.isAgg114
  z37 := Try.sizeOf114
  v37 := Try.zeroValue114
  t46 := Try.underlying172
  a46 := Try.isAgg172
  z46 := Try.sizeOf172
  v46 := Try.zeroValue172
  t51 := Try.underlying182
  a51 := Try.isAgg182
  z51 := Try.sizeOf182
  v51 := Try.zeroValue182
  t53 := Try.underlying185
  a53 := Try.isAgg185
  z53 := Try.sizeOf185
  v53 := Try.zeroValue185
  t70 := Try.underlying176
  a70 := Try.isAgg176
  z70 := Try.sizeOf176
  v70 := Try.zeroValue176
  t72 := Try.underlying178
  a72 := Try.isAgg178
  z72 := Try.sizeOf178
  v72 := Try.zeroValue178
  t75 := Try.underlying83
  a75 := Try.isAgg83
  z75 := Try.sizeOf83
  v75 := Try.zeroValue83
  t76 := Try.underlying180
  a76 := Try.isAgg180
  z76 := Try.sizeOf180
  v76 := Try.zeroValue180
  t109 := Try.underlying173
  a109 := Try.isAgg173
  z109 := Try.sizeOf173
  v109 := Try.zeroValue173
  t127 := Try.underlying188
  a127 := Try.isAgg188
  z127 := Try.sizeOf188
  v127 := Try.zeroValue188
  t146 := Try.underlying183
  a146 := Try.isAgg183
  z146 := Try.sizeOf183
  v146 := Try.zeroValue183
  t148 := Try.underlying186
  a148 := Try.isAgg186
  z148 := Try.sizeOf186
  v148 := Try.zeroValue186
  t164 := Try.underlying189
  a164 := Try.isAgg189
  z164 := Try.sizeOf189
  v164 := Try.zeroValue189 }
end Go.Proofs.Ytcpjdgbnfjdakaa
