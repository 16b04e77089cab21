/-
  DERIVED: THE SHELF's CONTRACTS AT THIS DUMP, IN PLAIN WORDS (tools/lay-plain.mjs out of 'TryzShelf.lean', which tools/lay-shelf.mjs wrote): THE SAME DECLARATIONS UNDER THE SAME NAMES: 'import', 'namespace', 'open', 'def', 'theorem' AND NOTHING ELSE: no command of the shelf's: FOR A HAND-IN. Each laying: the table of numbers ('.._ren') and one theorem, a field a fact of the dump's own or the kernel's comparison; each contract: ONE APPLICATION.
-/
import Derived.Shelf.Strings.OnBuilder
import Derived.Shelf.Sort.Plain
import Derived.Shelf.Strings.Prefix
import Derived.Shelf.Slices.In.SortNone2
import Derived.Shelf.Slices.In.SortNone
import Derived.Test.YtgcfnhchmmkndaaGreatDoorProg
namespace Go.Proofs
open Go.Shelf
def Tryz.lays159_ren : Go.Shelf.Ren := ⟨fun | 159 => 74 | 165 => 80 | 166 => 81 | 167 => 93 | 169 => 82 | 230 => 94 | 204 => 95 | 240 => 99 | 241 => 100 | 197 => 121 | 118 => 122 | 168 => 123 | 270 => 124 | 262 => 125 | 276 => 128 | 277 => 129 | 260 => 138 | 242 => 139 | 313 => 140 | 278 => 143 | 274 => 144 | 275 => 145 | n => n, fun | 9 => 9 | 4 => 4 | 3 => 3 | 5 => 5 | 72 => 142 | 0 => 0 | 76 => 131 | 75 => 63 | 107 => 151 | 70 => 140 | 20 => 20 | 37 => 22 | 127 => 153 | 21 => 21 | 105 => 173 | 164 => 179 | 162 => 194 | 203 => 192 | 119 => 198 | 46 => 148 | 139 => 201 | 138 => 200 | 51 => 171 | 160 => 202 | 208 => 209 | 206 => 207 | 80 => 98 | n => n, fun | 13 => 5 | 3 => 7 | 4 => 8 | n => n⟩
theorem Tryz.lays159 : Go.Proofs.Lays.n159 Tryz.prog Tryz.lays159_ren := {
  mixed := by kernel_rfl
  f118 := Tryz.func122.trans (congrArg some (by kernel_rfl))
  f159 := Tryz.func74.trans (congrArg some (by kernel_rfl))
  f165 := Tryz.func80.trans (congrArg some (by kernel_rfl))
  f166 := Tryz.func81.trans (congrArg some (by kernel_rfl))
  f167 := Tryz.func93.trans (congrArg some (by kernel_rfl))
  f168 := Tryz.func123.trans (congrArg some (by kernel_rfl))
  f169 := Tryz.func82.trans (congrArg some (by kernel_rfl))
  f197 := Tryz.func121.trans (congrArg some (by kernel_rfl))
  f204 := Tryz.func95.trans (congrArg some (by kernel_rfl))
  f230 := Tryz.func94.trans (congrArg some (by kernel_rfl))
  f240 := Tryz.func99.trans (congrArg some (by kernel_rfl))
  f241 := Tryz.func100.trans (congrArg some (by kernel_rfl))
  f242 := Tryz.func139.trans (congrArg some (by kernel_rfl))
  f260 := Tryz.func138.trans (congrArg some (by kernel_rfl))
  f262 := Tryz.func125.trans (congrArg some (by kernel_rfl))
  f270 := Tryz.func124.trans (congrArg some (by kernel_rfl))
  f274 := Tryz.func144.trans (congrArg some (by kernel_rfl))
  f275 := Tryz.func145.trans (congrArg some (by kernel_rfl))
  f276 := Tryz.func128.trans (congrArg some (by kernel_rfl))
  f277 := Tryz.func129.trans (congrArg some (by kernel_rfl))
  f278 := Tryz.func143.trans (congrArg some (by kernel_rfl))
  f313 := Tryz.func140.trans (congrArg some (by kernel_rfl))
  t0 := Tryz.underlying0
  a0 := Tryz.isAgg0
  z0 := Tryz.sizeOf0
  v0 := Tryz.zeroValue0
  t3 := Tryz.underlying3
  a3 := Tryz.isAgg3
  z3 := Tryz.sizeOf3
  v3 := Tryz.zeroValue3
  t4 := Tryz.underlying4
  a4 := Tryz.isAgg4
  z4 := Tryz.sizeOf4
  v4 := Tryz.zeroValue4
  t5 := Tryz.underlying5
  a5 := Tryz.isAgg5
  z5 := Tryz.sizeOf5
  v5 := Tryz.zeroValue5
  t9 := Tryz.underlying9
  a9 := Tryz.isAgg9
  z9 := Tryz.sizeOf9
  v9 := Tryz.zeroValue9
  t20 := Tryz.underlying20
  a20 := Tryz.isAgg20
  z20 := Tryz.sizeOf20
  v20 := Tryz.zeroValue20
  t21 := Tryz.underlying21
  a21 := Tryz.isAgg21
  z21 := Tryz.sizeOf21
  v21 := Tryz.zeroValue21
  t37 := Tryz.underlying22
  a37 := Tryz.isAgg22
  z37 := Tryz.sizeOf22
  v37 := Tryz.zeroValue22
  t46 := Tryz.underlying148
  a46 := Tryz.isAgg148
  z46 := Tryz.sizeOf148
  v46 := Tryz.zeroValue148
  t51 := Tryz.underlying171
  a51 := Tryz.isAgg171
  z51 := Tryz.sizeOf171
  v51 := Tryz.zeroValue171
  t70 := Tryz.underlying140
  a70 := Tryz.isAgg140
  z70 := Tryz.sizeOf140
  v70 := Tryz.zeroValue140
  t72 := Tryz.underlying142
  a72 := Tryz.isAgg142
  z72 := Tryz.sizeOf142
  v72 := Tryz.zeroValue142
  t75 := Tryz.underlying63
  a75 := Tryz.isAgg63
  z75 := Tryz.sizeOf63
  v75 := Tryz.zeroValue63
  t76 := Tryz.underlying131
  a76 := Tryz.isAgg131
  z76 := Tryz.sizeOf131
  v76 := Tryz.zeroValue131
  t105 := Tryz.underlying173
  a105 := Tryz.isAgg173
  z105 := Tryz.sizeOf173
  v105 := Tryz.zeroValue173
  t107 := Tryz.underlying151
  a107 := Tryz.isAgg151
  z107 := Tryz.sizeOf151
  v107 := Tryz.zeroValue151
  t119 := Tryz.underlying198
  a119 := Tryz.isAgg198
  z119 := Tryz.sizeOf198
  t127 := Tryz.underlying153
  a127 := Tryz.isAgg153
  z127 := Tryz.sizeOf153
  v127 := Tryz.zeroValue153
  t138 := Tryz.underlying200
  a138 := Tryz.isAgg200
  z138 := Tryz.sizeOf200
  v138 := Tryz.zeroValue200
  t139 := Tryz.underlying201
  a139 := Tryz.isAgg201
  z139 := Tryz.sizeOf201
  v139 := Tryz.zeroValue201
  t160 := Tryz.underlying202
  a160 := Tryz.isAgg202
  z160 := Tryz.sizeOf202
  v160 := Tryz.zeroValue202
  t162 := Tryz.underlying194
  a162 := Tryz.isAgg194
  z162 := Tryz.sizeOf194
  v162 := Tryz.zeroValue194
  t164 := Tryz.underlying179
  a164 := Tryz.isAgg179
  z164 := Tryz.sizeOf179
  v164 := Tryz.zeroValue179
  t203 := Tryz.underlying192
  a203 := Tryz.isAgg192
  z203 := Tryz.sizeOf192
  v203 := Tryz.zeroValue192
  t206 := Tryz.underlying207
  a206 := Tryz.isAgg207
  z206 := Tryz.sizeOf207
  v206 := Tryz.zeroValue207
  t208 := Tryz.underlying209
  a208 := Tryz.isAgg209
  z208 := Tryz.sizeOf209
  v208 := Tryz.zeroValue209
  g3 := by kernel_rfl
  g4 := by kernel_rfl
  g13 := by kernel_rfl }
theorem Tryz.Builder_Extra_159 : Builder.Extra Tryz.prog Tryz.lays159_ren := {
  sizeBuilder := by kernel_rfl
  liesBuilder := by kernel_rfl
  t5 := Tryz.underlying5
  a5 := Tryz.isAgg5
  z5 := Tryz.sizeOf5
  v5 := Tryz.zeroValue5
  infoByte := by kernel_rfl
  cellsByte := by kernel_rfl
  sizeByte := by kernel_rfl
  neB5 := by decide }
open Go.RowKit in
/-- strings.ToLower: "ToLower returns s with all Unicode letters mapped to their lower case.": ON ASCII TEXT OF AT MOST 2^47 BYTES. Below the heap's end the world is as it was: where a letter turns, the call makes a builder and its buffer. (LAID: no walk: one application.) -/
theorem Tryz.strings_ToLower_ascii (s : ByteArray) (w : World) (hs : s.size ≤ 140737488355328) (hascii : ∀ (j : Nat) (b : UInt8), s.data.toList[j]? = some b → b.toNat < 128) :
    Calls Tryz.prog 74 #[.string s] w fun e w' => e = .returned (.string ⟨(Lib.toLowerA s.data.toList).toArray⟩) ∧ Below w.heap.size w w' := Any.strings_ToLower_ascii Tryz.lays159 Tryz.Builder_Extra_159 s w hs hascii
def Tryz.lays156_ren : Go.Shelf.Ren := ⟨fun | 156 => 62 | 165 => 80 | 166 => 81 | 169 => 82 | 240 => 99 | 241 => 100 | 276 => 128 | 277 => 129 | n => n, fun | 31 => 29 | 9 => 9 | 3 => 3 | 4 => 4 | 0 => 0 | 20 => 20 | 72 => 142 | 76 => 131 | 70 => 140 | 37 => 22 | 75 => 63 | 127 => 153 | 164 => 179 | 5 => 5 | 80 => 98 | n => n, fun | n => n⟩
theorem Tryz.lays156 : Go.Proofs.Lays.n156 Tryz.prog Tryz.lays156_ren := {
  mixed := by kernel_rfl
  f156 := Tryz.func62.trans (congrArg some (by kernel_rfl))
  f165 := Tryz.func80.trans (congrArg some (by kernel_rfl))
  f166 := Tryz.func81.trans (congrArg some (by kernel_rfl))
  f169 := Tryz.func82.trans (congrArg some (by kernel_rfl))
  f240 := Tryz.func99.trans (congrArg some (by kernel_rfl))
  f241 := Tryz.func100.trans (congrArg some (by kernel_rfl))
  f276 := Tryz.func128.trans (congrArg some (by kernel_rfl))
  f277 := Tryz.func129.trans (congrArg some (by kernel_rfl))
  t0 := Tryz.underlying0
  a0 := Tryz.isAgg0
  z0 := Tryz.sizeOf0
  v0 := Tryz.zeroValue0
  t3 := Tryz.underlying3
  a3 := Tryz.isAgg3
  z3 := Tryz.sizeOf3
  v3 := Tryz.zeroValue3
  t4 := Tryz.underlying4
  a4 := Tryz.isAgg4
  z4 := Tryz.sizeOf4
  v4 := Tryz.zeroValue4
  t9 := Tryz.underlying9
  a9 := Tryz.isAgg9
  z9 := Tryz.sizeOf9
  v9 := Tryz.zeroValue9
  t20 := Tryz.underlying20
  a20 := Tryz.isAgg20
  z20 := Tryz.sizeOf20
  v20 := Tryz.zeroValue20
  t31 := Tryz.underlying29
  a31 := Tryz.isAgg29
  z31 := Tryz.sizeOf29
  v31 := Tryz.zeroValue29
  t37 := Tryz.underlying22
  a37 := Tryz.isAgg22
  z37 := Tryz.sizeOf22
  v37 := Tryz.zeroValue22
  t70 := Tryz.underlying140
  a70 := Tryz.isAgg140
  z70 := Tryz.sizeOf140
  v70 := Tryz.zeroValue140
  t72 := Tryz.underlying142
  a72 := Tryz.isAgg142
  z72 := Tryz.sizeOf142
  v72 := Tryz.zeroValue142
  t75 := Tryz.underlying63
  a75 := Tryz.isAgg63
  z75 := Tryz.sizeOf63
  v75 := Tryz.zeroValue63
  t76 := Tryz.underlying131
  a76 := Tryz.isAgg131
  z76 := Tryz.sizeOf131
  v76 := Tryz.zeroValue131
  t127 := Tryz.underlying153
  a127 := Tryz.isAgg153
  z127 := Tryz.sizeOf153
  v127 := Tryz.zeroValue153
  t164 := Tryz.underlying179
  a164 := Tryz.isAgg179
  z164 := Tryz.sizeOf179
  v164 := Tryz.zeroValue179 }
theorem Tryz.Builder_Extra_156 : Builder.Extra Tryz.prog Tryz.lays156_ren := {
  sizeBuilder := by kernel_rfl
  liesBuilder := by kernel_rfl
  t5 := Tryz.underlying5
  a5 := Tryz.isAgg5
  z5 := Tryz.sizeOf5
  v5 := Tryz.zeroValue5
  infoByte := by kernel_rfl
  cellsByte := by kernel_rfl
  sizeByte := by kernel_rfl
  neB5 := by decide }
open Go.RowKit in
/-- No element: the empty string; the world is as it was. (Whatever the slice's address and capacity: a nil slice too.) (LAID: no walk: one application.) -/
theorem Tryz.strings_Join_none (a : Option Addr) (c : Nat) (sep : ByteArray) (w : World) :
    Calls Tryz.prog 62 #[.slice a 0 c, .string sep] w fun e w' => e = .returned (.string ⟨#[]⟩) ∧ w' = w := Any.strings_Join_none Tryz.lays156 Tryz.Builder_Extra_156 a c sep w
open Go.RowKit in
/-- strings.Join: "Join concatenates the elements of its first argument to create a single string. The separator string sep is placed between elements in the resulting string.": HOWEVER MANY ELEMENTS. Below the heap's end the world is as it was. (LAID: no walk: one application.) -/
theorem Tryz.strings_Join (bk o c : Nat) (xs : List ByteArray) (sep : ByteArray) (w : World) (hcells : ∀ (j : Nat) x, xs[j]? = some x → w.cell? ⟨bk, o + j, none⟩ = some (.string x)) (hbk : bk < w.heap.size) (hN : xs.length ≤ 140737488355328) (hcap : xs.length ≤ c) (hlen : (Lib.join (xs.map (·.data.toList)) sep.data.toList).length ≤ 140737488355328) :
    Calls Tryz.prog 62 #[.slice (some ⟨bk, o, none⟩) xs.length c, .string sep] w fun e w' => e = .returned (.string ⟨(Lib.join (xs.map (·.data.toList)) sep.data.toList).toArray⟩) ∧ Below w.heap.size w w' := Any.strings_Join Tryz.lays156 Tryz.Builder_Extra_156 bk o c xs sep w hcells hbk hN hcap hlen
def Tryz.lays192_ren : Go.Shelf.Ren := ⟨fun | 192 => 54 | 190 => 73 | 125 => 92 | 258 => 91 | 128 => 119 | 129 => 120 | 302 => 110 | 303 => 111 | 304 => 112 | 305 => 113 | 306 => 114 | 307 => 115 | 308 => 116 | 309 => 117 | 310 => 118 | 333 => 132 | 329 => 133 | 330 => 134 | 334 => 135 | 335 => 136 | 336 => 137 | 344 => 142 | n => n, fun | 31 => 29 | 0 => 0 | 9 => 9 | 3 => 3 | 46 => 148 | 51 => 171 | 53 => 133 | 4 => 4 | 183 => 164 | 182 => 163 | 131 => 168 | 5 => 5 | 218 => 185 | 222 => 189 | 228 => 195 | 229 => 196 | n => n, fun | n => n⟩
theorem Tryz.lays192 : Go.Proofs.Lays.n192 Tryz.prog Tryz.lays192_ren := {
  mixed := by kernel_rfl
  f125 := Tryz.func92.trans (congrArg some (by kernel_rfl))
  f128 := Tryz.func119.trans (congrArg some (by kernel_rfl))
  f129 := Tryz.func120.trans (congrArg some (by kernel_rfl))
  f190 := Tryz.func73.trans (congrArg some (by kernel_rfl))
  f192 := Tryz.func54.trans (congrArg some (by kernel_rfl))
  f258 := Tryz.func91.trans (congrArg some (by kernel_rfl))
  f302 := Tryz.func110.trans (congrArg some (by kernel_rfl))
  f303 := Tryz.func111.trans (congrArg some (by kernel_rfl))
  f304 := Tryz.func112.trans (congrArg some (by kernel_rfl))
  f305 := Tryz.func113.trans (congrArg some (by kernel_rfl))
  f306 := Tryz.func114.trans (congrArg some (by kernel_rfl))
  f307 := Tryz.func115.trans (congrArg some (by kernel_rfl))
  f308 := Tryz.func116.trans (congrArg some (by kernel_rfl))
  f309 := Tryz.func117.trans (congrArg some (by kernel_rfl))
  f310 := Tryz.func118.trans (congrArg some (by kernel_rfl))
  f329 := Tryz.func133.trans (congrArg some (by kernel_rfl))
  f330 := Tryz.func134.trans (congrArg some (by kernel_rfl))
  f333 := Tryz.func132.trans (congrArg some (by kernel_rfl))
  f334 := Tryz.func135.trans (congrArg some (by kernel_rfl))
  f335 := Tryz.func136.trans (congrArg some (by kernel_rfl))
  f336 := Tryz.func137.trans (congrArg some (by kernel_rfl))
  f344 := Tryz.func142.trans (congrArg some (by kernel_rfl))
  t0 := Tryz.underlying0
  a0 := Tryz.isAgg0
  z0 := Tryz.sizeOf0
  v0 := Tryz.zeroValue0
  t3 := Tryz.underlying3
  a3 := Tryz.isAgg3
  z3 := Tryz.sizeOf3
  v3 := Tryz.zeroValue3
  t4 := Tryz.underlying4
  a4 := Tryz.isAgg4
  z4 := Tryz.sizeOf4
  v4 := Tryz.zeroValue4
  t5 := Tryz.underlying5
  a5 := Tryz.isAgg5
  z5 := Tryz.sizeOf5
  v5 := Tryz.zeroValue5
  t9 := Tryz.underlying9
  a9 := Tryz.isAgg9
  z9 := Tryz.sizeOf9
  v9 := Tryz.zeroValue9
  t31 := Tryz.underlying29
  a31 := Tryz.isAgg29
  z31 := Tryz.sizeOf29
  v31 := Tryz.zeroValue29
  t46 := Tryz.underlying148
  a46 := Tryz.isAgg148
  z46 := Tryz.sizeOf148
  v46 := Tryz.zeroValue148
  t51 := Tryz.underlying171
  a51 := Tryz.isAgg171
  z51 := Tryz.sizeOf171
  v51 := Tryz.zeroValue171
  t53 := Tryz.underlying133
  a53 := Tryz.isAgg133
  z53 := Tryz.sizeOf133
  v53 := Tryz.zeroValue133
  t131 := Tryz.underlying168
  a131 := Tryz.isAgg168
  z131 := Tryz.sizeOf168
  v131 := Tryz.zeroValue168
  t182 := Tryz.underlying163
  a182 := Tryz.isAgg163
  z182 := Tryz.sizeOf163
  v182 := Tryz.zeroValue163
  t183 := Tryz.underlying164
  a183 := Tryz.isAgg164
  z183 := Tryz.sizeOf164
  v183 := Tryz.zeroValue164
  t218 := Tryz.underlying185
  a218 := Tryz.isAgg185
  z218 := Tryz.sizeOf185
  v218 := Tryz.zeroValue185
  t222 := Tryz.underlying189
  a222 := Tryz.isAgg189
  z222 := Tryz.sizeOf189
  v222 := Tryz.zeroValue189
  t228 := Tryz.underlying195
  a228 := Tryz.isAgg195
  z228 := Tryz.sizeOf195
  v228 := Tryz.zeroValue195
  t229 := Tryz.underlying196
  a229 := Tryz.isAgg196
  z229 := Tryz.sizeOf196
  v229 := Tryz.zeroValue196 }
open Go.Sort Go.RowKit in
theorem Tryz.sort_Strings (blk off cap : Nat) (ss : List (List UInt8)) (w : World) (hH : Holds encStr w blk off ss.toArray) (hblk : blk < w.heap.size) (hsz : ss.length < 4611686018427387904) :
    Calls Tryz.prog 54 #[.slice (some ⟨blk, off, none⟩) ss.length cap] w fun e w' =>
      e = .returned (.tuple #[]) ∧ ∃ n os, w' = grow (putRow encStr (Sort.ahead w n) blk off (ss.mergeSort fun x y => decide (x ≤ y)).toArray) os := Any.sort_Strings Tryz.lays192 blk off cap ss w hH hblk hsz
def Tryz.lays99_ren : Go.Shelf.Ren := ⟨fun | 99 => 64 | 206 => 83 | n => n, fun | 9 => 9 | 4 => 4 | 3 => 3 | n => n, fun | n => n⟩
theorem Tryz.lays99 : Go.Proofs.Lays.n99 Tryz.prog Tryz.lays99_ren := {
  mixed := by kernel_rfl
  f99 := Tryz.func64.trans (congrArg some (by kernel_rfl))
  f206 := Tryz.func83.trans (congrArg some (by kernel_rfl))
  t3 := Tryz.underlying3
  a3 := Tryz.isAgg3
  z3 := Tryz.sizeOf3
  v3 := Tryz.zeroValue3
  t4 := Tryz.underlying4
  a4 := Tryz.isAgg4
  z4 := Tryz.sizeOf4
  v4 := Tryz.zeroValue4
  t9 := Tryz.underlying9
  a9 := Tryz.isAgg9
  z9 := Tryz.sizeOf9
  v9 := Tryz.zeroValue9 }
open Go.RowKit Go.Lib in
/-- strings.HasPrefix: "HasPrefix reports whether the string s begins with prefix.": IT RETURNS 'Lib.hasPrefix s prefix'; the world is as it was. (LAID: no walk: one application.) -/
theorem Tryz.strings_HasPrefix (s p : ByteArray) (w : World) :
    Calls Tryz.prog 64 #[.string s, .string p] w fun e w' => e = .returned (.bool (Lib.hasPrefix s.data.toList p.data.toList)) ∧ w' = w := Any.strings_HasPrefix Tryz.lays99 s p w
open Go.RowKit Go.Sort in
/-- .. and plain. (LAID: no walk: one application.) -/
theorem Tryz.sort_Strings_none (p : Option Addr) (cap : Nat) (w : World) :
    Calls Tryz.prog 54 #[.slice p 0 cap] w fun e w' => e = .returned (.tuple #[]) ∧ w' = w := Any.sort_Strings_none Tryz.lays192 p cap w
end Go.Proofs
