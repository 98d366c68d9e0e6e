/- The library's contracts that the walks of Unquote call, at this dump; the tables of utf8; rows of bytes. -/
import Derived.Test.YtggodjppecljnaaDoorRBase
import Derived.Test.YtggodjppecljnaaDoorRShelf
import Derived.Shelf.Spec.DecodeRune
import Derived.Shelf.Strings.BuilderRune
import Derived.LaidMore
import Derived.LaidSub
import Derived.OpenShut
namespace Go.Proofs
open Go.Shelf
def Tryd.lays168h_ren : Go.Shelf.Ren := ⟨fun | 0 => 0 | 1 => 1 | 2 => 2 | 119 => 19 | 168 => 10 | 169 => 9 | 205 => 13 | 240 => 15 | 242 => 16 | 276 => 21 | 278 => 22 | 326 => 14 | 342 => 20 | 347 => 25 | 348 => 26 | 349 => 27 | 350 => 28 | 351 => 29 | 352 => 30 | 353 => 31 | 354 => 32 | 355 => 33 | 356 => 34 | 357 => 35 | 358 => 36 | 359 => 37 | 360 => 38 | 361 => 39 | 362 => 40 | 363 => 41 | 366 => 42 | 367 => 47 | n => n, fun | 0 => 0 | 1 => 1 | 2 => 2 | 3 => 3 | 4 => 4 | 5 => 5 | 6 => 6 | 7 => 7 | 8 => 8 | 9 => 9 | 10 => 10 | 11 => 11 | 12 => 12 | 13 => 13 | 14 => 14 | 15 => 15 | 16 => 16 | 17 => 17 | 18 => 18 | 19 => 19 | 20 => 20 | 21 => 21 | 37 => 30 | 39 => 49 | 40 => 48 | 46 => 25 | 49 => 24 | 51 => 22 | 59 => 26 | 70 => 35 | 71 => 36 | 72 => 37 | 74 => 31 | 75 => 32 | 76 => 41 | 79 => 42 | 80 => 40 | 81 => 65 | 105 => 44 | 107 => 55 | 108 => 43 | 119 => 56 | 126 => 47 | 127 => 46 | 137 => 57 | 138 => 58 | 139 => 59 | 143 => 50 | 144 => 51 | 145 => 52 | 164 => 53 | 165 => 54 | 217 => 45 | 238 => 60 | 239 => 61 | 240 => 62 | 241 => 63 | 242 => 64 | 243 => 66 | 244 => 67 | 245 => 68 | 246 => 69 | 247 => 70 | 248 => 71 | 249 => 72 | n => n, fun | 3 => 0 | 4 => 1 | n => n⟩
theorem Tryd.lays168h : Go.Proofs.Lays.n168 Tryd.prog Tryd.lays168h_ren := {
  mixed := by kernel_rfl,
  f168 := Tryd.func10.trans (congrArg some (by kernel_rfl)),
  f240 := Tryd.func15.trans (congrArg some (by kernel_rfl)),
  f242 := Tryd.func16.trans (congrArg some (by kernel_rfl)),
  f276 := Tryd.func21.trans (congrArg some (by kernel_rfl)),
  f278 := Tryd.func22.trans (congrArg some (by kernel_rfl)),
  t0 := Tryd.underlying0,
  a0 := Tryd.isAgg0,
  z0 := Tryd.sizeOf0,
  v0 := Tryd.zeroValue0,
  t3 := Tryd.underlying3,
  a3 := Tryd.isAgg3,
  z3 := Tryd.sizeOf3,
  v3 := Tryd.zeroValue3,
  t4 := Tryd.underlying4,
  a4 := Tryd.isAgg4,
  z4 := Tryd.sizeOf4,
  v4 := Tryd.zeroValue4,
  t5 := Tryd.underlying5,
  a5 := Tryd.isAgg5,
  z5 := Tryd.sizeOf5,
  v5 := Tryd.zeroValue5,
  t9 := Tryd.underlying9,
  a9 := Tryd.isAgg9,
  z9 := Tryd.sizeOf9,
  v9 := Tryd.zeroValue9,
  t20 := Tryd.underlying20,
  a20 := Tryd.isAgg20,
  z20 := Tryd.sizeOf20,
  v20 := Tryd.zeroValue20,
  t21 := Tryd.underlying21,
  a21 := Tryd.isAgg21,
  z21 := Tryd.sizeOf21,
  v21 := Tryd.zeroValue21,
  t37 := Tryd.underlying30,
  a37 := Tryd.isAgg30,
  z37 := Tryd.sizeOf30,
  v37 := Tryd.zeroValue30,
  t46 := Tryd.underlying25,
  a46 := Tryd.isAgg25,
  z46 := Tryd.sizeOf25,
  v46 := Tryd.zeroValue25,
  t51 := Tryd.underlying22,
  a51 := Tryd.isAgg22,
  z51 := Tryd.sizeOf22,
  v51 := Tryd.zeroValue22,
  t70 := Tryd.underlying35,
  a70 := Tryd.isAgg35,
  z70 := Tryd.sizeOf35,
  v70 := Tryd.zeroValue35,
  t72 := Tryd.underlying37,
  a72 := Tryd.isAgg37,
  z72 := Tryd.sizeOf37,
  v72 := Tryd.zeroValue37,
  t75 := Tryd.underlying32,
  a75 := Tryd.isAgg32,
  z75 := Tryd.sizeOf32,
  v75 := Tryd.zeroValue32,
  t164 := Tryd.underlying53,
  a164 := Tryd.isAgg53,
  z164 := Tryd.sizeOf53,
  v164 := Tryd.zeroValue53 }
theorem Tryd.lays168h_Extra : Builder.Extra Tryd.prog Tryd.lays168h_ren := {
  sizeBuilder := by kernel_rfl
  liesBuilder := by kernel_rfl
  t5 := Tryd.underlying5
  a5 := Tryd.isAgg5
  z5 := Tryd.sizeOf5
  v5 := Tryd.zeroValue5
  infoByte := by kernel_rfl
  cellsByte := by kernel_rfl
  sizeByte := by kernel_rfl
  neB5 := by decide }
def Tryd.lays32h_ren : Go.Shelf.Ren := ⟨fun | 0 => 0 | 1 => 1 | 2 => 2 | 32 => 14 | 49 => 20 | 52 => 15 | 57 => 16 | 59 => 21 | 62 => 19 | 63 => 22 | 71 => 25 | 72 => 26 | 73 => 27 | 74 => 28 | 75 => 29 | 76 => 30 | 77 => 31 | 78 => 32 | 79 => 33 | 80 => 34 | 81 => 35 | 82 => 36 | 83 => 37 | 84 => 38 | 85 => 39 | 86 => 40 | 87 => 9 | 88 => 42 | 89 => 47 | n => n, fun | 0 => 0 | 1 => 1 | 2 => 2 | 3 => 3 | 4 => 4 | 5 => 5 | 6 => 6 | 7 => 7 | 8 => 8 | 9 => 9 | 10 => 10 | 11 => 11 | 12 => 12 | 13 => 13 | 14 => 14 | 15 => 15 | 16 => 16 | 17 => 17 | 18 => 18 | 19 => 19 | 20 => 20 | 21 => 21 | 25 => 25 | 27 => 22 | 30 => 30 | 33 => 44 | 34 => 45 | 35 => 55 | 36 => 35 | 37 => 31 | 38 => 32 | 39 => 41 | 47 => 47 | 48 => 48 | 58 => 36 | 59 => 37 | 66 => 56 | 67 => 57 | 68 => 58 | 69 => 59 | 73 => 53 | 74 => 54 | 83 => 24 | 89 => 40 | 90 => 60 | 91 => 61 | 92 => 62 | 93 => 63 | 94 => 64 | 95 => 65 | 96 => 66 | 97 => 67 | 98 => 68 | 99 => 46 | 100 => 69 | 101 => 70 | 102 => 71 | 103 => 72 | n => n, fun | 2 => 0 | 3 => 1 | n => n⟩
theorem Tryd.lays32h : Go.Proofs.Lays7.n32 Tryd.prog Tryd.lays32h_ren := {
  mixed := by kernel_rfl,
  f32 := Tryd.func14.trans (congrArg some (by kernel_rfl)),
  f49 := Tryd.func20.trans (congrArg some (by kernel_rfl)),
  t0 := Tryd.underlying0,
  a0 := Tryd.isAgg0,
  z0 := Tryd.sizeOf0,
  v0 := Tryd.zeroValue0,
  i0 := by kernel_rfl,
  t3 := Tryd.underlying3,
  a3 := Tryd.isAgg3,
  z3 := Tryd.sizeOf3,
  v3 := Tryd.zeroValue3,
  i3 := by kernel_rfl,
  t4 := Tryd.underlying4,
  a4 := Tryd.isAgg4,
  z4 := Tryd.sizeOf4,
  v4 := Tryd.zeroValue4,
  i4 := by kernel_rfl,
  t5 := Tryd.underlying5,
  a5 := Tryd.isAgg5,
  z5 := Tryd.sizeOf5,
  v5 := Tryd.zeroValue5,
  i5 := by kernel_rfl,
  t21 := Tryd.underlying21,
  a21 := Tryd.isAgg21,
  z21 := Tryd.sizeOf21,
  v21 := Tryd.zeroValue21,
  i21 := by kernel_rfl,
  t25 := Tryd.underlying25,
  a25 := Tryd.isAgg25,
  z25 := Tryd.sizeOf25,
  v25 := Tryd.zeroValue25,
  i25 := by kernel_rfl,
  t30 := Tryd.underlying30,
  a30 := Tryd.isAgg30,
  z30 := Tryd.sizeOf30,
  v30 := Tryd.zeroValue30,
  i30 := by kernel_rfl,
  t33 := Tryd.underlying44,
  a33 := Tryd.isAgg44,
  z33 := Tryd.sizeOf44,
  v33 := Tryd.zeroValue44,
  i33 := by kernel_rfl,
  t66 := Tryd.underlying56,
  a66 := Tryd.isAgg56,
  z66 := Tryd.sizeOf56,
  t68 := Tryd.underlying58,
  a68 := Tryd.isAgg58,
  z68 := Tryd.sizeOf58,
  v68 := Tryd.zeroValue58,
  i68 := by kernel_rfl,
  t69 := Tryd.underlying59,
  a69 := Tryd.isAgg59,
  z69 := Tryd.sizeOf59,
  v69 := Tryd.zeroValue59,
  i69 := by kernel_rfl,
  g2 := by kernel_rfl,
  g3 := by kernel_rfl }

end Go.Proofs
namespace Go.Proofs.YtggodjppecljnaaDoorR
open Go.RowKit

/-- A block that holds these bytes. -/
def BRow (w : World) (B off : Nat) (l : List UInt8) : Prop :=
  B < w.heap.size ∧ ∀ j (h : j < l.length), w.cell? ⟨B, off + j, none⟩ = some (.int .u8 (l[j].toNat : Int))
theorem cell_ext {w w' : World} (e : Ext w w') {p : Addr} {v : Value} (h : w.cell? p = some v) : w'.cell? p = some v := by
  have hlt : p.block < w.heap.size := by
    rcases Nat.lt_or_ge p.block w.heap.size with h' | h'
    · exact h'
    · simp [World.cell?, Array.getElem?_eq_none h'] at h
  simpa [World.cell?, e.block _ hlt] using h
theorem BRow.ext {w w' : World} {B off : Nat} {l : List UInt8} (h : BRow w B off l) (e : Ext w w') : BRow w' B off l :=
  ⟨Nat.lt_of_lt_of_le h.1 e.size, fun j hj => cell_ext e (h.2 j hj)⟩
/-- The two tables of utf8. -/
def Tabs (w : World) : Prop := Lib.Utf8Tabs 0 1 w
theorem Tabs.ext {w w' : World} (h : Tabs w) (e : Ext w w') : Tabs w' :=
  ⟨fun c hc => cell_ext e (h.1 c hc), fun i hi => ⟨cell_ext e (h.2 i hi).1, cell_ext e (h.2 i hi).2⟩⟩

/-- unicode/utf8.DecodeRune at what lies behind the first i bytes. -/
theorem decode_any (l : List UInt8) (B off i cap : Nat) (w : World) (hT : Tabs w) (hB : BRow w B off l) (hi : i ≤ l.length) :
    Calls Tryd.prog 14 #[.slice (some ⟨B, off + i, none⟩) (l.length - i : Nat) cap] w fun e w' => e = .returned (.tuple #[.int .i32 (Lib.decodeGo (bs (l.drop i))).1, .int .i64 (Lib.decodeGo (bs (l.drop i))).2]) ∧ Ext w w' := by
  have c := Any7.utf8_DecodeRune Tryd.lays32h (bs (l.drop i)) B (off + i) cap w hT (by
    intro j hj
    have hj' : i + j < l.length := by rw [bs_size, List.length_drop] at hj; omega
    rw [Nat.add_assoc, hB.2 (i + j) hj']
    have : (bs (l.drop i)).get! j = (l.drop i)[j]! := by
      simp [bs, ByteArray.get!]
    rw [this]
    simp [hj', List.getElem?_drop])
  rw [bs_size, List.length_drop] at c
  exact c

/-- (*strings.Builder).WriteRune. -/
theorem writeRune_any (B b : Nat) (xs : List UInt8) (r : Int) (hr0 : -2147483648 ≤ r) (hr1 : r ≤ 2147483647) (w : World) (h : Lib.IsBuilderF 37 5 B b (Lib.byteCells xs) w) (hlen : xs.length + 4 ≤ 140737488355328) (hBw : B ≤ w.heap.size) :
    Calls Tryd.prog 10 #[.pointer (some ⟨b, 0, none⟩), .int .i32 r] w fun e w' => (∃ v, e = .returned v) ∧ Lib.IsBuilderF 37 5 B b (Lib.byteCells (xs ++ Lib.encodeRune r)) w' ∧ Below B w w' := by
  refine (Any.Builder_WriteRune_k Tryd.lays168h Tryd.lays168h_Extra B b (Lib.byteCells xs) r hr0 hr1 w h (by simpa [Lib.byteCells] using hlen) hBw).mono ?_
  rintro e w' ⟨rfl, h1, h2, -⟩
  refine ⟨⟨_, rfl⟩, .inr ?_, h2⟩
  have : Lib.byteCells (xs ++ Lib.encodeRune r) = Lib.byteCells xs ++ Lib.runeCells r := by
    rw [← Lib.byteCells_encodeRune]
    simp [Lib.byteCells]
  rw [this]
  exact h1
end Go.Proofs.YtggodjppecljnaaDoorR
