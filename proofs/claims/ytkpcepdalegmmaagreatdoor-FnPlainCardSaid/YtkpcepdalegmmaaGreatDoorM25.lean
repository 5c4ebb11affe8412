/- Parts of a proof, laid behind one another: Contracts of the library, as the kit lays them at this program: strings.ToLower, slices.Sort. Properties: the names of a map, collected and sorted. -/
import Derived.Shelf.Strings.Builder1
import Derived.Shelf.Strings.Builder2
import Derived.Shelf.Strings.OnBuilder
import Derived.Shelf.Sort.Plain
import Derived.Shelf.Slices.In.SortNone
import Derived.Test.YtkpcepdalegmmaaGreatDoorProg
import Derived.Test.YtkpcepdalegmmaaGreatDoorM24
import Derived.Test.YtkpcepdalegmmaaGreatDoorM23
import Derived.Sort.OwnSorted
/-! Contracts of the library, as the kit lays them at this program: strings.ToLower, slices.Sort. -/
namespace Go.Proofs.YtkpcepdalegmmaaGreatDoor
open Go.Shelf
def Tryz.lays159_ren : Go.Shelf.Ren := ⟨fun | 159 => 35 | 165 => 45 | 166 => 46 | 167 => 47 | 169 => 48 | 230 => 49 | 204 => 50 | 240 => 66 | 241 => 67 | 197 => 68 | 118 => 69 | 168 => 70 | 270 => 71 | 262 => 72 | 276 => 92 | 277 => 93 | 260 => 94 | 242 => 95 | 313 => 96 | 278 => 105 | 274 => 106 | 275 => 107 | n => n, fun | 9 => 9 | 4 => 4 | 3 => 3 | 5 => 5 | 72 => 119 | 0 => 0 | 76 => 121 | 75 => 31 | 107 => 125 | 70 => 117 | 20 => 20 | 37 => 23 | 127 => 145 | 21 => 21 | 105 => 146 | 164 => 174 | 162 => 180 | 203 => 178 | 119 => 188 | 46 => 144 | 139 => 191 | 138 => 190 | 51 => 153 | 160 => 192 | 208 => 201 | 206 => 199 | 80 => 66 | n => n, fun | 13 => 0 | 3 => 2 | 4 => 3 | n => n⟩
theorem Tryz.lays159 : Go.Proofs.Lays.n159 Tryz.prog Tryz.lays159_ren := {
  mixed := by kernel_rfl
  f118 := Tryz.func69.trans (congrArg some (by kernel_rfl))
  f159 := Tryz.func35.trans (congrArg some (by kernel_rfl))
  f165 := Tryz.func45.trans (congrArg some (by kernel_rfl))
  f166 := Tryz.func46.trans (congrArg some (by kernel_rfl))
  f167 := Tryz.func47.trans (congrArg some (by kernel_rfl))
  f168 := Tryz.func70.trans (congrArg some (by kernel_rfl))
  f169 := Tryz.func48.trans (congrArg some (by kernel_rfl))
  f197 := Tryz.func68.trans (congrArg some (by kernel_rfl))
  f204 := Tryz.func50.trans (congrArg some (by kernel_rfl))
  f230 := Tryz.func49.trans (congrArg some (by kernel_rfl))
  f240 := Tryz.func66.trans (congrArg some (by kernel_rfl))
  f241 := Tryz.func67.trans (congrArg some (by kernel_rfl))
  f242 := Tryz.func95.trans (congrArg some (by kernel_rfl))
  f260 := Tryz.func94.trans (congrArg some (by kernel_rfl))
  f262 := Tryz.func72.trans (congrArg some (by kernel_rfl))
  f270 := Tryz.func71.trans (congrArg some (by kernel_rfl))
  f274 := Tryz.func106.trans (congrArg some (by kernel_rfl))
  f275 := Tryz.func107.trans (congrArg some (by kernel_rfl))
  f276 := Tryz.func92.trans (congrArg some (by kernel_rfl))
  f277 := Tryz.func93.trans (congrArg some (by kernel_rfl))
  f278 := Tryz.func105.trans (congrArg some (by kernel_rfl))
  f313 := Tryz.func96.trans (congrArg some (by kernel_rfl))
  t0 := Tryz.underlying0
  a0 := Tryz.isAgg0
  z0 := Tryz.sizeOf0
  v0 := Tryz.zeroValue0
  t3 := Tryz.underlying3
  a3 := Tryz.isAgg3
  z3 := Tryz.sizeOf3
  v3 := Tryz.zeroValue3
  t4 := Tryz.underlying4
  a4 := Tryz.isAgg4
  z4 := Tryz.sizeOf4
  v4 := Tryz.zeroValue4
  t5 := Tryz.underlying5
  a5 := Tryz.isAgg5
  z5 := Tryz.sizeOf5
  v5 := Tryz.zeroValue5
  t9 := Tryz.underlying9
  a9 := Tryz.isAgg9
  z9 := Tryz.sizeOf9
  v9 := Tryz.zeroValue9
  t20 := Tryz.underlying20
  a20 := Tryz.isAgg20
  z20 := Tryz.sizeOf20
  v20 := Tryz.zeroValue20
  t21 := Tryz.underlying21
  a21 := Tryz.isAgg21
  z21 := Tryz.sizeOf21
  v21 := Tryz.zeroValue21
  t37 := Tryz.underlying23
  a37 := Tryz.isAgg23
  z37 := Tryz.sizeOf23
  v37 := Tryz.zeroValue23
  t46 := Tryz.underlying144
  a46 := Tryz.isAgg144
  z46 := Tryz.sizeOf144
  v46 := Tryz.zeroValue144
  t51 := Tryz.underlying153
  a51 := Tryz.isAgg153
  z51 := Tryz.sizeOf153
  v51 := Tryz.zeroValue153
  t70 := Tryz.underlying117
  a70 := Tryz.isAgg117
  z70 := Tryz.sizeOf117
  v70 := Tryz.zeroValue117
  t72 := Tryz.underlying119
  a72 := Tryz.isAgg119
  z72 := Tryz.sizeOf119
  v72 := Tryz.zeroValue119
  t75 := Tryz.underlying31
  a75 := Tryz.isAgg31
  z75 := Tryz.sizeOf31
  v75 := Tryz.zeroValue31
  t76 := Tryz.underlying121
  a76 := Tryz.isAgg121
  z76 := Tryz.sizeOf121
  v76 := Tryz.zeroValue121
  t105 := Tryz.underlying146
  a105 := Tryz.isAgg146
  z105 := Tryz.sizeOf146
  v105 := Tryz.zeroValue146
  t107 := Tryz.underlying125
  a107 := Tryz.isAgg125
  z107 := Tryz.sizeOf125
  v107 := Tryz.zeroValue125
  t119 := Tryz.underlying188
  a119 := Tryz.isAgg188
  z119 := Tryz.sizeOf188
  t127 := Tryz.underlying145
  a127 := Tryz.isAgg145
  z127 := Tryz.sizeOf145
  v127 := Tryz.zeroValue145
  t138 := Tryz.underlying190
  a138 := Tryz.isAgg190
  z138 := Tryz.sizeOf190
  v138 := Tryz.zeroValue190
  t139 := Tryz.underlying191
  a139 := Tryz.isAgg191
  z139 := Tryz.sizeOf191
  v139 := Tryz.zeroValue191
  t160 := Tryz.underlying192
  a160 := Tryz.isAgg192
  z160 := Tryz.sizeOf192
  v160 := Tryz.zeroValue192
  t162 := Tryz.underlying180
  a162 := Tryz.isAgg180
  z162 := Tryz.sizeOf180
  v162 := Tryz.zeroValue180
  t164 := Tryz.underlying174
  a164 := Tryz.isAgg174
  z164 := Tryz.sizeOf174
  v164 := Tryz.zeroValue174
  t203 := Tryz.underlying178
  a203 := Tryz.isAgg178
  z203 := Tryz.sizeOf178
  v203 := Tryz.zeroValue178
  t206 := Tryz.underlying199
  a206 := Tryz.isAgg199
  z206 := Tryz.sizeOf199
  v206 := Tryz.zeroValue199
  t208 := Tryz.underlying201
  a208 := Tryz.isAgg201
  z208 := Tryz.sizeOf201
  v208 := Tryz.zeroValue201
  g3 := by kernel_rfl
  g4 := by kernel_rfl
  g13 := by kernel_rfl }
theorem Tryz.Builder_Extra_159 : Builder.Extra Tryz.prog Tryz.lays159_ren := {
  sizeBuilder := by kernel_rfl
  liesBuilder := by kernel_rfl
  t5 := Tryz.underlying5
  a5 := Tryz.isAgg5
  z5 := Tryz.sizeOf5
  v5 := Tryz.zeroValue5
  infoByte := by kernel_rfl
  cellsByte := by kernel_rfl
  sizeByte := by kernel_rfl
  neB5 := by decide }
open Go.RowKit in
/-- strings.ToLower: "ToLower returns s with all Unicode letters mapped to their lower case.": ON ASCII TEXT OF AT MOST 2^47 BYTES. Below the heap's end the world is as it was: where a letter turns, the call makes a builder and its buffer. (LAID: no walk: one application.) -/
theorem Tryz.strings_ToLower_ascii (s : ByteArray) (w : World) (hs : s.size ≤ 140737488355328) (hascii : ∀ (j : Nat) (b : UInt8), s.data.toList[j]? = some b → b.toNat < 128) :
    Calls Tryz.prog 35 #[.string s] w fun e w' => e = .returned (.string ⟨(Lib.toLowerA s.data.toList).toArray⟩) ∧ Below w.heap.size w w' := Any.strings_ToLower_ascii Tryz.lays159 Tryz.Builder_Extra_159 s w hs hascii
def Tryz.lays190_ren : Go.Shelf.Ren := ⟨fun | 190 => 44 | 125 => 65 | 258 => 64 | 128 => 90 | 129 => 91 | 302 => 81 | 303 => 82 | 304 => 83 | 305 => 84 | 306 => 85 | 307 => 86 | 308 => 87 | 309 => 88 | 310 => 89 | 333 => 99 | 329 => 100 | 330 => 101 | 334 => 102 | 335 => 103 | 336 => 104 | 344 => 108 | n => n, fun | 31 => 92 | 9 => 9 | 3 => 3 | 46 => 144 | 0 => 0 | 51 => 153 | 53 => 139 | 4 => 4 | 183 => 166 | 182 => 165 | 131 => 170 | 5 => 5 | 218 => 181 | 222 => 185 | 228 => 195 | 229 => 196 | n => n, fun | n => n⟩
theorem Tryz.lays190 : Go.Proofs.Lays.n190 Tryz.prog Tryz.lays190_ren := {
  mixed := by kernel_rfl
  f125 := Tryz.func65.trans (congrArg some (by kernel_rfl))
  f128 := Tryz.func90.trans (congrArg some (by kernel_rfl))
  f129 := Tryz.func91.trans (congrArg some (by kernel_rfl))
  f190 := Tryz.func44.trans (congrArg some (by kernel_rfl))
  f258 := Tryz.func64.trans (congrArg some (by kernel_rfl))
  f302 := Tryz.func81.trans (congrArg some (by kernel_rfl))
  f303 := Tryz.func82.trans (congrArg some (by kernel_rfl))
  f304 := Tryz.func83.trans (congrArg some (by kernel_rfl))
  f305 := Tryz.func84.trans (congrArg some (by kernel_rfl))
  f306 := Tryz.func85.trans (congrArg some (by kernel_rfl))
  f307 := Tryz.func86.trans (congrArg some (by kernel_rfl))
  f308 := Tryz.func87.trans (congrArg some (by kernel_rfl))
  f309 := Tryz.func88.trans (congrArg some (by kernel_rfl))
  f310 := Tryz.func89.trans (congrArg some (by kernel_rfl))
  f329 := Tryz.func100.trans (congrArg some (by kernel_rfl))
  f330 := Tryz.func101.trans (congrArg some (by kernel_rfl))
  f333 := Tryz.func99.trans (congrArg some (by kernel_rfl))
  f334 := Tryz.func102.trans (congrArg some (by kernel_rfl))
  f335 := Tryz.func103.trans (congrArg some (by kernel_rfl))
  f336 := Tryz.func104.trans (congrArg some (by kernel_rfl))
  f344 := Tryz.func108.trans (congrArg some (by kernel_rfl))
  t0 := Tryz.underlying0
  a0 := Tryz.isAgg0
  z0 := Tryz.sizeOf0
  v0 := Tryz.zeroValue0
  t3 := Tryz.underlying3
  a3 := Tryz.isAgg3
  z3 := Tryz.sizeOf3
  v3 := Tryz.zeroValue3
  t4 := Tryz.underlying4
  a4 := Tryz.isAgg4
  z4 := Tryz.sizeOf4
  v4 := Tryz.zeroValue4
  t5 := Tryz.underlying5
  a5 := Tryz.isAgg5
  z5 := Tryz.sizeOf5
  v5 := Tryz.zeroValue5
  t9 := Tryz.underlying9
  a9 := Tryz.isAgg9
  z9 := Tryz.sizeOf9
  v9 := Tryz.zeroValue9
  t31 := Tryz.underlying92
  a31 := Tryz.isAgg92
  z31 := Tryz.sizeOf92
  v31 := Tryz.zeroValue92
  t46 := Tryz.underlying144
  a46 := Tryz.isAgg144
  z46 := Tryz.sizeOf144
  v46 := Tryz.zeroValue144
  t51 := Tryz.underlying153
  a51 := Tryz.isAgg153
  z51 := Tryz.sizeOf153
  v51 := Tryz.zeroValue153
  t53 := Tryz.underlying139
  a53 := Tryz.isAgg139
  z53 := Tryz.sizeOf139
  v53 := Tryz.zeroValue139
  t131 := Tryz.underlying170
  a131 := Tryz.isAgg170
  z131 := Tryz.sizeOf170
  v131 := Tryz.zeroValue170
  t182 := Tryz.underlying165
  a182 := Tryz.isAgg165
  z182 := Tryz.sizeOf165
  v182 := Tryz.zeroValue165
  t183 := Tryz.underlying166
  a183 := Tryz.isAgg166
  z183 := Tryz.sizeOf166
  v183 := Tryz.zeroValue166
  t218 := Tryz.underlying181
  a218 := Tryz.isAgg181
  z218 := Tryz.sizeOf181
  v218 := Tryz.zeroValue181
  t222 := Tryz.underlying185
  a222 := Tryz.isAgg185
  z222 := Tryz.sizeOf185
  v222 := Tryz.zeroValue185
  t228 := Tryz.underlying195
  a228 := Tryz.isAgg195
  z228 := Tryz.sizeOf195
  v228 := Tryz.zeroValue195
  t229 := Tryz.underlying196
  a229 := Tryz.isAgg196
  z229 := Tryz.sizeOf196
  v229 := Tryz.zeroValue196 }
open Go.Sort Go.RowKit in
theorem Tryz.slices_Sort_string (blk off cap : Nat) (ss : List (List UInt8)) (w : World) (hH : Holds encStr w blk off ss.toArray) (hblk : blk < w.heap.size) (hsz : ss.length < 4611686018427387904) :
    Calls Tryz.prog 44 #[.slice (some ⟨blk, off, none⟩) ss.length cap] w fun e w' =>
      e = .returned (.tuple #[]) ∧ ∃ n os, w' = grow (putRow encStr (Sort.ahead w n) blk off (ss.mergeSort fun x y => decide (x ≤ y)).toArray) os := Any.slices_Sort_string Tryz.lays190 blk off cap ss w hH hblk hsz
open Go.RowKit Go.Sort in
/-- .. and plain. (LAID: no walk: one application.) -/
theorem Tryz.slices_Sort_string_none (p : Option Addr) (cap : Nat) (w : World) :
    Calls Tryz.prog 44 #[.slice p 0 cap] w fun e w' => e = .returned (.tuple #[]) ∧ w' = w := Any.slices_Sort_string_none Tryz.lays190 p cap w
end Go.Proofs.YtkpcepdalegmmaaGreatDoor

/-! Properties: the names of a map, collected and sorted. -/
namespace Go.Proofs.YtkpcepdalegmmaaGreatDoor
open Go.RowKit

theorem elStr : Elem 92 9 1 16 := ⟨Tryz.underlying92, ⟨.string ⟨#[]⟩, by kernel_rfl, rfl⟩, by decide⟩
theorem enc_key (f : Kv) : encStr (keyL f) = .string f.key := by simp [encStr, keyL]
theorem enc_keys (kvs : List Kv) : (kvs.map keyL).map encStr = kvs.map fun f => Value.string f.key := by
  rw [List.map_map]
  exact List.map_congr_left fun f _ => enc_key f
/-- What sortedKeys hands back. -/
def SkOut (w : World) (kvs : List Kv) (e : Ending) (w' : World) : Prop :=
  ∃ A c, e = .returned (.slice A kvs.length c) ∧ w'.ownsRow w.heap.size 9 1 (.slice A kvs.length c) kvs.length (kvs.map fun f => .string f.key) ∧ Below w.heap.size w w'

set_option maxRecDepth 100000 in
set_option maxHeartbeats 4000000 in
theorem sortedKeys_ok (B n : Nat) (kvs : List Kv) (w : World) (hm : MapIs w B n (mdX kvs)) (hp : kvs.Pairwise (fun a b => keyL a ≠ keyL b)) (hs : (kvs.map keyL).Pairwise (fun a b => a ≤ b)) (h10 : n ≤ 10) :
    Calls Tryz.prog 34 #[.map (some B)] w (SkOut w kvs) := by
  have hbl := hm.lt
  have hcnt := MapIs.size_le hm
  have HP := Lib.hid (⟨hp, hs⟩ : _ ∧ _)
  clear hp hs
  go_enter Tryz.func34, Tryz.ntmps34
  go_wp2_with (first
    | (at_range
       refine wpList_range_own _ rfl _ 54 rfl 9 9 strKeyed Tryz.underlying54 _ B n (mdX kvs) rfl hm ?_
       intro w4 hrg4 hg4 hs4))
  go_frame
  have hb4 : Below w.heap.size w w4 := (Below.refl _ _).grown hg4 (Nat.le_refl _) (fun j hj => by cases hj)
  have HR0 := Lib.hid hrg4
  have HB0 := Lib.hid hb4
  clear hrg4 hg4 hs4 hm hb4
  go_loopw [3] (fun v wr => ∃ (left : Lit → Bool) (cnt : Nat) (ss : List (List UInt8)) (A : Option Addr) (c : Nat), v = .slice A ss.length c ∧ ss.length + cnt ≤ 10 ∧ Hid (RangesS wr B w.heap.size n (mdX kvs) left cnt) ∧ Hid (wr.ownsRow w.heap.size 9 1 (.slice A ss.length c) ss.length (ss.map encStr)) ∧ Hid (Collected (mdX kvs) left ss) ∧ Hid (Below w.heap.size w wr)) (fun _ wr => wr.rangeLeft B w.heap.size)
  case atStart => exact ⟨_, _, [], none, 0, rfl, by simp; omega, HR0, Lib.hid (World.ownsRow_nil _ _ _ _), Lib.hid (Collected.start _), HB0⟩
  case round =>
    obtain ⟨left, cnt, ss, A, c, rfl, hlen, hrg0, ho, hC, hb⟩ := hrel
    have hrg := hrg0.out
    unfold RangesS at hrg
    go_wp2_with (first
      | (at_next
         refine wpList_next_ranges _ rfl _ rfl 9 strKeyed (plainElem Tryz.prog 9) Go.Proofs.encStr Value.string (fun key kl hk => by obtain ⟨x, hx, _⟩ := Maps.keyOf_str Tryz.u_string hk; exact ⟨x, hx⟩) (fun v y hv => by obtain ⟨c, rfl, _⟩ := plainElem_string_inv Tryz.u_string hv; exact ⟨c, rfl⟩) B w.heap.size n _ _ _ rfl hrg ?_ ?_))
    · intro hc0 hl0
      have hperm := keys_perm HP.out.1 hC.out hl0
      have hsort := keys_sorted hperm HP.out.2
      have hl : ss.length = kvs.length := by rw [hperm.length_eq, List.length_map]
      have hbl2 : w.heap.size ≤ wr.heap.size := hb.out.size
      have HF := Lib.hid (⟨hsort, hl⟩ : _ ∧ _)
      rcases ho.out.2 with ⟨hnil, h0⟩ | ⟨g, cap, cur, hv, hbase, hbk, h1, h2, h3, h4⟩
      · injection hnil with hA _ hcap
        have hss : ss = [] := List.eq_nil_of_length_eq_zero h0
        subst hA hcap hss
        have hk0 : kvs = [] := List.eq_nil_of_length_eq_zero hl.symm
        subst hk0
        have hG : SkOut w [] (.returned (.slice none 0 0)) wr := ⟨none, 0, rfl, World.ownsRow_nil _ _ _ _, hb.out⟩
        have HG := Lib.hid hG
        clear hperm hsort hl HF h0 hG hc0 hl0 hrg hC ho hrg0 hcnt HP
        simp only [List.length_nil]
        go_wp2_with fail
        refine (Tryz.slices_Sort_string_none none 0 _).mono ?_
        rintro e w' ⟨rfl, rfl⟩
        go_wp2_with fail
        go_ret
        exact HG.out
      · injection hv with hA _ hcap
        subst hA hcap
        have hH : Sort.Holds encStr wr g 0 ss.toArray := holds_of_block hbk (by simpa using h4)
        have hgl : g < wr.heap.size := (Array.getElem?_eq_some_iff.1 hbk).1
        have hc := Tryz.slices_Sort_string g 0 c ss wr hH hgl (by omega)
        have HC := Lib.hid hc
        have HB := Lib.hid (⟨hbase, hbk, h1, h2, h3⟩ : _ ∧ _ ∧ _ ∧ _ ∧ _)
        clear hl hperm hsort hc0 hl0 hrg hC hrg0 hcnt HP hc hH h1 h2 h3 h4 hbk hbase
        go_wp2_with fail
        refine HC.out.mono ?_
        rintro e w' ⟨rfl, nn, os, rfl⟩
        have hown := ownsRow_sorted (os := os) (n := nn) (ss := ss) (ts := ss.mergeSort fun x y => decide (x ≤ y)) (by simp) HB.out.1 HB.out.2.1 HB.out.2.2.1 HB.out.2.2.2.1 HB.out.2.2.2.2
        have hbe : Below w.heap.size w (Sort.grow (Sort.putRow encStr (Sort.ahead wr nn) g 0 (ss.mergeSort fun x y => decide (x ≤ y)).toArray) os) := hb.out.grown (grownBy_sorted _) hb.out.size (fun j hj => by cases hj; exact HB.out.1)
        generalize Sort.grow (Sort.putRow encStr (Sort.ahead wr nn) g 0 (ss.mergeSort fun x y => decide (x ≤ y)).toArray) os = W at hown hbe ⊢
        rw [HF.out.1, enc_keys] at hown
        have HZ := Lib.hid (⟨hown, hbe⟩ : _ ∧ _)
        clear hown hbe HC ho
        go_wp2_with fail
        go_ret
        refine ⟨some ⟨g, 0, none⟩, c, ?_, ?_, HZ.out.2⟩
        · rw [← HF.out.2]
          rfl
        · have h := HZ.out.1
          rw [HF.out.2] at h
          exact h
    · intro x cv kl yd yp w5 cnt2 hkey hlk hv hat hrg2 hlt hg2 hs2 hen
      obtain ⟨x', ex, rfl, hxl⟩ := Maps.keyOf_str Tryz.u_string hkey
      obtain rfl : x = x' := encStr_inj ex
      have hC2 := hC.out.step hlk hat
      have hne : some w.heap.size ≠ A.map (·.block) := by
        have := row_ne_iter ho.out hrg
        cases A with
        | none => simp
        | some ad => exact this
      have own5 := ho.out.kept hg2 (Or.inr (row_ne_iter ho.out hrg).symm)
      have hb5 : Below w.heap.size w w5 := hb.out.grown hg2 hb.out.size (fun j hj => by cases hj; exact Nat.le_refl _)
      have hsrc := srcNew elStr (w := w5) #[.string ⟨x.toArray⟩] rfl (by simp [Value.oneCell'])
      have hsz5 : w.heap.size ≤ w5.heap.size := hb5.size
      have hcount : (ss.length + 1) + cnt2 ≤ 10 := by omega
      have hyl : ss.length ≤ 10 := by omega
      have HC := Lib.hid (⟨hC2, hrg2, hb5, hlt, hne⟩ : _ ∧ _ ∧ _ ∧ _ ∧ _)
      have HL := Lib.hid (World.ranges.left_eq hrg)
      clear hC2 hrg2 hb5 hlt hne hkey hlk hv hat hg2 hs2 hxl hrg ho hb hC hrg0
      unfold encStr at own5
      go_wp2_with (first
        | (at_builtin
           refine wpl_appT rfl elStr (.tmp 11) (.tmp 13) 92 rfl w.heap.size A ss.length c _ rfl (World.ownsRow.alloc own5 _) _ 1 [.string ⟨x.toArray⟩] rfl hsrc (ss.length + 1) rfl (by omega) (by decide) (by simp; omega) ?_
           intro A6 c6 w6 ho6 hg6 ha6))
      obtain ⟨hC2, hrg2, hb5, hlt, hne⟩ := HC.out
      have hAb : ∀ j, A.map (·.block) = some j → w.heap.size ≤ j := fun j hj => own_base' own5 hj
      have rg6 : RangesS w6 B w.heap.size n (mdX kvs) (fun z => left z && !z.sameKey (.string x)) cnt2 := ((hrg2.alloc _).kept hg6 (fun e => by have := hAb B e.symm; omega) hne)
      have hb6 : Below w.heap.size w w6 := (hb5.alloc hsz5 _).grown hg6 (by simp; omega) hAb
      have hF : Hid (RangesS w6 B w.heap.size n (mdX kvs) (fun z => left z && !z.sameKey (.string x)) cnt2) ∧ Hid (w6.ownsRow w.heap.size 9 1 (.slice A6 (ss ++ [x]).length c6) (ss ++ [x]).length ((ss ++ [x]).map encStr)) ∧ Hid (Collected (mdX kvs) (fun z => left z && !z.sameKey (.string x)) (ss ++ [x])) ∧ Hid (Below w.heap.size w w6) := by
        refine ⟨Lib.hid rg6, Lib.hid ?_, Lib.hid hC2, Lib.hid hb6⟩
        rw [List.length_append, List.map_append]
        exact ho6
      have hm6 := World.ranges.left_eq rg6
      clear hC2 hrg2 hb5 hne hAb rg6 hb6 ho6 hg6 ha6 own5 hsrc HC
      go_roundw
      case rel => exact ⟨_, cnt2, ss ++ [x], A6, c6, by simp, by simp; omega, hF⟩
      case measure => rw [hm6, HL.out]; exact hlt
end Go.Proofs.YtkpcepdalegmmaaGreatDoor
