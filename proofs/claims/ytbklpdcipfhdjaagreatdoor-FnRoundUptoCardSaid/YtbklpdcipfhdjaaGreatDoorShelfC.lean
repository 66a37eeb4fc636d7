/- maps.Keys and slices.Sorted at this program: the shelf's contracts laid there, and as they are used. -/
import Derived.Shelf.SlIter.Nil
import Derived.Shelf.SortM.Plain
import Derived.Shelf.SortM.SortNone
import Derived.Ground.GgzProg
import Derived.Ground.SlgmProg
import Derived.Test.YtbklpdcipfhdjaaGreatDoorRd
namespace Go.Proofs
open Go.Shelf
def Tryz.keys68_ren : Go.Shelf.Ren := ⟨fun | 7 => 68 | 10 => 101 | n => n, fun | 23 => 52 | 26 => 9 | 3 => 9 | 28 => 90 | 0 => 0 | 27 => 89 | 33 => 27 | 4 => 4 | n => n, fun | n => n⟩
theorem Tryz.keys68 : Go.Proofs.SlLaysZ.n7 Tryz.prog Tryz.keys68_ren := {
  mixed := by kernel_rfl
  f7 := ⟨Tryz.f68.name, by decide, Tryz.func68.trans (congrArg some (by kernel_rfl))⟩
  f10 := ⟨Tryz.f101.name, by decide, Tryz.func101.trans (congrArg some (by kernel_rfl))⟩
  t0 := Tryz.underlying0
  a0 := Tryz.isAgg0
  z0 := Tryz.sizeOf0
  v0 := Tryz.zeroValue0
  t4 := Tryz.underlying4
  a4 := Tryz.isAgg4
  z4 := Tryz.sizeOf4
  v4 := Tryz.zeroValue4
  t23 := Tryz.underlying52
  a23 := Tryz.isAgg52
  z23 := Tryz.sizeOf52
  v23 := Tryz.zeroValue52
  t26 := Tryz.underlying9
  a26 := Tryz.isAgg9
  z26 := Tryz.sizeOf9
  v26 := Tryz.zeroValue9
  t27 := Tryz.underlying89
  a27 := Tryz.isAgg89
  z27 := Tryz.sizeOf89
  v27 := Tryz.zeroValue89
  t28 := Tryz.underlying90
  a28 := Tryz.isAgg90
  z28 := Tryz.sizeOf90
  v28 := Tryz.zeroValue90
  t33 := Tryz.underlying27
  a33 := Tryz.isAgg27
  z33 := Tryz.sizeOf27
  v33 := Tryz.zeroValue27 }
def Tryz.sorted67_ren : Go.Shelf.Ren := ⟨fun | 6 => 67 | 8 => 99 | 9 => 100 | 11 => 120 | 13 => 61 | 12 => 121 | 23 => 94 | 24 => 95 | 14 => 134 | 15 => 135 | 16 => 136 | 17 => 137 | 18 => 138 | 19 => 139 | 20 => 140 | 21 => 141 | 22 => 142 | 25 => 151 | 26 => 115 | 27 => 116 | 28 => 152 | 29 => 153 | 30 => 154 | 31 => 157 | n => n, fun | 26 => 9 | 28 => 90 | 24 => 34 | 0 => 0 | 3 => 3 | 37 => 84 | 48 => 101 | 50 => 116 | 4 => 4 | 40 => 108 | 39 => 107 | 45 => 112 | 5 => 5 | 9 => 9 | 51 => 139 | 55 => 143 | 57 => 159 | 58 => 160 | 33 => 27 | n => n, fun | n => n⟩
theorem Tryz.sorted67 : Go.Proofs.SlLaysZ.n6 Tryz.prog Tryz.sorted67_ren := {
  mixed := by kernel_rfl
  f6 := ⟨Tryz.f67.name, by decide, Tryz.func67.trans (congrArg some (by kernel_rfl))⟩
  f8 := ⟨Tryz.f99.name, by decide, Tryz.func99.trans (congrArg some (by kernel_rfl))⟩
  f11 := ⟨Tryz.f120.name, by decide, Tryz.func120.trans (congrArg some (by kernel_rfl))⟩
  t0 := Tryz.underlying0
  a0 := Tryz.isAgg0
  z0 := Tryz.sizeOf0
  v0 := Tryz.zeroValue0
  t24 := Tryz.underlying34
  a24 := Tryz.isAgg34
  z24 := Tryz.sizeOf34
  v24 := Tryz.zeroValue34
  t26 := Tryz.underlying9
  a26 := Tryz.isAgg9
  z26 := Tryz.sizeOf9
  v26 := Tryz.zeroValue9
  t28 := Tryz.underlying90
  a28 := Tryz.isAgg90
  z28 := Tryz.sizeOf90
  v28 := Tryz.zeroValue90
  i26 := by kernel_rfl }
def Tryz.sort100_ren : Go.Shelf.Ren := ⟨fun | 6 => 100 | 8 => 61 | 9 => 121 | 19 => 94 | 20 => 95 | 21 => 134 | 22 => 135 | 23 => 136 | 24 => 137 | 25 => 138 | 26 => 139 | 27 => 140 | 28 => 141 | 29 => 142 | 36 => 151 | 31 => 115 | 32 => 116 | 37 => 152 | 38 => 153 | 39 => 154 | 41 => 157 | n => n, fun | 27 => 34 | 29 => 9 | 3 => 3 | 32 => 84 | 26 => 34 | 0 => 0 | 44 => 101 | 46 => 116 | 4 => 4 | 36 => 108 | 35 => 107 | 41 => 112 | 5 => 5 | 9 => 9 | 53 => 139 | 57 => 143 | 63 => 159 | 64 => 160 | n => n, fun | n => n⟩
theorem Tryz.sort100 : Go.Proofs.SlLaysM.n6 Tryz.prog Tryz.sort100_ren := {
  mixed := by kernel_rfl
  f6 := ⟨Tryz.f100.name, by decide, Tryz.func100.trans (congrArg some (by kernel_rfl))⟩
  f8 := Tryz.func61.trans (congrArg some (by kernel_rfl))
  f9 := ⟨Tryz.f121.name, by decide, Tryz.func121.trans (congrArg some (by kernel_rfl))⟩
  f19 := Tryz.func94.trans (congrArg some (by kernel_rfl))
  f20 := Tryz.func95.trans (congrArg some (by kernel_rfl))
  f21 := ⟨Tryz.f134.name, by decide, Tryz.func134.trans (congrArg some (by kernel_rfl))⟩
  f22 := ⟨Tryz.f135.name, by decide, Tryz.func135.trans (congrArg some (by kernel_rfl))⟩
  f23 := ⟨Tryz.f136.name, by decide, Tryz.func136.trans (congrArg some (by kernel_rfl))⟩
  f24 := ⟨Tryz.f137.name, by decide, Tryz.func137.trans (congrArg some (by kernel_rfl))⟩
  f25 := ⟨Tryz.f138.name, by decide, Tryz.func138.trans (congrArg some (by kernel_rfl))⟩
  f26 := ⟨Tryz.f139.name, by decide, Tryz.func139.trans (congrArg some (by kernel_rfl))⟩
  f27 := ⟨Tryz.f140.name, by decide, Tryz.func140.trans (congrArg some (by kernel_rfl))⟩
  f28 := ⟨Tryz.f141.name, by decide, Tryz.func141.trans (congrArg some (by kernel_rfl))⟩
  f29 := ⟨Tryz.f142.name, by decide, Tryz.func142.trans (congrArg some (by kernel_rfl))⟩
  f31 := Tryz.func115.trans (congrArg some (by kernel_rfl))
  f32 := Tryz.func116.trans (congrArg some (by kernel_rfl))
  f36 := ⟨Tryz.f151.name, by decide, Tryz.func151.trans (congrArg some (by kernel_rfl))⟩
  f37 := ⟨Tryz.f152.name, by decide, Tryz.func152.trans (congrArg some (by kernel_rfl))⟩
  f38 := ⟨Tryz.f153.name, by decide, Tryz.func153.trans (congrArg some (by kernel_rfl))⟩
  f39 := ⟨Tryz.f154.name, by decide, Tryz.func154.trans (congrArg some (by kernel_rfl))⟩
  f41 := ⟨Tryz.f157.name, by decide, Tryz.func157.trans (congrArg some (by kernel_rfl))⟩
  t0 := Tryz.underlying0
  a0 := Tryz.isAgg0
  z0 := Tryz.sizeOf0
  v0 := Tryz.zeroValue0
  t3 := Tryz.underlying3
  a3 := Tryz.isAgg3
  z3 := Tryz.sizeOf3
  v3 := Tryz.zeroValue3
  t4 := Tryz.underlying4
  a4 := Tryz.isAgg4
  z4 := Tryz.sizeOf4
  v4 := Tryz.zeroValue4
  t5 := Tryz.underlying5
  a5 := Tryz.isAgg5
  z5 := Tryz.sizeOf5
  v5 := Tryz.zeroValue5
  t9 := Tryz.underlying9
  a9 := Tryz.isAgg9
  z9 := Tryz.sizeOf9
  v9 := Tryz.zeroValue9
  t26 := Tryz.underlying34
  a26 := Tryz.isAgg34
  z26 := Tryz.sizeOf34
  v26 := Tryz.zeroValue34
  t27 := Tryz.underlying34
  a27 := Tryz.isAgg34
  z27 := Tryz.sizeOf34
  v27 := Tryz.zeroValue34
  t29 := Tryz.underlying9
  a29 := Tryz.isAgg9
  z29 := Tryz.sizeOf9
  v29 := Tryz.zeroValue9
  t32 := Tryz.underlying84
  a32 := Tryz.isAgg84
  z32 := Tryz.sizeOf84
  v32 := Tryz.zeroValue84
  t35 := Tryz.underlying107
  a35 := Tryz.isAgg107
  z35 := Tryz.sizeOf107
  v35 := Tryz.zeroValue107
  t36 := Tryz.underlying108
  a36 := Tryz.isAgg108
  z36 := Tryz.sizeOf108
  v36 := Tryz.zeroValue108
  t41 := Tryz.underlying112
  a41 := Tryz.isAgg112
  z41 := Tryz.sizeOf112
  v41 := Tryz.zeroValue112
  t44 := Tryz.underlying101
  a44 := Tryz.isAgg101
  z44 := Tryz.sizeOf101
  v44 := Tryz.zeroValue101
  t46 := Tryz.underlying116
  a46 := Tryz.isAgg116
  z46 := Tryz.sizeOf116
  v46 := Tryz.zeroValue116
  t53 := Tryz.underlying139
  a53 := Tryz.isAgg139
  z53 := Tryz.sizeOf139
  v53 := Tryz.zeroValue139
  t57 := Tryz.underlying143
  a57 := Tryz.isAgg143
  z57 := Tryz.sizeOf143
  v57 := Tryz.zeroValue143
  t63 := Tryz.underlying159
  a63 := Tryz.isAgg159
  z63 := Tryz.sizeOf159
  v63 := Tryz.zeroValue159
  t64 := Tryz.underlying160
  a64 := Tryz.isAgg160
  z64 := Tryz.sizeOf160
  v64 := Tryz.zeroValue160 }
end Go.Proofs
namespace Go.Proofs
open Go.RowKit Go.Maps Go.Sort Go.Shelf
theorem Tryz.sorts67 (m : Nat) : AnyZ.SortsIn Tryz.prog Tryz.sorted67_ren Fence.wide m :=
  ⟨fun blk off cap ss W hH hblk hsz => callsIn_wide.2 (AnyM.slices_Sort_string Tryz.sort100 blk off cap ss W hH hblk hsz),
   fun p cap W => callsIn_wide.2 (AnyM.slices_Sort_string_none Tryz.sort100 p cap W)⟩

theorem Tryz.maps_Keys_68 (mb : Option Nat) (W : World) : CallsIn Fence.wide 5 Tryz.prog 68 #[.map mb] W fun e w' => e = .returned (.func (.func 101) #[] #[.pointer (some ⟨W.heap.size, 0, none⟩)]) ∧ w' = W.alloc (.cells #[.map mb] 52) :=
  AnyZ.keys_in Tryz.keys68 Fence.wide 5 trivial rfl mb W

set_option maxHeartbeats 1000000 in
theorem Tryz.slices_Sorted_keys_67_68 {H : Type} (b nn : Nat) (D0 : DataW H) (R : Value → Option (DataW H × List MemPlace)) (w : World) (hown : w.ownsMap Tryz.prog 9 R b nn D0) (hmax : Maps.size D0 ≤ maxLen) (hbytes : Maps.size D0 * 16 ≤ 140737488355328) :
    CallsIn Fence.wide 5 Tryz.prog 67 #[.func (.func 101) #[] #[.pointer (some ⟨w.heap.size, 0, none⟩)]] (w.alloc (.cells #[.map (some b)] 52)) fun e w' => ∃ (v : Value) (ss : List (List UInt8)), e = .returned v ∧ ss.Perm (strKeys D0) ∧
      w'.ownsRow (w.alloc (.cells #[.map (some b)] 52)).heap.size 9 1 v ss.length ((ss.mergeSort (fun x y => decide (x ≤ y))).map encStr) ∧ (v = .slice none 0 0 ↔ ss = []) ∧ Below (w.alloc (.cells #[.map (some b)] 52)).heap.size (w.alloc (.cells #[.map (some b)] 52)) w' := by
  have hbl := hown.lt
  have hseq : SeqGives Fence.wide 2 Tryz.prog 101 #[.pointer (some ⟨w.heap.size, 0, none⟩)] encStr (fun ss => ss.Perm (strKeys D0)) (Maps.size D0) (w.alloc (.cells #[.map (some b)] 52)) :=
    AnyZ.keys_gives (ρ := Tryz.keys68_ren) { Tryz.keys68 with } Fence.wide _ trivial rfl (by omega) w.heap.size b nn D0 _ (by simp) (by simp) (by
      obtain ⟨es, clock, hb, Ft, hs, hD⟩ := hown
      exact ⟨es, clock, (Below.heap_alloc _ _ b hbl).trans hb, Ft, hs, hD⟩)
  exact AnyZ.sorted_in Tryz.sorted67 Fence.wide 5 trivial trivial trivial trivial rfl (by omega) (Tryz.sorts67 _) (enters_of Tryz.func100 (by kernel_rfl) rfl) 101 #[.pointer (some ⟨w.heap.size, 0, none⟩)] trivial (enters_of Tryz.func101 (by kernel_rfl) rfl) _ _ hmax hbytes _ hseq
end Go.Proofs
namespace Go.Proofs.YtbklpdcipfhdjaaGreatDoor.ShelfC
open Go.RowKit Go.Maps Go.Sort Go.Shelf Go.Proofs.YtbklpdcipfhdjaaGreatDoor.G Go.Proofs.YtbklpdcipfhdjaaGreatDoor.P Go.Proofs.YtbklpdcipfhdjaaGreatDoor.Q Go.Proofs.YtbklpdcipfhdjaaGreatDoor.T Go.Proofs.YtbklpdcipfhdjaaGreatDoor.W Go.Proofs.YtbklpdcipfhdjaaGreatDoor.Pe Go.Proofs.YtbklpdcipfhdjaaGreatDoor.Cm Go.Proofs.YtbklpdcipfhdjaaGreatDoor.Pm

theorem keys_any (B : Nat) (W : World) : Calls Tryz.prog 68 #[.map (some B)] W fun e w' => e = .returned (.func (.func 101) #[] #[.pointer (some ⟨W.heap.size, 0, none⟩)]) ∧ w' = W.alloc (.cells #[.map (some B)] 52) := callsIn_wide.1 (Tryz.maps_Keys_68 (some B) W)
/-- The keys of a map that holds E. -/
theorem keys_perm {w : World} {B n : Nat} {D : DataW Unit} {E : List Pr} (hown : w.ownsMap Tryz.prog 9 (plainElem Tryz.prog 9) B n D) (hD : DE D E) : (E.map fun p => bl p.1).Perm (strKeys D) := by
  obtain ⟨es, hd, hpw, _⟩ := hown.entries law
  obtain ⟨es', hd', hko⟩ := hown.keysOf
  obtain rfl : es = es' := by rw [hd] at hd'; simpa using hd'
  subst hd
  refine perm_strKeys hpw (fun p hp => by obtain ⟨v, hv⟩ := hko p hp; obtain ⟨x, _, hx, _⟩ := Maps.keyOf_str Tryz.underlying9 hv; exact ⟨x, hx⟩) ?_ (fun x => ⟨fun hx => ?_, fun hx => ?_⟩)
  · refine List.pairwise_map.2 ((List.pairwise_map.1 hD.nodup).imp fun hne e => hne (eq_of_bl e))
  · obtain ⟨p, hp, rfl⟩ := List.mem_map.1 hx
    exact (hD.at_ p hp).1
  · obtain ⟨p, hp, e⟩ := hD.has _ hx
    simp only [Lit.string.injEq] at e
    exact List.mem_map.2 ⟨p, hp, e.symm⟩
/-- What slices.Sorted of them gives: a slice that holds them in some order. -/
theorem sorted_any {w : World} {B : Nat} {E : List Pr} (hO : OM w B E) (hE : E.length ≤ 1048576) :
    Calls Tryz.prog 67 #[.func (.func 101) #[] #[.pointer (some ⟨w.heap.size, 0, none⟩)]] (w.alloc (.cells #[.map (some B)] 52)) fun e w' => ∃ (ao : Option Addr) (cap : Nat) (K : List ByteArray), e = .returned (.slice ao K.length cap) ∧ K.Perm (E.map (·.1)) ∧
      (K = [] ∨ ∃ (g : Nat) (c : Array Value) (fz : Nat × Nat), ao = some ⟨g, 0, none⟩ ∧ w'.heap[g]? = some (.cells c 9 fz) ∧ w.heap.size < g ∧ ∀ (i : Nat) (x : ByteArray), K[i]? = some x → c[i]? = some (Value.string x)) ∧ Below w.heap.size w w' := by
  obtain ⟨D, hown, hD⟩ := hO
  have hkp := keys_perm hown hD
  have hsz : Maps.size D = E.length := by
    obtain ⟨es, hd, _⟩ := hown.entries law
    subst hd
    have := hkp.length_eq
    simp only [List.length_map, strKeys] at this
    exact this.symm
  refine (callsIn_wide.1 (Tryz.slices_Sorted_keys_67_68 B E.length D _ w hown (by rw [hsz]; unfold maxLen; omega) (by rw [hsz]; omega))).mono ?_
  rintro e w' ⟨v, ss, rfl, hS, hrow, hnil, hb⟩
  have hbw : Below w.heap.size w w' := ((Below.refl _ w).alloc (Nat.le_refl _) _).trans (hb.mono (by simp))
  have hp : ((ss.mergeSort (fun x y => decide (x ≤ y))).map tx).Perm (E.map (·.1)) := by
    have h1 := ((List.mergeSort_perm ss (fun x y => decide (x ≤ y))).trans (hS.trans hkp.symm)).map tx
    rw [List.map_map] at h1
    have e : (tx ∘ fun p : Pr => bl p.1) = fun p : Pr => p.1 := by funext p; exact tx_bl p.1
    rw [e] at h1
    exact h1
  have hlen : ((ss.mergeSort (fun x y => decide (x ≤ y))).map tx).length = ss.length := by simp
  rcases hrow.2 with ⟨hv, h0⟩ | ⟨g, cp, cur, hv, hg, hgg, _, _, hc, ht⟩
  · have hK : (ss.mergeSort (fun x y => decide (x ≤ y))).map tx = [] := List.eq_nil_of_length_eq_zero (by rw [hlen]; omega)
    exact ⟨none, 0, [], by rw [hv]; rfl, by rw [← hK]; exact hp, .inl rfl, hbw⟩
  · refine ⟨some ⟨g, 0, none⟩, cp, _, by rw [hlen, hv], hp, .inr ⟨g, cur, (0, 0), rfl, hgg, by simp at hg; omega, fun i x hx => ?_⟩, hbw⟩
    rw [List.getElem?_map] at hx
    obtain ⟨y, hy, rfl⟩ := Option.map_eq_some_iff.1 hx
    have h2 : (cur.toList.take (ss.length * 1))[i]? = some (encStr y) := by rw [ht, List.getElem?_map, hy]; rfl
    have hi : i < ss.length * 1 := by
      have := (List.getElem?_eq_some_iff.1 h2).1
      rw [List.length_take] at this
      omega
    rw [List.getElem?_take_of_lt hi] at h2
    rw [Array.getElem?_toList] at h2
    exact h2
end Go.Proofs.YtbklpdcipfhdjaaGreatDoor.ShelfC
