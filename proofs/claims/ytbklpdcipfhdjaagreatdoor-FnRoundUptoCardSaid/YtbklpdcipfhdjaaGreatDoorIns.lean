/- slices.Insert of one pair into a row of pairs that the caller has made: the three roads. -/
import Derived.Test.YtbklpdcipfhdjaaGreatDoorX
import Derived.Shelf.Spec.SlicesInsert
import Derived.Lib.AppendZerosOnto
import Derived.Lib.Overlaps
import Derived.Laws.CopyOwn
import Derived.Laws.NewBlocks
namespace Go.Proofs.YtbklpdcipfhdjaaGreatDoor.Ins
open Go.RowKit Go.Proofs.YtbklpdcipfhdjaaGreatDoor.P Go.Proofs.YtbklpdcipfhdjaaGreatDoor.W Go.Proofs.YtbklpdcipfhdjaaGreatDoor.X

theorem run_copy_rowk {P : Program} (w : World) (dT sT ty elem : TypeId) (sz g o dLen dCap : Nat) (a : Addr) (sLen sCap : Nat) (cur : List Value) (t : TypeId) (cs : List Value)
    (hu : P.underlying dT = some (.slice elem)) (hs : (P.info? elem).map (·.size) = some sz)
    (hg : w.heap[g]? = some (.cells cur.toArray t (0, 0))) (hn : cs.length = Nat.min sLen dLen * sz)
    (hsrc : ∀ j v, cs[j]? = some v → w.cell? (a.add j) = some v) (hfit : o + cs.length ≤ cur.length) (h1 : ∀ v ∈ cs, v.oneCell' = true) :
    (Builtin.copy_ #[dT, sT] ty #[.slice (some ⟨g, o, none⟩) dLen dCap, .slice (some a) sLen sCap]).run P w =
      .ok (goInt (Nat.min sLen dLen)) (w.setRow g (splice cur o cs).toArray) := by
  have hl := run_loadCells_list (P := P) w a cs hsrc
  have hst := run_storeCells_at P g o t cs 0 cur.toArray w hg (by simpa using hfit) h1
  cases hq : P.info? elem with
  | none => simp [hq] at hs
  | some i =>
    have hi : i.size = sz := by simpa [hq] using hs
    simp [Builtin.copy_, run_underlying hu, Builtin.lenOf, Builtin.firstCells, sizeOf, typeInfo, hq, hi, ← hn, hl, hst, splice]

theorem pc_one (l : List Pr) : ∀ v ∈ pc l, v.oneCell' = true := by
  intro v hv
  unfold pc at hv
  rw [List.mem_flatMap] at hv
  obtain ⟨p, _, hp⟩ := hv
  simp at hp
  rcases hp with rfl | rfl <;> rfl
theorem pc_append (l m : List Pr) : pc (l ++ m) = pc l ++ pc m := by simp [pc]
theorem pc_cons (p : Pr) (l : List Pr) : pc (p :: l) = [.string p.1, .string p.2] ++ pc l := rfl
theorem pc_take (l : List Pr) (i : Nat) : (pc l).take (i * 2) = pc (l.take i) := by
  induction l generalizing i with
  | nil => simp [pc]
  | cons p l ih =>
    cases i with
    | zero => simp [pc]
    | succ i =>
      rw [pc_cons, List.take_succ_cons, pc_cons, ← ih, show (i + 1) * 2 = i * 2 + 1 + 1 by omega]
      simp
theorem pc_drop (l : List Pr) (i : Nat) : (pc l).drop (i * 2) = pc (l.drop i) := by
  induction l generalizing i with
  | nil => simp [pc]
  | cons p l ih =>
    cases i with
    | zero => simp [pc]
    | succ i =>
      rw [pc_cons, List.drop_succ_cons, ← ih, show (i + 1) * 2 = i * 2 + 1 + 1 by omega]
      simp

/-- Two copies behind one another: the row's tail goes up by one, and the pair comes into the gap. -/
theorem two_splices (cur : List Value) (l : List Pr) (i n : Nat) (x : Pr) (hi : i ≤ n) (hln : l.length = n) (hfit : (n + 1) * 2 ≤ cur.length) (ht : cur.take (i * 2) = pc (l.take i)) :
    (splice (splice cur ((i + 1) * 2) (pc (l.drop i))) (i * 2) [.string x.1, .string x.2]).take ((n + 1) * 2) = pc (l.take i ++ x :: l.drop i)
    ∧ (splice (splice cur ((i + 1) * 2) (pc (l.drop i))) (i * 2) [.string x.1, .string x.2]).length = cur.length := by
  have hd : (pc (l.drop i)).length = (n - i) * 2 := by rw [pc_len, List.length_drop, hln]
  have hf1 : (i + 1) * 2 + (pc (l.drop i)).length ≤ cur.length := by rw [hd]; omega
  have hl1 := length_splice cur ((i + 1) * 2) (pc (l.drop i)) hf1
  have hl2 := length_splice (splice cur ((i + 1) * 2) (pc (l.drop i))) (i * 2) [Value.string x.1, .string x.2] (by rw [hl1]; simp; omega)
  refine ⟨?_, hl2.trans hl1⟩
  rw [pc_append, pc_cons, ← ht]
  have e1 : (splice cur ((i + 1) * 2) (pc (l.drop i))).take (i * 2) = cur.take (i * 2) := by
    unfold splice
    rw [List.take_append_of_le_length (by rw [List.length_take]; omega), List.take_take, Nat.min_eq_left (by omega)]
  have e2 : (splice cur ((i + 1) * 2) (pc (l.drop i))).drop (i * 2 + 2) = pc (l.drop i) ++ cur.drop ((i + 1) * 2 + (pc (l.drop i)).length) := by
    unfold splice
    rw [show i * 2 + 2 = (i + 1) * 2 by omega, List.drop_append_of_le_length (by rw [List.length_take]; omega), List.drop_eq_nil_of_le (by rw [List.length_take]; omega), List.nil_append]
  unfold splice at e1 e2 ⊢
  rw [show ([Value.string x.1, .string x.2] : List Value).length = 2 from rfl, e1, e2]
  rw [← List.append_assoc, ← List.append_assoc, List.take_append_of_le_length (by simp only [List.length_append, List.length_take, hd, List.length_cons, List.length_nil]; omega), List.take_of_length_le (by simp only [List.length_append, List.length_take, hd, List.length_cons, List.length_nil]; omega), List.append_assoc]

set_option maxHeartbeats 1000000 in
set_option maxRecDepth 100000 in
theorem ins_room (g n c i vb vc : Nat) (cur : List Value) (l : List Pr) (x : Pr) (w : World) (hi : i < n) (hln : l.length = n) (hroom : n + 1 ≤ c) (hc : c ≤ maxLen) (hvb : vb ≠ g)
    (hg : w.heap[g]? = some (.cells cur.toArray 38 (0, 0))) (hcs : cur.length = c * 2) (ht : cur.take (n * 2) = pc l) (hv : w.heap[vb]? = some (.cells #[.string x.1, .string x.2] 38 (0, 0))) :
    Calls Tryz.prog 64 #[.slice (some ⟨g, 0, none⟩) n c, .int .i64 i, .slice (some ⟨vb, 0, none⟩) 1 vc] w fun e w' =>
      e = .returned (.slice (some ⟨g, 0, none⟩) (n + 1) c) ∧ ∃ w1, w1 = w.drew ∧ w' = (w1.setRow g (splice cur ((i + 1) * 2) (pc (l.drop i))).toArray).setRow g (splice (splice cur ((i + 1) * 2) (pc (l.drop i))) (i * 2) [.string x.1, .string x.2]).toArray := by
  have hz2 : ¬ ((i : Int) = (n : Int)) := by omega
  have hc63 : c ≤ 9223372036854775807 := by unfold maxLen at hc; omega
  have hsz : (Tryz.prog.info? 38).map (·.size) = some 2 := by
    obtain ⟨i0, hi0, h0, h1, h2⟩ := info_parts info38
    rw [hi0]; simp [h1]
  have hso : ∀ w, (Go.sizeOf 38).run Tryz.prog w = .ok 2 w := fun w => by
    obtain ⟨i0, hi0, h0, h1, h2⟩ := info_parts info38
    simp [Go.sizeOf, typeInfo, hi0, h1]
  have hov : ∀ lb cb, (callFunc 96 #[.slice (some ⟨vb, 0, none⟩) 1 vc, .slice (some ⟨g, (i + 1) * 2, none⟩) lb cb]).run Tryz.prog w = .ok (.value (.bool false)) w := fun lb cb => by
    rw [run_callFunc_extern Tryz.func96 (by kernel_rfl) (by kernel_rfl) (by kernel_rfl) (e := Extern.SlicesOverlaps.overlaps #[28, 28] #[4]) (by kernel_rfl),
      Lib.run_overlaps_apart w 28 4 38 Tryz.underlying28 2 hso ⟨vb, 0, none⟩ ⟨g, (i + 1) * 2, none⟩ 1 vc lb cb hvb 38 38 2 (c * 2)
        (by simp [World.shape?, hv]) (by simp [World.shape?, hg, hcs]) (by omega) (by simp [World.frozen?, hv]) (by simp [World.frozen?, hv])]
    rfl
  have hw1 : IntKind.i64.wrap ((i : Int) + 1) = (i : Int) + 1 := by rw [IntKind.wrap_i64]; omega
  have hdl : (pc (l.drop i)).length = (n - i) * 2 := by rw [pc_len, List.length_drop, hln]
  have htl : pc (l.drop i) = (cur.take (n * 2)).drop (i * 2) := by rw [ht, pc_drop]
  have hcp1 : ∀ ty dc sc, (Builtin.copy_ #[28, 28] ty #[.slice (some ⟨g, (i + 1) * 2, none⟩) (n - i) dc, .slice (some ⟨g, i * 2, none⟩) (n + 1 - i) sc]).run Tryz.prog w.drew = .ok (goInt (Nat.min (n + 1 - i) (n - i))) (w.drew.setRow g (splice cur ((i + 1) * 2) (pc (l.drop i))).toArray) := fun ty dc sc =>
    run_copy_rowk w.drew 28 28 ty 38 2 g ((i + 1) * 2) (n - i) dc ⟨g, i * 2, none⟩ (n + 1 - i) sc cur 38 (pc (l.drop i)) Tryz.underlying28 hsz hg
      (by rw [hdl, show Nat.min (n + 1 - i) (n - i) = n - i from Nat.min_eq_right (by omega)])
      (fun j v hj => by
        rw [htl, List.getElem?_drop, List.getElem?_take] at hj
        split at hj
        · rw [Addr.add_lit]
          rw [Lib.cell_of_heap (w := w.drew) hg]
          simpa using hj
        · cases hj)
      (by rw [hdl]; omega) (pc_one _)
  obtain ⟨C1, hC1⟩ : ∃ C1, C1 = splice cur ((i + 1) * 2) (pc (l.drop i)) := ⟨_, rfl⟩
  rw [← hC1] at hcp1 ⊢
  have hC1l : C1.length = c * 2 := by rw [hC1, length_splice _ _ _ (by rw [hdl]; omega), hcs]
  clear hC1
  obtain ⟨W1, hW1⟩ : ∃ W1, W1 = w.drew.setRow g C1.toArray := ⟨_, rfl⟩
  rw [← hW1] at hcp1
  have hg1 : W1.heap[g]? = some (.cells C1.toArray 38 (0, 0)) := by rw [hW1]; exact setRow_heap w.drew g cur.toArray _ 38 (0, 0) hg
  have hv1 : W1.heap[vb]? = some (.cells #[.string x.1, .string x.2] 38 (0, 0)) := by rw [hW1, setRow_other w.drew g vb _ hvb]; exact hv
  have hcp2 : ∀ ty dc dl, 0 < dl → (Builtin.copy_ #[28, 28] ty #[.slice (some ⟨g, i * 2, none⟩) dl dc, .slice (some ⟨vb, 0, none⟩) 1 vc]).run Tryz.prog W1 = .ok (goInt (Nat.min 1 dl)) (W1.setRow g (splice C1 (i * 2) [.string x.1, .string x.2]).toArray) := fun ty dc dl hd =>
    run_copy_rowk W1 28 28 ty 38 2 g (i * 2) dl dc ⟨vb, 0, none⟩ 1 vc C1 38 [.string x.1, .string x.2] Tryz.underlying28 hsz hg1
      (by rw [show Nat.min 1 dl = 1 from Nat.min_eq_left (by omega)]; rfl)
      (fun j v hj => by
        rw [Addr.add_lit, Lib.cell_of_heap hv1]
        simpa using hj)
      (by rw [hC1l]; simp; omega) (by intro v hv; simp at hv; rcases hv with rfl | rfl <;> rfl)
  have HW1 := Lib.hid hW1
  clear hW1
  have hpos : 0 < n + 1 - i := by omega
  have hb1 : (0 : Int) ≤ (i : Int) + 1 := by omega
  have hin : i ≤ n := by omega
  have htn : ((i : Int) + 1).toNat = i + 1 := by omega
  have hb2 : ¬ (c = i + 1) := by omega
  have hb3 : (i : Int) ≤ (n : Int) + 1 := by omega
  have hb4 : ¬ (c = i) := by omega
  have mixed : Tryz.prog.follows Departure.mixedOrders = true := by kernel_rfl
  go_enter Tryz.func64, Tryz.ntmps64
  go_wp2_with (simp only [hov])
  go_region_law_o (refine step_copy_runI rfl _ _ 28 28 rfl _ _ (by simp [Act.eval, Act.put]) (by simp [Act.eval, Act.put]) (hcp1 _ _ _) ?_)
  go_wp2_with (at_builtin; refine wpList_copy_runI _ rfl _ _ 28 28 rfl _ _ rfl rfl (hcp2 _ _ _ hpos) ?_)
  go_ret
  exact ⟨rfl, _, rfl, by rw [HW1.out]⟩

/-- The other order: first the pair, then the tail behind it. -/
theorem two_splices' (cur : List Value) (l : List Pr) (i n : Nat) (x : Pr) (hi : i ≤ n) (hln : l.length = n) (hfit : (n + 1) * 2 ≤ cur.length) (ht : cur.take (i * 2) = pc (l.take i)) :
    (splice (splice cur (i * 2) [.string x.1, .string x.2]) ((i + 1) * 2) (pc (l.drop i))).take ((n + 1) * 2) = pc (l.take i ++ x :: l.drop i)
    ∧ (splice (splice cur (i * 2) [.string x.1, .string x.2]) ((i + 1) * 2) (pc (l.drop i))).length = cur.length := by
  have hd : (pc (l.drop i)).length = (n - i) * 2 := by rw [pc_len, List.length_drop, hln]
  have hl1 := length_splice cur (i * 2) [Value.string x.1, .string x.2] (by simp; omega)
  have hl2 := length_splice (splice cur (i * 2) [Value.string x.1, .string x.2]) ((i + 1) * 2) (pc (l.drop i)) (by rw [hl1, hd]; omega)
  refine ⟨?_, hl2.trans hl1⟩
  rw [pc_append, pc_cons, ← ht]
  have e1 : (splice cur (i * 2) [Value.string x.1, .string x.2]).take ((i + 1) * 2) = cur.take (i * 2) ++ [Value.string x.1, .string x.2] := by
    unfold splice
    rw [← List.append_assoc, List.take_append_of_le_length (by simp only [List.length_append, List.length_take, List.length_cons, List.length_nil]; omega), List.take_of_length_le (by simp only [List.length_append, List.length_take, List.length_cons, List.length_nil]; omega)]
  unfold splice at e1 ⊢
  rw [e1]
  rw [← List.append_assoc, List.take_append_of_le_length (by simp only [List.length_append, List.length_take, hd, List.length_cons, List.length_nil]; omega), List.take_of_length_le (by simp only [List.length_append, List.length_take, hd, List.length_cons, List.length_nil]; omega), List.append_assoc]

set_option maxHeartbeats 1000000 in
set_option maxRecDepth 100000 in
theorem ins_grow (g n c i vb vc : Nat) (l : List Pr) (x : Pr) (w : World) (hi : i < n) (hln : l.length = n) (hnc : n ≤ c) (hroom : c < n + 1) (hbig : n ≤ 1099511627776)
    (hcl : ∀ j v, (pc l)[j]? = some v → w.cell? ⟨g, j, none⟩ = some v) (hgw : g < w.heap.size) (hv : w.heap[vb]? = some (.cells #[.string x.1, .string x.2] 38 (0, 0))) :
    Calls Tryz.prog 64 #[.slice (some ⟨g, 0, none⟩) n c, .int .i64 i, .slice (some ⟨vb, 0, none⟩) 1 vc] w fun e w' =>
      ∃ (G : Nat) (CUR : List Value), e = .returned (.slice (some ⟨w.heap.size, 0, none⟩) (n + 1) G) ∧ n + 1 ≤ G ∧ G ≤ maxLen ∧ CUR.length = G * 2 ∧ CUR.take ((n + 1) * 2) = pc (l.take i ++ x :: l.drop i) ∧
        w'.heap[w.heap.size]? = some (.cells CUR.toArray 38 (0, 0)) ∧ Below w.heap.size w w' := by
  have hz2 : ¬ ((i : Int) = (n : Int)) := by omega
  have hz3 : (c : Int) < (n : Int) + 1 := by omega
  obtain ⟨i0, hi0, hz0, hzs, hzb⟩ := info_parts info38
  have hsz : (Tryz.prog.info? 38).map (·.size) = some 2 := by rw [hi0]; simp [hzs]
  have hvw : vb < w.heap.size := (Array.getElem?_eq_some_iff.1 hv).1
  have hkk : (n : Int) + 1 - (i : Int) = ((n + 1 - i : Nat) : Int) := by omega
  have hik : i + (n + 1 - i) = n + 1 := by omega
  have hold : (Builtin.firstCells i0.size i (.slice (some ⟨g, 0, none⟩) i c)).run Tryz.prog w.drew = .ok (pc (l.take i)).toArray w.drew := by
    rw [hzs]
    exact run_firstCells_some w.drew 2 i ⟨g, 0, none⟩ i c (pc (l.take i)) (by rw [pc_len, List.length_take]; omega) (fun j v hj => by
      rw [Addr.add_lit]
      rw [← pc_take, List.getElem?_take] at hj
      split at hj
      · rw [Nat.zero_add]; exact hcl j v hj
      · cases hj)
  have hge := grownCap_ge w (n + 1) c 38
  have hcm : grownCap w (n + 1) c 38 ≤ maxLen := grownCap_le_maxLen w (n + 1) c 38 (by unfold maxLen; omega)
  have hrz : ∀ ty, (Builtin.append_ #[28, 3] ty #[.slice (some ⟨g, 0, none⟩) i c, .int .i64 ((n : Int) + 1 - (i : Int))]).run Tryz.prog w =
      .ok (.slice (some ⟨w.heap.size, 0, none⟩) (n + 1) (grownCap w (n + 1) c 38)) (w.drew.alloc (.cells ((pc (l.take i)).toArray ++ Builtin.zeroCells (Value.agg #[.string ⟨#[]⟩, .string ⟨#[]⟩]).cells (n + 1 - i) ++ Builtin.zeroCells (Value.agg #[.string ⟨#[]⟩, .string ⟨#[]⟩]).cells (grownCap w (n + 1) c 38 - (n + 1))) 38)) := fun ty => by
    have h := Lib.run_append_grow_zeros w 28 3 ty 38 i0 _ .i64 .i64 Tryz.underlying28 Tryz.underlying3 hi0 hz0 (some ⟨g, 0, none⟩) i c (pc (l.take i)) hold (n + 1 - i) (by omega) (by omega) (by omega) (by omega) (by rw [hzb]; omega) (by rw [hzb, hik]; exact growslice_fits hroom (by omega))
    rw [hik] at h
    rw [hkk]
    exact h
  obtain ⟨G, hG⟩ : ∃ G, G = grownCap w (n + 1) c 38 := ⟨_, rfl⟩
  obtain ⟨ROW, hROW⟩ : ∃ ROW : List Value, ROW = ((pc (l.take i)).toArray ++ Builtin.zeroCells (Value.agg #[.string ⟨#[]⟩, .string ⟨#[]⟩]).cells (n + 1 - i) ++ Builtin.zeroCells (Value.agg #[.string ⟨#[]⟩, .string ⟨#[]⟩]).cells (G - (n + 1))).toList := ⟨_, rfl⟩
  rw [← hG] at hrz hge hcm
  have hRA : (pc (l.take i)).toArray ++ Builtin.zeroCells (Value.agg #[.string ⟨#[]⟩, .string ⟨#[]⟩]).cells (n + 1 - i) ++ Builtin.zeroCells (Value.agg #[.string ⟨#[]⟩, .string ⟨#[]⟩]).cells (G - (n + 1)) = ROW.toArray := by rw [hROW]
  rw [hRA] at hrz
  have hpl : (pc (l.take i)).length = i * 2 := by rw [pc_len, List.length_take, Nat.min_eq_left (by omega)]
  have hRl : ROW.length = G * 2 := by
    rw [hROW, Array.length_toList, Array.size_append, Array.size_append, size_zeroCells, size_zeroCells, List.size_toArray, hpl]
    simp only [Value.cells, List.size_toArray, List.length_cons, List.length_nil]
    omega
  have hRt : ROW.take (i * 2) = pc (l.take i) := by
    rw [hROW, Array.toList_append, Array.toList_append, List.append_assoc, List.take_append_of_le_length (by simp [hpl]), List.take_of_length_le (by simp [hpl])]
  clear hG hROW hRA hold
  obtain ⟨W1, hW1⟩ : ∃ W1, W1 = w.drew.alloc (.cells ROW.toArray 38) := ⟨_, rfl⟩
  rw [← hW1] at hrz
  have HB1 : Below w.heap.size w W1 := by
    have hD : Below w.heap.size w w.drew := ⟨rfl, rfl, rfl, Nat.le_refl _, fun _ _ => rfl⟩
    rw [hW1]; exact hD.alloc (Nat.le_refl _) _
  have hg1 : W1.heap[w.heap.size]? = some (.cells ROW.toArray 38 (0, 0)) := by rw [hW1]; exact heap_alloc_new w.drew _
  clear hW1
  generalize hN : w.heap.size = N at *
  have HN := Lib.hid hN
  clear hN
  have hv1 : W1.heap[vb]? = some (.cells #[.string x.1, .string x.2] 38 (0, 0)) := (HB1.block vb hvw).trans hv
  have hcpA : ∀ ty dc dl, 0 < dl → (Builtin.copy_ #[28, 28] ty #[.slice (some ⟨N, i * 2, none⟩) dl dc, .slice (some ⟨vb, 0, none⟩) 1 vc]).run Tryz.prog W1 = .ok (goInt (Nat.min 1 dl)) (W1.setRow N (splice ROW (i * 2) [.string x.1, .string x.2]).toArray) := fun ty dc dl hd =>
    run_copy_rowk W1 28 28 ty 38 2 N (i * 2) dl dc ⟨vb, 0, none⟩ 1 vc ROW 38 [.string x.1, .string x.2] Tryz.underlying28 hsz hg1
      (by rw [show Nat.min 1 dl = 1 from Nat.min_eq_left (by omega)]; rfl)
      (fun j v hj => by
        rw [Addr.add_lit, Lib.cell_of_heap hv1]
        simpa using hj)
      (by rw [hRl]; simp; omega) (by intro v hv; simp at hv; rcases hv with rfl | rfl <;> rfl)
  have hT := two_splices' ROW l i n x (by omega) hln (by rw [hRl]; omega) hRt
  obtain ⟨R2, hR2⟩ : ∃ R2, R2 = splice ROW (i * 2) [.string x.1, .string x.2] := ⟨_, rfl⟩
  rw [← hR2] at hcpA hT
  have hR2l : R2.length = G * 2 := by rw [hR2, length_splice _ _ _ (by rw [hRl]; simp; omega), hRl]
  clear hR2
  obtain ⟨W2, hW2⟩ : ∃ W2, W2 = W1.setRow N R2.toArray := ⟨_, rfl⟩
  rw [← hW2] at hcpA
  have hg2 : W2.heap[N]? = some (.cells R2.toArray 38 (0, 0)) := by rw [hW2]; exact setRow_heap W1 N ROW.toArray _ 38 (0, 0) hg1
  have HB2 : Below N w W2 := by rw [hW2]; exact below_setRow HB1 (Nat.le_refl _) _
  clear hW2
  have hdl : (pc (l.drop i)).length = (n - i) * 2 := by rw [pc_len, List.length_drop, hln]
  have hcpB : ∀ ty dc sc, (Builtin.copy_ #[28, 28] ty #[.slice (some ⟨N, (i + 1) * 2, none⟩) (n - i) dc, .slice (some ⟨g, i * 2, none⟩) (n - i) sc]).run Tryz.prog W2.drew = .ok (goInt (Nat.min (n - i) (n - i))) (W2.drew.setRow N (splice R2 ((i + 1) * 2) (pc (l.drop i))).toArray) := fun ty dc sc =>
    run_copy_rowk W2.drew 28 28 ty 38 2 N ((i + 1) * 2) (n - i) dc ⟨g, i * 2, none⟩ (n - i) sc R2 38 (pc (l.drop i)) Tryz.underlying28 hsz hg2
      (by rw [hdl, show Nat.min (n - i) (n - i) = n - i from Nat.min_eq_right (by omega)])
      (fun j v hj => by
        rw [← pc_drop, List.getElem?_drop] at hj
        rw [Addr.add_lit]
        have := (HB2.cell (p := ⟨g, i * 2 + j, none⟩) hgw).trans (hcl _ _ hj)
        exact this)
      (by rw [hdl, hR2l]; omega) (pc_one _)
  obtain ⟨R3, hR3⟩ : ∃ R3, R3 = splice R2 ((i + 1) * 2) (pc (l.drop i)) := ⟨_, rfl⟩
  rw [← hR3] at hcpB hT
  obtain ⟨W3, hW3⟩ : ∃ W3, W3 = W2.drew.setRow N R3.toArray := ⟨_, rfl⟩
  rw [← hW3] at hcpB
  have hg3 : W3.heap[N]? = some (.cells R3.toArray 38 (0, 0)) := by rw [hW3]; exact setRow_heap W2.drew N R2.toArray _ 38 (0, 0) hg2
  have HB3 : Below N w W3 := by rw [hW3]; exact below_setRow (w := W2.drew) ⟨HB2.os, HB2.tape, HB2.output, HB2.size, HB2.block⟩ (Nat.le_refl _) _
  have HF : Hid (R3.length = G * 2 ∧ R3.take ((n + 1) * 2) = pc (l.take i ++ x :: l.drop i) ∧ W3.heap[N]? = some (.cells R3.toArray 38 (0, 0)) ∧ Below N w W3) := Lib.hid ⟨hT.2.trans hRl, hT.1, hg3, HB3⟩
  clear hW3 hR3 hg3 HB3 hT hg1 hg2 HB1 HB2 hv1 hcl hRt
  have hG63 : G ≤ 9223372036854775807 := by unfold maxLen at hcm; omega
  have hGi : ¬ (G = i) := by omega
  have hGim : ¬ (G = i + 1) := by omega
  have hci : ¬ (c = i) := by omega
  have hw1 : IntKind.i64.wrap ((i : Int) + 1) = (i : Int) + 1 := by rw [IntKind.wrap_i64]; omega
  have hpos : 0 < n + 1 - i := by omega
  have hb1 : (0 : Int) ≤ (i : Int) + 1 := by omega
  have hin : i ≤ n := by omega
  have htn : ((i : Int) + 1).toNat = i + 1 := by omega
  have hb3 : (i : Int) ≤ (n : Int) := by omega
  have mixed : Tryz.prog.follows Departure.mixedOrders = true := by kernel_rfl
  clear hkk hik hi0 hz0 hzs hzb
  go_enter Tryz.func64, Tryz.ntmps64
  go_wp2_with (first
    | (at_builtin; refine Lib.wpList_append_run _ rfl _ _ _ _ rfl _ _ rfl rfl _ _ (hrz _) ?_)
    | (at_builtin; refine wpList_copy_runI _ rfl _ _ 28 28 rfl _ _ rfl rfl (hcpA _ _ _ hpos) ?_))
  go_region_law_o (refine step_copy_runI rfl _ _ 28 28 rfl _ _ (by simp [Act.eval, Act.put]) (by simp [Act.eval, Act.put]) (hcpB _ _ _) ?_)
  go_wp2
  go_ret
  exact ⟨G, R3, rfl, hge, hcm, HF.out.1, HF.out.2.1, HF.out.2.2.1, HF.out.2.2.2⟩

set_option maxHeartbeats 1000000 in
set_option maxRecDepth 100000 in
theorem ins_end (base n vb vc : Nat) (v : Value) (l : List Pr) (x : Pr) (w : World) (hn : n ≤ 1099511627776) (hbase : base ≤ w.heap.size) (hown : w.ownsRow base 38 2 v n (pc l)) (hv : w.heap[vb]? = some (.cells #[.string x.1, .string x.2] 38 (0, 0))) :
    Calls Tryz.prog 64 #[v, .int .i64 n, .slice (some ⟨vb, 0, none⟩) 1 vc] w fun e w' =>
      ∃ v', e = .returned v' ∧ w'.ownsRow base 38 2 v' (n + 1) (pc (l ++ [x])) ∧ w.grownBy w' v.ownBlock := by
  obtain ⟨i0, hi, hz0, hz1, hz2⟩ := info_parts info38
  have hsh : (v = .slice none 0 0 ∧ n = 0) ∨ ∃ g cap, v = .slice (some ⟨g, 0, none⟩) n cap ∧ n ≤ cap := by
    rcases hown.2 with h | ⟨g, cap, cur, h, _, _, hc, _⟩
    · exact .inl h
    · exact .inr ⟨g, cap, h, hc⟩
  have HO := Lib.hid hown
  have hsrc : ∀ j u, ([Value.string x.1, .string x.2] : List Value)[j]? = some u → w.cell? ((⟨vb, 0, none⟩ : Addr).add j) = some u := fun j u hj => by
    rw [Addr.add_lit, Lib.cell_of_heap hv]
    simpa using hj
  have HS := Lib.hid hsrc
  clear hown hsrc hv
  rw [pc_snoc]
  generalize hP : pc l = PL at *
  clear hP
  have HC2 : Hid (∀ u ∈ ([Value.string x.1, .string x.2] : List Value), u.oneCell' = true) := Lib.hid (by intro u hu; simp at hu; rcases hu with rfl | rfl <;> rfl)
  have HC3 : Hid (n + 1 ≤ maxLen) := Lib.hid (by unfold maxLen; omega)
  have HC4 : Hid ((n + 1) * 32 ≤ 140737488355328) := Lib.hid (by omega)
  go_enter Tryz.func64, Tryz.ntmps64
  rcases hsh with ⟨rfl, rfl⟩ | ⟨g, cap, rfl, hc⟩
  all_goals
    go_wp2_with (at_builtin; refine wpList_append_own _ rfl _ _ 28 rfl base 38 i0 (.agg #[.string ⟨#[]⟩, .string ⟨#[]⟩]) 2 32 Tryz.underlying28 hi hz0 hz1 hz2 rfl (by decide) _ _ _ rfl HO.out _ 1 vc [.string x.1, .string x.2] rfl rfl HS.out HC2.out HC3.out HC4.out hbase ?_)
    all_goals
      intro v' w2 hown' hgrow _
      have G1 := Lib.hid hown'
      have G2 := Lib.hid hgrow
      clear hown' hgrow
      go_wp2_with fail
      go_ret
      exact ⟨_, rfl, G1.out, G2.out⟩

theorem drew_below (B : Nat) (w : World) : Below B w w.drew := ⟨rfl, rfl, rfl, Nat.le_refl _, fun _ _ => rfl⟩
/-- Any of the three. -/
theorem ins_any (base n i vb vc : Nat) (v : Value) (l : List Pr) (x : Pr) (w : World) (hi : i ≤ n) (hln : l.length = n) (hn : n ≤ 1099511627776) (hbase : base ≤ w.heap.size) (hown : w.ownsRow base 38 2 v n (pc l))
    (hv : w.heap[vb]? = some (.cells #[.string x.1, .string x.2] 38 (0, 0))) (hvb : v.ownBlock ≠ some vb) :
    Calls Tryz.prog 64 #[v, .int .i64 i, .slice (some ⟨vb, 0, none⟩) 1 vc] w fun e w' =>
      ∃ v', e = .returned v' ∧ w'.ownsRow base 38 2 v' (n + 1) (pc (l.take i ++ x :: l.drop i)) ∧ Below base w w' := by
  have hlen : (pc (l.take i ++ x :: l.drop i)).length = (n + 1) * 2 := by rw [pc_len]; simp only [List.length_append, List.length_take, List.length_cons, List.length_drop]; omega
  by_cases hin : i = n
  · subst hin
    refine (ins_end base i vb vc v l x w hn hbase hown hv).mono ?_
    rintro e w' ⟨v', rfl, h1, h2⟩
    refine ⟨v', rfl, ?_, ⟨h2.os, h2.tape, h2.output, h2.size, fun k hk => ?_⟩⟩
    · rw [List.take_of_length_le (by omega), List.drop_eq_nil_of_le (by omega)]
      exact h1
    · refine h2.block k (by omega) ?_
      intro h
      have := (hown.lt k h.symm).1
      omega
  · rcases hown.2 with ⟨_, h⟩ | ⟨g, c, cur, rfl, hbg, hg, hnc, hcm, hcs, ht⟩
    · omega
    · have hgw : g < w.heap.size := (Array.getElem?_eq_some_iff.1 hg).1
      have hvg : vb ≠ g := fun h => hvb (by rw [h]; rfl)
      have hti : cur.toList.take (i * 2) = pc (l.take i) := by
        rw [← pc_take, ← ht, List.take_take, Nat.min_eq_left (by omega)]
      by_cases hroom : n + 1 ≤ c
      · have hT := two_splices cur.toList l i n x hi hln (by rw [Array.length_toList]; omega) hti
        refine (ins_room g n c i vb vc cur.toList l x w (by omega) hln hroom hcm hvg (by simpa using hg) (by simpa using hcs) ht hv).mono ?_
        rintro e w' ⟨rfl, w1, rfl, rfl⟩
        have hg1 := setRow_heap w.drew g cur (splice cur.toList ((i + 1) * 2) (pc (l.drop i))).toArray 38 (0, 0) hg
        refine ⟨_, rfl, ⟨hlen, .inr ⟨g, c, _, rfl, hbg, setRow_heap _ g _ _ 38 (0, 0) hg1, hroom, hcm, ?_, ?_⟩⟩, below_setRow (below_setRow (drew_below base w) hbg _) hbg _⟩
        · rw [List.size_toArray, hT.2, Array.length_toList, hcs]
        · exact hT.1
      · refine (ins_grow g n c i vb vc l x w (by omega) hln hnc (by omega) hn (fun j u hj => ?_) hgw hv).mono ?_
        · have := hown.cells (g := g) rfl j u hj
          rw [Addr.add_lit, Nat.zero_add] at this
          exact this
        rintro e w' ⟨G, CUR, rfl, hG, hGm, hCl, hCt, hh, hb⟩
        refine ⟨_, rfl, ⟨hlen, .inr ⟨w.heap.size, G, CUR.toArray, rfl, hbase, hh, hG, hGm, by rw [List.size_toArray, hCl], hCt⟩⟩, ⟨hb.os, hb.tape, hb.output, hb.size, fun k hk => hb.block k (by omega)⟩⟩
end Go.Proofs.YtbklpdcipfhdjaaGreatDoor.Ins
