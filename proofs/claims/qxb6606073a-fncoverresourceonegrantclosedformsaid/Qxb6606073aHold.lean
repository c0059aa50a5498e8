import Derived.Test.Qxb6606073aCov
import Derived.Test.Qxb6606073aBounds
import Derived.Deep.Cut
import Derived.Maps.RangeWalk
import Derived.Deep.DeepCutAuto
namespace Go.Proofs.Qxb6606073a.W
open Go.RowKit Go.Maps
open Go.WideMaps (keyOf_string_mk)
set_option linter.unusedVariables false
set_option linter.unusedSimpArgs false

theorem lift1 {W : World} {o : Obj} {a : Addr} {x : Value} (h : W.cell? a = some x) : (W.alloc o).cell? a = some x := cell_below' h ((Below.refl _ _).alloc (Nat.le_refl _) _)
theorem lift2 {W : World} {o o' : Obj} {a : Addr} {x : Value} (h : W.cell? a = some x) : ((W.alloc o).alloc o').drew.drew.cell? a = some x := lift1 (lift1 h)

/-- What hold leaves. -/
def Holds (C A : Nat) (rv rg rr : ByteArray) (ra : Bool) (ss : List ByteArray) (w : World) (e : Ending) (w' : World) : Prop :=
  e = .returned (.tuple #[]) ∧ (∃ M, CovAt C A M rv rg rr ra ss w') ∧ Below A w w'

set_option maxRecDepth 100000 in
set_option maxHeartbeats 2000000 in
theorem hold_empty {C A n0 : Nat} {rv rg rr : ByteArray} {ra : Bool} {w : World} (ao : Option Addr) (cap : Nat) (hc : w.cell? ⟨C, 1, none⟩ = some (.map (some A))) (hCA : C < A) (hown : w.ownsMap Try.prog 88 hR A n0 (.map [])) (hn0 : n0 ≤ 100)
    (h0 : rv.size ≤ maxLen) (h1 : rg.size ≤ maxLen) (h2 : rr.size ≤ maxLen) :
    Calls Try.prog 52 #[.pointer (some ⟨C, 0, none⟩), act rv rg rr ra, .slice ao 0 cap] w fun e w' => Holds C A rv rg rr ra [] w e w' := by
  obtain ⟨l0, hl0⟩ := key88 ra h0 h1 h2
  have hA := hown.lt
  have hbA : Below A w (w.alloc (.cells #[.string rv, .string rg, .string rr, .bool ra] 88)) := (Below.refl _ _).alloc (Nat.le_of_lt hA) _
  have o1 := hown.alloc (.cells #[.string rv, .string rg, .string rr, .bool ra] 88)
  have la := look88_empty o1.drew hl0
  have lb := look88_empty (o1.alloc (.cells #[.bool false, .map none] 92)).drew hl0
  obtain ⟨W3, hu, o3, g3⟩ := ((o1.alloc (.cells #[.bool false, .map none] 92)).drew.drew).update law88 Try.underlying70 (by unfold maxLen; omega) hl0 (hR_mk true none)
  have hC : C < w.heap.size := Nat.lt_trans hCA hA
  go_enter Try.func52, Try.ntmps52
  go_wp2
  go_region
  all_goals go_wp2_with fail
  all_goals go_region
  all_goals go_wp2
  all_goals refine bodyPost_ret (results_none rfl _ _ _) rfl ?_
  all_goals
    refine ⟨rfl, ⟨none, ?_, ⟨_, l0, hl0, o3⟩, .inl ⟨rfl, rfl⟩⟩, ?_⟩
    · refine g3.cell (a := ⟨C, 1, none⟩) ?_ (fun e => by have := Option.some.inj e; simp at this; omega)
      exact lift2 hc
    · exact (((hbA.alloc (Nat.le_trans (Nat.le_of_lt hA) hbA.size) _).drew).drew).grown g3 (by have := hbA.size; simp; omega) (fun k hk => by cases hk; exact Nat.le_refl _)

theorem mk90 (n : Nat) (W : World) : (Instr.makeMap 90 (some (.int .i64 n))).run Try.prog W = .ok (.map (some W.heap.size)) (W.alloc (.map #[] 0)) := by
  simp [Instr.makeMap, run_underlying Try.underlying90, asInt, newObj]
  rfl

theorem World.grownBy_refl' (w : World) (r : Option Nat) : w.grownBy w r := ⟨rfl, rfl, rfl, Nat.le_refl _, fun _ _ _ => rfl⟩

theorem names_ne {w : World} {a : Addr} {x : Value} (h : w.cell? a = some x) (e : a.block = w.heap.size + 1 + 1) : False := by
  have := World.block_lt_of_cell? w _ h
  omega

theorem setB_step {ss : List ByteArray} {k : Nat} {s : ByteArray} (h : ss[k]? = some s) : setB (ss.take (k + 1)) = (setB (ss.take k)).put (.string s.data.toList) (.lit (.bool true)) := by
  unfold setB keysOf
  rw [List.take_add_one, h, List.map_append]
  exact setOf_snoc _ _ _

theorem szA (W : World) (o : Obj) : (W.alloc o).heap.size = W.heap.size + 1 := by
  show (W.heap.push o).size = _
  simp
theorem putA (W : World) (c : Array Value) (t : TypeId) (n i : Nat) (x : Value) (hn : n = W.heap.size) (hx : c[i]? = some x) : (W.alloc (.cells c t)).cell? ⟨n, i, none⟩ = some x := by
  subst hn
  unfold World.cell?
  rw [heap_alloc_new]
  exact hx

/-- The world behind 'h.names = make(..)'. -/
structure After (C A n0 : Nat) (rv rg rr : ByteArray) (ra : Bool) (ss : List ByteArray) (a : Addr) (w W : World) : Prop where
  own : W.ownsMap Try.prog 88 hR A n0 (.map [])
  set : W.ownsMap Try.prog 9 (plainElem (H := Unit) Try.prog 4) (w.heap.size + 1 + 1) 0 (setB [])
  c1 : W.cell? ⟨C, 1, none⟩ = some (.map (some A))
  a0 : W.cell? ⟨w.heap.size, 0, none⟩ = some (.string rv)
  a1 : W.cell? ⟨w.heap.size, 1, none⟩ = some (.string rg)
  a2 : W.cell? ⟨w.heap.size, 2, none⟩ = some (.string rr)
  a3 : W.cell? ⟨w.heap.size, 3, none⟩ = some (.bool ra)
  h0 : W.cell? ⟨w.heap.size + 1, 0, none⟩ = some (.bool false)
  h1 : W.cell? ⟨w.heap.size + 1, 1, none⟩ = some (.map (some (w.heap.size + 1 + 1)))
  names : ∀ i, i < ss.length → W.cell? (a.add i) = some (.string (ss.getD i ByteArray.empty))
  bel : Below A w W

theorem After.start {C A n0 : Nat} {rv rg rr : ByteArray} {ra : Bool} {ss : List ByteArray} {a : Addr} {w : World} (hc : w.cell? ⟨C, 1, none⟩ = some (.map (some A))) (hCA : C < A) (hown : w.ownsMap Try.prog 88 hR A n0 (.map []))
    (hcell : ∀ i, i < ss.length → w.cell? (a.add i) = some (.string (ss.getD i ByteArray.empty))) :
    After C A n0 rv rg rr ra ss a w (((w.alloc (.cells #[.string rv, .string rg, .string rr, .bool ra] 88)).alloc (.cells #[.bool false, .map (some (w.heap.size + 1 + 1))] 92)).alloc (.map #[] 0)).drew := by
  have hA := hown.lt
  have b1 : Below A w (w.alloc (.cells #[.string rv, .string rg, .string rr, .bool ra] 88)) := (Below.refl _ _).alloc (Nat.le_of_lt hA) _
  have b2 := b1.alloc (Nat.le_trans (Nat.le_of_lt hA) b1.size) (.cells #[.bool false, .map (some (w.heap.size + 1 + 1))] 92)
  have b3 := b2.alloc (Nat.le_trans (Nat.le_of_lt hA) b2.size) (.map #[] 0)
  have st := World.ownsMap_made ((w.alloc (.cells #[.string rv, .string rg, .string rr, .bool ra] 88)).alloc (.cells #[.bool false, .map (some (w.heap.size + 1 + 1))] 92)) Try.prog 9 (plainElem (H := Unit) Try.prog 4)
  rw [szA, szA] at st
  exact ⟨((hown.alloc _).alloc _).alloc _, st, lift1 (lift1 (lift1 hc)), lift1 (lift1 (putA _ _ _ _ 0 _ rfl rfl)), lift1 (lift1 (putA _ _ _ _ 1 _ rfl rfl)), lift1 (lift1 (putA _ _ _ _ 2 _ rfl rfl)), lift1 (lift1 (putA _ _ _ _ 3 _ rfl rfl)),
    lift1 (putA _ _ _ _ 0 _ (by rw [szA]) rfl), lift1 (putA _ _ _ _ 1 _ (by rw [szA]) rfl), fun i hi => lift1 (lift1 (lift1 (hcell i hi))), b3.drew⟩

set_option maxRecDepth 100000 in
set_option maxHeartbeats 2000000 in
theorem hold_some {C A n0 : Nat} {rv rg rr : ByteArray} {ra : Bool} {ss : List ByteArray} {w : World} (a : Addr) (cap : Nat) (hc : w.cell? ⟨C, 1, none⟩ = some (.map (some A))) (hCA : C < A) (hown : w.ownsMap Try.prog 88 hR A n0 (.map [])) (hn0 : n0 ≤ 100)
    (h0 : rv.size ≤ maxLen) (h1 : rg.size ≤ maxLen) (h2 : rr.size ≤ maxLen) (hs : 0 < ss.length) (hl : ss.length ≤ 1048576) (hcell : ∀ i, i < ss.length → w.cell? (a.add i) = some (.string (ss.getD i ByteArray.empty))) (hsz : ∀ s ∈ ss, s.size ≤ maxLen) (hne : ∀ i, i < ss.length → (a.add i).block ≠ A) :
    Calls Try.prog 52 #[.pointer (some ⟨C, 0, none⟩), act rv rg rr ra, .slice (some a) ss.length cap] w fun e w' => Holds C A rv rg rr ra ss w e w' := by
  obtain ⟨l0, hl0⟩ := key88 ra h0 h1 h2
  have hA := hown.lt
  have hbA : Below A w (w.alloc (.cells #[.string rv, .string rg, .string rr, .bool ra] 88)) := (Below.refl _ _).alloc (Nat.le_of_lt hA) _
  have o1 := hown.alloc (.cells #[.string rv, .string rg, .string rr, .bool ra] 88)
  have la := look88_empty o1.drew hl0
  have lb := look88_empty (o1.alloc (.cells #[.bool false, .map none] 92)).drew hl0
  have hC : C < w.heap.size := Nat.lt_trans hCA hA
  have mk := mk90
  have hnil := fun (W : World) (r : Option Nat) => run_eql_nil_map (P := Try.prog) W 90 9 4 r Try.underlying90
  obtain ⟨n, hn⟩ : ∃ n, ss.length = n := ⟨_, rfl⟩
  have HC : Hid (∀ i, i < ss.length → w.cell? (a.add i) = some (.string (ss.getD i ByteArray.empty))) := hcell
  have HS : Hid (∀ s ∈ ss, s.size ≤ maxLen) := hsz
  have HB : Hid (∀ i, i < ss.length → (a.add i).block ≠ A) := hne
  have HN : Hid (ss.length = n) := hn
  rw [hn] at hs hl ⊢
  clear hn hcell hsz hne
  go_enter Try.func52, Try.ntmps52
  go_wp2
  go_cut [6] from 9 to 14 (fun p wx => p = .pointer (some ⟨w.heap.size + 1, 0, none⟩) ∧ (Hid (((w.alloc (.cells #[.string rv, .string rg, .string rr, .bool ra] 88)).alloc (.cells #[.bool false, .map none] 92)).drew = wx)))
  case first =>
    go_region
    all_goals (go_wp2_with fail; go_meet; case rel => exact ⟨rfl, rfl⟩)
  case rest =>
  obtain ⟨rfl, HW⟩ := hcut
  obtain rfl := HW.out
  clear HW la lb
  go_wp2_with fail
  have F := After.start (rv := rv) (rg := rg) (rr := rr) (ra := ra) hc hCA hown HC.out
  generalize (((w.alloc (.cells #[.string rv, .string rg, .string rr, .bool ra] 88)).alloc (.cells #[.bool false, .map (some (w.heap.size + 1 + 1))] 92)).alloc (.map #[] 0)).drew = W2 at F ⊢
  obtain ⟨W3, hu, o3, g3⟩ := (F.own.drew).update law88 Try.underlying70 (by unfold maxLen; omega) hl0 (hR_mk false (some (w.heap.size + 1 + 1)))
  have k1 := F.c1
  have k2 := F.a0
  have k3 := F.a1
  have k4 := F.a2
  have k5 := F.a3
  have k6 := F.h0
  have k7 := F.h1
  have hA2 := F.own.lt
  go_region
  all_goals clear k1 k2 k3 k4 k5 k6 k7 hu
  all_goals go_wp2_with fail
  all_goals
    have m3 : W3.ownsMap Try.prog 9 (plainElem (H := Unit) Try.prog 4) (w.heap.size + 1 + 1) 0 (setB []) := F.set.drew.kept g3 (fun e => by have := Option.some.inj e; omega)
    have hh3 : W3.cell? ⟨w.heap.size + 1, 1, none⟩ = some (.map (some (w.heap.size + 1 + 1))) := g3.cell F.h1 (fun e => by have := Option.some.inj e; simp at this; omega)
    have hc3 : W3.cell? ⟨C, 1, none⟩ = some (.map (some A)) := g3.cell F.c1 (fun e => by have := Option.some.inj e; simp at this; omega)
    have HC3 : Hid (∀ i, i < ss.length → W3.cell? (a.add i) = some (.string (ss.getD i ByteArray.empty))) := fun i hi => g3.cell (F.names i hi) (fun e => HB.out i hi (Option.some.inj e))
    have hb3 : Below A w W3 := F.bel.drew.grown g3 (Nat.le_of_lt hA2) (fun k hk => by cases hk; exact Nat.le_refl _)
    have hm3 := m3.lt
    clear F
    go_loopw [8, 44] (fun _ i wr => ∃ k : Nat, k ≤ n ∧ i = .int .i64 k ∧ wr.ownsMap Try.prog 9 (plainElem (H := Unit) Try.prog 4) (w.heap.size + 1 + 1) k (setB (ss.take k)) ∧ W3.grownBy wr (some (w.heap.size + 1 + 1))) (fun _ i _ => n - (intOf i).toNat)
    case atStart => exact ⟨0, Nat.zero_le _, rfl, by simpa using m3, World.grownBy_refl' _ _⟩
    case round =>
      obtain ⟨k, hk, rfl, mk, gk⟩ := hrel
      have hhk : wr.cell? ⟨w.heap.size + 1, 1, none⟩ = some (.map (some (w.heap.size + 1 + 1))) := gk.cell hh3 (fun e => by have := Option.some.inj e; simp at this)
      by_cases hkn : k < n
      · have hkl : k < ss.length := by have := HN.out; omega
        have hck : wr.cell? (a.add k) = some (.string (ss.getD k ByteArray.empty)) := gk.cell (HC3.out k hkl) (fun e => names_ne (HC.out k hkl) (Option.some.inj e))
        have hz := getD_size HS.out k hkl
        obtain ⟨s, hs'⟩ : ∃ s, ss.getD k ByteArray.empty = s := ⟨_, rfl⟩
        have hsk : ss[k]? = some s := by rw [← hs']; simp [List.getD, hkl]
        have HST : Hid (setB (ss.take (k + 1)) = (setB (ss.take k)).put (.string s.data.toList) (.lit (.bool true))) := setB_step hsk
        rw [hs'] at hck hz
        clear hs' hsk
        go_wp2_with (at_mapUpdate; refine wpList_mapUpdate_own _ rfl _ _ _ 90 rfl 9 4 law9 Try.underlying90 _ (w.heap.size + 1 + 1) k _ rfl mk (by unfold maxLen; omega) _ _ _ rfl rfl (keyOf_string_mk Try.underlying9 hz) _ [] (plainElem_bool Try.underlying4 true) ?_
                     intro w4 m4 g4; go_frame)
        go_roundw
        case rel => exact ⟨k + 1, by omega, by go_num, by rw [HST.out]; exact m4, gk.trans g4⟩
        case measure => simp [intOf]; omega
      · go_wp2
        go_end0
        obtain rfl : k = n := by omega
        have hns : ss.isEmpty = false := by
          cases hq : ss with
          | nil => have := HN.out; rw [hq] at this; simp at this; omega
          | cons x l => rfl
        have mk' : wr.ownsMap Try.prog 9 (plainElem (H := Unit) Try.prog 4) (w.heap.size + 1 + 1) k (setB ss) := by
          rw [List.take_of_length_le (by rw [HN.out]; exact Nat.le_refl _)] at mk
          exact mk
        have o5 : wr.ownsMap Try.prog 88 hR A (n0 + 1) ((DataW.map []).put l0 (hD ss.isEmpty (some (w.heap.size + 1 + 1)))) := by
          rw [hns]
          exact o3.kept gk (fun e => by have := Option.some.inj e; omega)
        exact ⟨rfl, ⟨some (w.heap.size + 1 + 1), gk.cell hc3 (fun e => by have := Option.some.inj e; simp at this; omega), ⟨_, l0, hl0, o5⟩, .inr ⟨_, k, hns, rfl, mk'⟩⟩, hb3.grown gk (Nat.le_trans (Nat.le_of_lt hA) (by omega)) (fun j hj => by cases hj; omega)⟩
end Go.Proofs.Qxb6606073a.W
