/-
  '(*strings.Reader).Read', '(*bufio.Reader).fill' and what they stand on.
-/
import Derived.Test.Qxb6616519aFmtBase
import Derived.Deep.RegionWith
import Derived.Deep.RegionLaw
import Derived.WalkSpells
import Derived.Laws.IdiomStrings
namespace Go.Proofs.Qxb6616519aFmt
set_option linter.unusedVariables false
open Go.RowKit
/-- 'copy' as one step of a region that draws its order: by an equation on its run. -/
theorem step_copy_run {P : Program} {ops : Array Oper} {o : Oper} {a : Act} {w : World} {K : Act → World → Prop} {Q : Exit → Act → World → Prop} {E : Prop} (hgd : o.guard = none) (d s : Operand) (dT sT : TypeId)
    (ho : o.op = .call { callee := .builtin .copy, args := #[d, s], argTypes := #[dT, sT] }) (x y : Value) (hd : a.eval d = x) (hs : a.eval s = y) (v : Value) (w' : World)
    (hrun : (Builtin.copy_ #[dT, sT] o.type #[x, y]).run P w = .ok v w') (h : K (a.put o.dst v) w') :
    if Region.wanted o (yielded ops a.tmps) = true then Oper.wp P o a w K Q else E := by
  have hw : Region.wanted o (yielded ops a.tmps) = true := by simp [Region.wanted, hgd]
  rw [if_pos hw]
  unfold Oper.wp
  simp [execOp, ho, resolve, invoke, builtin, hd, hs, hrun, Result.andThen]
  exact h
theorem Tryf.size5 : (Tryf.prog.info? 5).map (·.size) = some 1 := by kernel_rfl
theorem run_copy_str (w : World) (dT sT ty elem : TypeId) (g o dLen dCap : Nat) (s : ByteArray) (cur : Array Value) (t : TypeId) (P : Program)
    (hu : P.underlying dT = some (.slice elem)) (hs : (P.info? elem).map (·.size) = some 1) (hg : w.heap[g]? = some (.cells cur t (0, 0))) (hfit : o + min s.size dLen ≤ cur.size) :
    (Builtin.copy_ #[dT, sT] ty #[.slice (some ⟨g, o, none⟩) dLen dCap, .string s]).run P w =
      .ok (goInt ((min s.size dLen : Nat) : Int)) (w.setRow g (cur.toList.take o ++ bytesV (s.data.toList.take (min s.size dLen)) ++ cur.toList.drop (o + min s.size dLen)).toArray) := by
  have hsz : s.size = s.data.toList.length := by rw [Array.length_toList]; rfl
  have hlen : (bytesV (s.data.toList.take (min s.size dLen))).length = min s.size dLen := by rw [bytesV_length, List.length_take]; omega
  have hst := run_storeCells_at P g o t (bytesV (s.data.toList.take (min s.size dLen))) 0 cur w hg (by rw [hlen]; simpa using hfit) (bytesV_one _)
  rw [hlen] at hst
  simp only [Nat.add_zero] at hst
  have htk : List.take (Nat.min s.size dLen) (List.map (fun b : UInt8 => Value.int IntKind.u8 (b.toNat : Int)) s.data.toList) = bytesV (s.data.toList.take (min s.size dLen)) := by
    rw [← List.map_take]; rfl
  cases hq : P.info? elem with
  | none => simp [hq] at hs
  | some i =>
    simp [Builtin.copy_, run_underlying hu, Builtin.lenOf, Builtin.firstCells, sizeOf, typeInfo, hq]
    rw [htk, hst]
    simp only [Result.andThen]
    congr 2
    rw [List.append_assoc]
/-- A strings.Reader in block S: the text T, p bytes of which are read. -/
def StrAt (S : Nat) (T : ByteArray) (p : Nat) (w : World) : Prop := ∃ pr : Int, w.heap[S]? = some (.cells #[.string T, .int .i64 p, .int .i64 pr] 52 (0, 0))
set_option maxHeartbeats 4000000 in
set_option maxRecDepth 100000 in
theorem read_some (S K o n cap p m : Nat) (T : ByteArray) (kc : Array Value) (w : World) (hS : StrAt S T p w) (hK : w.heap[K]? = some (.cells kc 5 (0, 0))) (hSK : S ≠ K) (ho : o + n ≤ kc.size) (hn : n ≤ 1073741824) (hp : p < T.size) (hT : T.size ≤ 1073741824) (hm : m = min (T.size - p) n) :
    Calls Tryf.prog 53 #[.pointer (some ⟨S, 0, none⟩), .slice (some ⟨K, o, none⟩) n cap] w fun e w' => e = .returned (.tuple #[.int .i64 m, .nilIface]) ∧
      StrAt S T (p + m) w' ∧ w'.heap[K]? = some (.cells (kc.toList.take o ++ bytesV ((T.data.toList.drop p).take m) ++ kc.toList.drop (o + m)).toArray 5 (0, 0)) ∧ Kept [S, K] w w' := by
  obtain ⟨pr, hS⟩ := hS
  have c0 : w.cell? ⟨S, 0, none⟩ = some (.string T) := by rw [cell_at hS]; rfl
  have c1 : w.cell? ⟨S, 1, none⟩ = some (.int .i64 p) := by rw [cell_at hS]; rfl
  have c2 : w.cell? ⟨S, 2, none⟩ = some (.int .i64 pr) := by rw [cell_at hS]; rfl
  have f1 := frozen_at hS 1
  have f2 := frozen_at hS 2
  have CPX : Hid (∀ nq, ∃ W2, (Builtin.copy_ #[26, 9] 3 #[.slice (some ⟨K, o, none⟩) n cap, .string (T.extract p T.size)]).run Tryf.prog (((w.drewN nq).setCell ⟨S, 2, none⟩ (.int .i64 (-1))).drew) = .ok (goInt m) W2 ∧
      W2.heap[S]? = some (.cells #[.string T, .int .i64 p, .int .i64 (-1)] 52 (0, 0)) ∧ W2.heap[K]? = some (.cells (kc.toList.take o ++ bytesV ((T.data.toList.drop p).take m) ++ kc.toList.drop (o + m)).toArray 5 (0, 0)) ∧ Kept [S, K] w W2) := by
    intro nq
    have hKs : (w.setCell ⟨S, 2, none⟩ (.int .i64 (-1))).heap[K]? = some (.cells kc 5 (0, 0)) := by rw [Below.heap_setCell _ _ _ _ (fun e => hSK e.symm)]; exact hK
    have hxs : (T.extract p T.size).size = T.size - p := by simp
    have h := run_copy_str (((w.drewN nq).setCell ⟨S, 2, none⟩ (.int .i64 (-1))).drew) 26 9 3 5 K o n cap (T.extract p T.size) kc 5 Tryf.prog Tryf.underlying26 Tryf.size5 hKs (by rw [hxs]; omega)
    rw [hxs, ← hm, show (T.extract p T.size).data.toList.take m = (T.data.toList.drop p).take m by
      rw [ByteArray.data_extract, Array.toList_extract, List.extract_eq_take_drop, List.take_take, Nat.min_eq_left (by omega)]] at h
    refine ⟨_, h, ?_, ?_, ?_⟩
    · rw [setRow_other _ _ _ _ hSK]
      show (w.setCell ⟨S, 2, none⟩ (.int .i64 (-1))).heap[S]? = _
      have := heap_set hS 2 (.int .i64 (-1))
      simpa using this
    · exact setRow_heap _ _ _ _ _ _ hKs
    · exact (((((Kept.refl [S, K] w).drewN nq).setCell ⟨S, 2, none⟩ (by simp) _).drew).setRow K (by simp) _)
  clear hS hK
  have hlt : decide ((T.size : Int) ≤ (p : Int)) = false := by simp; omega
  have hle : (p : Int) ≤ (T.size : Int) := by omega
  have hm2 : m ≤ 1073741824 := by omega
  clear hm
  go_enter Tryf.func53, Tryf.ntmps53
  go_wp2_with fail
  go_quiet (fail)
  go_wp2_with fail
  obtain ⟨W2, hr, hS2, hK2, hk2⟩ := CPX.out nq
  have d1 : W2.cell? ⟨S, 1, none⟩ = some (.int .i64 p) := by rw [cell_at hS2]; rfl
  have g1 := frozen_at hS2 1
  have HS2 := hide hS2
  have HK2 := hide hK2
  have Hk2 := hide hk2
  have HR := hide hr
  clear hS2 hK2 hk2 hr
  go_region_law (refine step_copy_run rfl (.tmp 20) (.tmp 29) 26 9 rfl _ _ rfl rfl _ _ HR.out ?_)
  all_goals
    go_wp2
    go_ret2
    refine ⟨rfl, ⟨-1, ?_⟩, ?_, Hk2.out.setCell ⟨S, 1, none⟩ (by simp) _⟩
    · have := heap_set HS2.out 1 (.int .i64 ((p + m : Nat) : Int))
      simpa using this
    · rw [Below.heap_setCell _ _ _ _ (fun e => hSK e.symm)]; exact HK2.out
set_option maxHeartbeats 4000000 in
set_option maxRecDepth 100000 in
theorem read_eof (S : Nat) (v ev : Value) (T : ByteArray) (w : World) (hS : StrAt S T T.size w) (hT : T.size ≤ 1073741824) (hE : w.cell? ⟨1, 0, none⟩ = some ev) (hev : ∃ t a, ev = .iface t (.pointer (some a))) :
    Calls Tryf.prog 53 #[.pointer (some ⟨S, 0, none⟩), v] w fun e w' => e = .returned (.tuple #[.int .i64 0, ev]) ∧ ∃ k, w' = w.drewN k := by
  obtain ⟨pr, hS⟩ := hS
  obtain ⟨t, a, rfl⟩ := hev
  have c0 : w.cell? ⟨S, 0, none⟩ = some (.string T) := by rw [cell_at hS]; rfl
  have c1 : w.cell? ⟨S, 1, none⟩ = some (.int .i64 T.size) := by rw [cell_at hS]; rfl
  clear hS
  have hlt : decide ((T.size : Int) ≤ (T.size : Int)) = true := by simp
  go_enter Tryf.func53, Tryf.ntmps53
  go_wp2_with fail
  go_quiet (fail)
  go_wp2_with fail
  go_quiet (fail)
  go_wp2
  go_ret2
  exact ⟨rfl, _, World.drewN_drewN _ _ _⟩
end Go.Proofs.Qxb6616519aFmt
