/- strings.Builder as the road comes to it: copyCheck, WriteString, WriteByte, walked at this program's own text. -/
import Derived.Test.Qxb6618659aRows
import Derived.WalkKit
import Derived.WalkSpells
import Derived.WalkLawsBesides
import Derived.Lib.Builder
import Derived.Lib.AppendStr
import Derived.Lib.OthersKept
import Derived.Shelf.Strings.Builder1
namespace Go.Proofs.Qxb6618659a
open Go.RowKit
set_option linter.unusedVariables false

theorem Try.info5 : (Try.prog.info? 5).map (fun i => (i.zero, i.size, i.bytes)) = some (some (.int .u8 0), 1, 1) := by kernel_rfl
theorem Try.size49 : (Try.prog.info? 49).map (·.size) = some 2 := by kernel_rfl
theorem Try.lies49 : liesAt Try.prog Try.prog.depth 49 (2 / Try.prog.cellsOf 49) 0 49 1 = true := by kernel_rfl

/-- A builder in its own block b, holding the bytes l. -/
def Bd (b : Nat) (l : List UInt8) (w : World) : Prop := Lib.IsBuilder 49 5 b b (Lib.byteCells l) w

/- A pointer turned to a raw one and back, where a variable of the pointer's own type lies: the address as it is. -/
theorem bind_raw {α β : Type} (x : Sem α) (f : α → Sem β) : Sem.bind x f = x >>= f := rfl
theorem run_prog {α : Type} (P : Program) (k : Program → Sem α) (w : World) : Sem.run P (Sem.program k) w = Sem.run P (k P) w := rfl
theorem to_raw {P : Program} {src dst t : TypeId} (hs : P.underlying src = some (.pointer t)) (hd : P.underlying dst = Try.prog.underlying 61) (w : World) (b : Nat) (j : TypeInfo) (hj : P.info? t = some j) (hjs : j.size ≠ 0) (hsh : w.shape? b = some (t, 2)) :
   (convert src dst (.pointer (some ⟨b, 0, none⟩))).run P w = .ok (.pointer (some ⟨b, 0, none⟩)) w := by
  rw [Try.underlying61] at hd
  simp [convert, run_underlying hs, run_underlying hd]
  conv => lhs; arg 2; whnf
  simp [run_prog, bind_raw, hs, run_underlying hd, Conv.seenAt, viewAt, cellsIn, hsh, sizeOf, typeInfo, hj, hjs]
theorem from_raw {P : Program} {src dst u : TypeId} (hs : P.underlying src = Try.prog.underlying 61) (hd : P.underlying dst = some (.pointer u)) (w : World) (b : Nat) (j : TypeInfo) (hu : P.info? u = some j) (hsh : w.shape? b = some (u, 2)) (hlies : liesAt P P.depth u (2 / P.cellsOf u) 0 u 1 = true) :
   (convert src dst (.pointer (some ⟨b, 0, none⟩))).run P w = .ok (.pointer (some ⟨b, 0, none⟩)) w := by
  rw [Try.underlying61] at hs
  simp [convert, run_underlying hs, run_underlying hd]
  conv => lhs; arg 2; whnf
  simp [run_prog, bind_raw, hs, run_underlying hd, Conv.seenAt, viewAt, variablesAt, hlies, hsh, sizeOf, typeInfo, hu]

set_option maxHeartbeats 1000000 in
theorem check_fresh (b : Nat) (w : World) (h0 : w.cell? ⟨b, 0, none⟩ = some (.pointer none)) (hsh : w.shape? b = some (49, 2)) (hfz : w.frozen? ⟨b, 0, none⟩ = false) :
    Calls Try.prog 17 #[.pointer (some ⟨b, 0, none⟩)] w fun e w' => e = .returned (.tuple #[]) ∧ w' = w.setCell ⟨b, 0, none⟩ (.pointer (some ⟨b, 0, none⟩)) := by
  obtain ⟨j, hj, hjs⟩ := Option.map_eq_some_iff.1 Try.size49
  have hj0 : j.size ≠ 0 := by rw [hjs]; decide
  have q1 := to_raw (P := Try.prog) (src := 46) (dst := 61) (t := 49) Try.underlying46 (Try.underlying61.trans Try.underlying61.symm) w b j hj hj0 hsh
  have q2 := from_raw (P := Try.prog) (src := 61) (dst := 46) (u := 49) (Try.underlying61.trans Try.underlying61.symm) Try.underlying46 w b j hj hsh Try.lies49
  go_enter Try.func17, Try.ntmps17
  go_wp2
  rw [run_callFunc_extern Try.func18 (by kernel_rfl) (by kernel_rfl) (by kernel_rfl) (e := Extern.AbiNoEscape.same) (by kernel_rfl), Lib.run_noEscape]
  simp only [Result.andThen]
  rw [Oper.upon_value]
  go_wp2
  go_end0
  exact ⟨rfl, rfl⟩

set_option maxHeartbeats 1000000 in
theorem check_used (b : Nat) (w : World) (h0 : w.cell? ⟨b, 0, none⟩ = some (.pointer (some ⟨b, 0, none⟩))) :
    Calls Try.prog 17 #[.pointer (some ⟨b, 0, none⟩)] w fun e w' => e = .returned (.tuple #[]) ∧ w' = w := by
  obtain ⟨j, hj, hjs⟩ := Option.map_eq_some_iff.1 Try.size49
  have q1 : ∀ w, (binOp .neq 46 (.pointer (some ⟨b, 0, none⟩)) (.pointer (some ⟨b, 0, none⟩))).run Try.prog w = .ok (.bool false) w := fun w => Lib.run_neq_ptr_same w ⟨b, 0, none⟩ Try.underlying46 hj
  go_enter Try.func17, Try.ntmps17
  go_wp2
  go_end0
  exact ⟨rfl, rfl⟩

theorem check_any (b : Nat) (l : List UInt8) (w : World) (h : Bd b l w) :
    Calls Try.prog 17 #[.pointer (some ⟨b, 0, none⟩)] w fun e w' => e = .returned (.tuple #[]) ∧ Lib.BuilderAt 49 5 b b (.pointer (some ⟨b, 0, none⟩)) (Lib.byteCells l) w' ∧ Below b w w' ∧ Lib.OthersKept 5 (some b) w w' := by
  rcases h with h | h
  · refine (check_fresh b w h.cell0 h.shape h.frozen0).mono ?_
    rintro e w' ⟨rfl, rfl⟩
    exact ⟨rfl, h.used _, (Below.refl b w).setCell (p := ⟨b, 0, none⟩) (Nat.le_refl _) _, (Lib.OthersKept.refl _ _ w).setCell ⟨b, 0, none⟩ rfl _⟩
  · refine (check_used b w h.cell0).mono ?_
    rintro e w' ⟨rfl, rfl⟩
    exact ⟨rfl, h, Below.refl b _, Lib.OthersKept.refl _ _ _⟩

theorem own_kind {w : World} {B : Nat} {v : Value} {n : Nat} {xs : List Value} (h : w.ownsRow B 5 1 v n xs) : ∀ g, v.ownBlock = some g → ∃ c fz, w.heap[g]? = some (.cells c 5 fz) := by
  intro g hg
  rcases h.2 with ⟨rfl, _⟩ | ⟨g', cap, cur, rfl, _, hh, _⟩
  · simp [Value.ownBlock] at hg
  · simp only [Value.ownBlock, Option.some.injEq] at hg
    subst hg
    exact ⟨_, _, hh⟩

set_option maxHeartbeats 1000000 in
set_option maxRecDepth 100000 in
theorem writeString_any (b : Nat) (l : List UInt8) (s : ByteArray) (w : World) (h : Bd b l w) (hlen : l.length + s.size ≤ 140737488355328) :
    Calls Try.prog 15 #[.pointer (some ⟨b, 0, none⟩), .string s] w fun e w' => e = .returned (.tuple #[.int .i64 s.size, .nilIface]) ∧ Bd b (l ++ s.data.toList) w' ∧ Below b w w' ∧ Lib.OthersKept 5 (some b) w w' := by
  obtain ⟨i0, hi, hz0, hz1, hz2⟩ := info_parts Try.info5
  have hbl : (Lib.byteCells l).length = l.length := Lib.byteCells_length l
  go_enter Try.func15, Try.ntmps15
  go_wp2_with (go_at_call 17; refine (check_any b l _ h).mono ?_)
  rintro e w1 ⟨rfl, h1, hb1, hk1⟩
  obtain ⟨hB, v, hbk, hown, hne⟩ := h1
  have c1 : w1.cell? ⟨b, 1, none⟩ = some v := by rw [Lib.cell_of_heap hbk]; rfl
  have hbw : b < w1.heap.size := lt_of_block hbk
  go_wp2_with (at_builtin; refine Lib.wpList_append_own_string _ rfl _ _ 47 9 rfl b 5 i0 Try.underlying47 Try.underlying9 hi hz0 hz1 hz2 _ _ _ rfl hown s rfl ?c3 ?c4 ?c5 ?_)
  case c3 => rw [hbl]; unfold maxLen; omega
  case c4 => rw [hbl]; omega
  case c5 => omega
  intro v' w2 hown' hgrow _
  have hb2 : w2.heap[b]? = some (.cells #[.pointer (some ⟨b, 0, none⟩), v] 49 (0, 0)) := by
    rw [hgrow.block b hbw (fun e => hne e.symm)]
    exact hbk
  have d1 : w2.cell? ⟨b, 1, none⟩ = some v := by rw [Lib.cell_of_heap hb2]; rfl
  have f1 : w2.frozen? ⟨b, 1, none⟩ = false := Lib.frozen_of_heap hb2 1
  obtain ⟨ao, n', cap, hv⟩ : ∃ ao n' cap, v' = .slice ao n' cap := by
    rcases hown'.2 with ⟨hv, _⟩ | ⟨g, cap, cur, hv, _⟩
    · exact ⟨_, _, _, hv⟩
    · exact ⟨_, _, _, hv⟩
  rw [hv]
  rw [hv] at hown'
  go_wp2
  go_ret2
  refine ⟨rfl, ?_, ?_, (hk1.grown hgrow (own_kind hown)).setCell ⟨b, 1, none⟩ rfl _⟩
  · refine Or.inr (Lib.BuilderAt.put (T := 49) (e := 5) hB hb2 (bs' := Lib.byteCells (l ++ s.data.toList)) ?_ (by decide))
    rw [Lib.byteCells_append, ← Lib.strCells_eq]
    simpa [Lib.strCells_length, Lib.byteCells_length] using hown'
  · exact (hb1.grown hgrow (by omega) (fun k hk => (hown.lt k hk).1)).setCell (p := ⟨b, 1, none⟩) hB _

set_option maxHeartbeats 1000000 in
set_option maxRecDepth 100000 in
theorem writeByte_any (b : Nat) (l : List UInt8) (c : UInt8) (w : World) (h : Bd b l w) (hlen : l.length + 1 ≤ 140737488355328) :
    Calls Try.prog 16 #[.pointer (some ⟨b, 0, none⟩), .int .u8 c.toNat] w fun e w' => e = .returned .nilIface ∧ Bd b (l ++ [c]) w' ∧ Below b w w' ∧ Lib.OthersKept 5 (some b) w w' := by
  obtain ⟨i0, hi, hz0, hz1, hz2⟩ := info_parts Try.info5
  have hbl : (Lib.byteCells l).length = l.length := Lib.byteCells_length l
  go_enter Try.func16, Try.ntmps16
  go_wp2_with (go_at_call 17; refine (check_any b l _ h).mono ?_)
  rintro e w1 ⟨rfl, h1, hb1, hk1⟩
  obtain ⟨hB, v, hbk, hown, hne⟩ := h1
  have c1 : w1.cell? ⟨b, 1, none⟩ = some v := by rw [Lib.cell_of_heap hbk]; rfl
  have hbw : b < w1.heap.size := lt_of_block hbk
  go_wp2_with (at_builtin; refine wpList_append_own _ rfl _ _ 47 rfl b 5 i0 (.int .u8 0) 1 1 Try.underlying47 hi hz0 hz1 hz2 rfl (by decide) _ _ _ rfl (hown.alloc _) ⟨w1.heap.size, 0, none⟩ 1 1 [.int .u8 c.toNat] rfl rfl ?c1 ?c2 ?c3 ?c4 ?c5 ?_)
  case c1 =>
    intro j u hj
    match j, hj with
    | 0, hj => simp at hj; subst hj; simp [Addr.add]
  case c2 => intro u hu; simp at hu; subst hu; rfl
  case c3 => rw [hbl]; unfold maxLen; omega
  case c4 => rw [hbl]; omega
  case c5 => simp; omega
  intro v' w2 hown' hgrow _
  have hb2 : w2.heap[b]? = some (.cells #[.pointer (some ⟨b, 0, none⟩), v] 49 (0, 0)) := by
    rw [hgrow.block b (by simp; omega) (fun e => hne e.symm), Lib.alloc_old w1 _ b hbw]
    exact hbk
  have d1 : w2.cell? ⟨b, 1, none⟩ = some v := by rw [Lib.cell_of_heap hb2]; rfl
  have f1 : w2.frozen? ⟨b, 1, none⟩ = false := Lib.frozen_of_heap hb2 1
  obtain ⟨ao, n', cap, hv⟩ : ∃ ao n' cap, v' = .slice ao n' cap := by
    rcases hown'.2 with ⟨hv, _⟩ | ⟨g, cap, cur, hv, _⟩
    · exact ⟨_, _, _, hv⟩
    · exact ⟨_, _, _, hv⟩
  rw [hv]
  rw [hv] at hown'
  go_wp2
  go_ret
  refine ⟨rfl, ?_, ?_, ((hk1.alloc _).grown hgrow (own_kind (hown.alloc _))).setCell ⟨b, 1, none⟩ rfl _⟩
  · refine Or.inr (Lib.BuilderAt.put (T := 49) (e := 5) hB hb2 (bs' := Lib.byteCells (l ++ [c])) ?_ (by decide))
    rw [Lib.byteCells_append]
    simpa [Lib.byteCells] using hown'
  · exact ((hb1.alloc (by omega) _).grown hgrow (by simp; omega) (fun k hk => (hown.lt k hk).1)).setCell (p := ⟨b, 1, none⟩) hB _

/- What the kit's tool lays of its contract for (*Builder).String at this program, in plain words. -/
def Try.lays169_ren : Shelf.Ren := ⟨fun | 169 => 14 | n => n, fun | 70 => 46 | 9 => 9 | 0 => 0 | 72 => 49 | 37 => 47 | 127 => 60 | 3 => 3 | 5 => 5 | n => n, fun | n => n⟩
theorem Try.lays169 : Lays.n169 Try.prog Try.lays169_ren := {
  mixed := by kernel_rfl
  f169 := Try.func14.trans (congrArg some (by kernel_rfl))
  t0 := Try.underlying0
  a0 := Try.isAgg0
  z0 := Try.sizeOf0
  v0 := Try.zeroValue0
  t3 := Try.underlying3
  a3 := Try.isAgg3
  z3 := Try.sizeOf3
  v3 := Try.zeroValue3
  t9 := Try.underlying9
  a9 := Try.isAgg9
  z9 := Try.sizeOf9
  v9 := Try.zeroValue9
  t37 := Try.underlying47
  a37 := Try.isAgg47
  z37 := Try.sizeOf47
  v37 := Try.zeroValue47
  t70 := Try.underlying46
  a70 := Try.isAgg46
  z70 := Try.sizeOf46
  v70 := Try.zeroValue46
  t72 := Try.underlying49
  a72 := Try.isAgg49
  z72 := Try.sizeOf49
  v72 := Try.zeroValue49
  t127 := Try.underlying60
  a127 := Try.isAgg60
  z127 := Try.sizeOf60
  v127 := Try.zeroValue60 }
theorem Try.Builder_Extra_169 : Builder.Extra Try.prog Try.lays169_ren := {
  sizeBuilder := by kernel_rfl
  liesBuilder := by kernel_rfl
  t5 := Try.underlying5
  a5 := Try.isAgg5
  z5 := Try.sizeOf5
  v5 := Try.zeroValue5
  infoByte := by kernel_rfl
  cellsByte := by kernel_rfl
  sizeByte := by kernel_rfl
  neB5 := by decide }

theorem string_any (b : Nat) (l : List UInt8) (w : World) (h : Bd b l w) :
    Calls Try.prog 14 #[.pointer (some ⟨b, 0, none⟩)] w fun e w' => e = .returned (.string ⟨l.toArray⟩) ∧ Below b w w' :=
  Any.Builder_String_any Try.lays169 Try.Builder_Extra_169 b b l w h (by rcases h with h | h <;> exact Nat.le_of_lt h.lt)

end Go.Proofs.Qxb6618659a
