import Derived.Test.Qxb6001692aReg
namespace Go.Proofs.Qxb6001692a
open Go.ChangeShapes Go.WideShapes Go.ChangeAt Go.RowKit

theorem list20 : ∀ {l : List Int}, l.length = 20 → ∃ a0 a1 a2 a3 a4 a5 a6 a7 a8 a9 a10 a11 a12 a13 a14 a15 a16 a17 a18 a19, l = [a0, a1, a2, a3, a4, a5, a6, a7, a8, a9, a10, a11, a12, a13, a14, a15, a16, a17, a18, a19]
  | [a0, a1, a2, a3, a4, a5, a6, a7, a8, a9, a10, a11, a12, a13, a14, a15, a16, a17, a18, a19], _ => ⟨a0, a1, a2, a3, a4, a5, a6, a7, a8, a9, a10, a11, a12, a13, a14, a15, a16, a17, a18, a19, rfl⟩

/-- An identifier's cells, as a list; an interval's; a placement's, of which own and ownKnown are given; an incoming's, of which own is given. -/
def idl (xs : List Int) : List Value := xs.map (Value.int .u8)
theorem idl_length (xs : List Int) : (idl xs).length = xs.length := by simp [idl]
theorem idc_idl (xs : List Int) : idc xs = (idl xs).toArray := rfl
def iv (A U : List Int) : List Value := idl A ++ idl U
def plcHead : List Value := idl zeros ++ (.string ByteArray.empty :: idl zeros)
def plcTail (k : Bool) : List Value := .bool k :: (idl zeros ++ idl zeros ++ [.bool false, .slice none 0 0, .slice none 0 0, .bool false])
def plc (P Q : List Int) (k : Bool) : List Value := plcHead ++ (iv P Q ++ plcTail k)
def incHead : List Value := idl zeros ++ idl zeros
def incTail : List Value := [.bool false, .map none, .map none, .int .i64 0]
def inc (A U : List Int) : List Value := incHead ++ (iv A U ++ incTail)

theorem build56 {A U : List Int} (hA : A.length = 20) (hU : U.length = 20) (w : World) : (Instr.build 56 #[(0, .agg (idc A)), (1, .agg (idc U))]).run Try.prog w = .ok (.agg (iv A U).toArray) w := by
  obtain ⟨a0, a1, a2, a3, a4, a5, a6, a7, a8, a9, a10, a11, a12, a13, a14, a15, a16, a17, a18, a19, rfl⟩ := list20 hA
  obtain ⟨b0, b1, b2, b3, b4, b5, b6, b7, b8, b9, b10, b11, b12, b13, b14, b15, b16, b17, b18, b19, rfl⟩ := list20 hU
  kernel_rfl
theorem build58 {P Q : List Int} (hP : P.length = 20) (hQ : Q.length = 20) (k : Bool) (w : World) : (Instr.build 58 #[(3, .bool k), (2, .agg (iv P Q).toArray)]).run Try.prog w = .ok (.agg (plc P Q k).toArray) w := by
  obtain ⟨a0, a1, a2, a3, a4, a5, a6, a7, a8, a9, a10, a11, a12, a13, a14, a15, a16, a17, a18, a19, rfl⟩ := list20 hP
  obtain ⟨b0, b1, b2, b3, b4, b5, b6, b7, b8, b9, b10, b11, b12, b13, b14, b15, b16, b17, b18, b19, rfl⟩ := list20 hQ
  kernel_rfl
theorem build61 {A U : List Int} (hA : A.length = 20) (hU : U.length = 20) (w : World) : (Instr.build 61 #[(1, .agg (iv A U).toArray)]).run Try.prog w = .ok (.agg (inc A U).toArray) w := by
  obtain ⟨a0, a1, a2, a3, a4, a5, a6, a7, a8, a9, a10, a11, a12, a13, a14, a15, a16, a17, a18, a19, rfl⟩ := list20 hA
  obtain ⟨b0, b1, b2, b3, b4, b5, b6, b7, b8, b9, b10, b11, b12, b13, b14, b15, b16, b17, b18, b19, rfl⟩ := list20 hU
  kernel_rfl
/-! ### memory -/
theorem run_build {P : Program} {a : Act} {o : Oper} {w : World} {t : TypeId} {parts : Array (Nat × Operand)} {parts' : Array (Nat × Value)} {v : Value} (ho : o.op = .build t parts)
    (hp : parts.map (fun p => (p.1, a.eval p.2)) = parts') (hb : (Instr.build t parts').run P w = .ok v w) : (execOp a.eval o).run P w = .ok (.value v) w := by
  unfold execOp
  simp only [ho]
  rw [Sem.run_bind]
  have : (Instr.build t (parts.map fun (i, x) => (i, a.eval x))).run P w = .ok v w := by
    rw [← hb, ← hp]
  rw [this]
  rfl
theorem wpl_val {P : Program} {ops : Array Oper} {rest : List Oper} {o : Oper} {a : Act} {w : World} {Q : Exit → Act → World → Prop} (hgd : o.guard = none) (v : Value) (hr : (execOp a.eval o).run P w = .ok (.value v) w)
    (h : wpList P ops Q rest (a.put o.dst v) w) : wpList P ops Q (o :: rest) a w :=
  wpList_plain hgd fun _ hK => by unfold Oper.wp; rw [hr]; exact hK _ _ h

/-- Block g holds just these cells. -/
def Blk (w : World) (g : Nat) (l : List Value) : Prop := ∃ t, w.heap[g]? = some (.cells l.toArray t (0, 0))
theorem Blk.lt {w : World} {g : Nat} {l : List Value} (h : Blk w g l) : g < w.heap.size := by
  obtain ⟨t, h⟩ := h
  by_cases hg : g < w.heap.size
  · exact hg
  · simp [Array.getElem?_eq_none (Nat.le_of_not_lt hg)] at h
theorem Blk.via {w w' : World} {g : Nat} {l : List Value} (b : Below w.heap.size w w') (h : Blk w g l) : Blk w' g l := by
  have hl := h.lt
  obtain ⟨t, h⟩ := h
  exact ⟨t, (b.block g hl).trans h⟩
/-- A struct is laid into a new variable. -/
theorem wpl_boxL {P : Program} {t : TypeId} {ops : Array Oper} {rest : List Oper} {o : Oper} {a : Act} {w : World} {Q : Exit → Act → World → Prop} (hgd : o.guard = none) (x : Operand) (ho : o.op = .box t x)
    (l : List Value) (hx : a.eval x = .agg l.toArray)
    (h : ∀ (g : Nat) (w' : World), Blk w' g l → Below w.heap.size w w' → w.heap.size ≤ g → wpList P ops Q rest (a.put o.dst (.pointer (some ⟨g, 0, none⟩))) w') : wpList P ops Q (o :: rest) a w :=
  wpList_plain hgd fun _ hK => by
    have hh := hK _ _ (h w.heap.size (w.alloc (.cells l.toArray t)) ⟨t, heap_alloc_last w _⟩ ((Below.refl _ _).alloc (Nat.le_refl _) _) (Nat.le_refl _))
    unfold Oper.wp execOp
    simp only [ho]
    rw [hx]
    exact hh
/-- A part of a block. -/
theorem Blk.range {w : World} {g : Nat} {pre mid post : List Value} (h : Blk w g (pre ++ (mid ++ post))) : w.rangeAt g pre.length mid := by
  obtain ⟨t, h⟩ := h
  intro j v hv
  have hj : j < mid.length := (List.getElem?_eq_some_iff.1 hv).1
  rw [cell_of_row w g _ _ t _ h, List.getElem?_toArray, List.getElem?_append_right (by omega), List.getElem?_append_left (by omega), ← hv]
  congr 1; omega
theorem Blk.cellAt {w : World} {g : Nat} {l : List Value} {v : Value} (h : Blk w g l) (i : Nat) (hv : l[i]? = some v) : w.cell? ⟨g, i, none⟩ = some v := by
  obtain ⟨t, h⟩ := h
  rw [cell_of_row w g _ _ t _ h, List.getElem?_toArray, hv]
theorem run_load26_mid {a : Act} {o : Oper} {w : World} (x : Operand) (ho : o.op = .load 26 x) (g off : Nat) (hx : a.eval x = .pointer (some ⟨g, off, none⟩)) (xs : List Int) (hi : Id20 xs) (hg : w.rangeAt g off (idl xs)) :
    (execOp a.eval o).run Try.prog w = .ok (.value (.agg (idc xs))) w := by
  unfold execOp
  simp only [ho]
  rw [hx]
  simp only [Sem.run_bind, run_loadAt_mid w g off 26 (idl xs) _ hg Try.underlying26 rfl (by rw [idl_length, hi.1]; exact size26), Result.andThen_ok]
  rfl
theorem plc_after {w : World} {g : Nat} {P Q : List Int} {k : Bool} (h : Blk w g (plc P Q k)) : w.rangeAt g 41 (idl P) := by
  have : plc P Q k = plcHead ++ (idl P ++ (idl Q ++ plcTail k)) := by simp [plc, iv]
  rw [this] at h
  exact h.range
theorem plc_known {w : World} {g : Nat} {P Q : List Int} {k : Bool} (hP : P.length = 20) (hQ : Q.length = 20) (h : Blk w g (plc P Q k)) : w.cell? ⟨g, 81, none⟩ = some (.bool k) := by
  refine h.cellAt 81 ?_
  have h1 : plcHead.length = 41 := rfl
  have h2 : (iv P Q).length = 40 := by simp [iv, idl_length, hP, hQ]
  rw [plc, List.getElem?_append_right (by omega), List.getElem?_append_right (by omega), h1, h2]
  rfl
theorem inc_after {w : World} {g : Nat} {A U : List Int} (h : Blk w g (inc A U)) : w.rangeAt g 40 (idl A) := by
  have : inc A U = incHead ++ (idl A ++ (idl U ++ incTail)) := by simp [inc, iv]
  rw [this] at h
  exact h.range
theorem inc_upTo {w : World} {g : Nat} {A U : List Int} (hA : A.length = 20) (h : Blk w g (inc A U)) : w.rangeAt g 60 (idl U) := by
  have : inc A U = (incHead ++ idl A) ++ (idl U ++ incTail) := by simp [inc, iv]
  rw [this] at h
  have := h.range
  have h1 : (incHead ++ idl A).length = 60 := by
    have : incHead.length = 40 := rfl
    simp [idl_length, hA, this]
  rwa [h1] at this

/-! ### the addresses of fields -/
theorem fa58_3 (g : Nat) (w : World) : (Instr.fieldAt 58 (.pointer (some ⟨g, 0, none⟩)) 3).run Try.prog w = .ok (.pointer (some ⟨g, 81, none⟩)) w := by kernel_rfl
theorem fa58_2 (g : Nat) (w : World) : (Instr.fieldAt 58 (.pointer (some ⟨g, 0, none⟩)) 2).run Try.prog w = .ok (.pointer (some ⟨g, 41, none⟩)) w := by kernel_rfl
theorem fa61_1 (g : Nat) (w : World) : (Instr.fieldAt 61 (.pointer (some ⟨g, 0, none⟩)) 1).run Try.prog w = .ok (.pointer (some ⟨g, 40, none⟩)) w := by kernel_rfl
theorem fa56_0 (g o : Nat) (w : World) : (Instr.fieldAt 56 (.pointer (some ⟨g, o, none⟩)) 0).run Try.prog w = .ok (.pointer (some ⟨g, o, none⟩)) w := by kernel_rfl
theorem fa56_1 (g o : Nat) (w : World) : (Instr.fieldAt 56 (.pointer (some ⟨g, o, none⟩)) 1).run Try.prog w = .ok (.pointer (some ⟨g, o + 20, none⟩)) w := by kernel_rfl
theorem run_fieldAddr {P : Program} {a : Act} {o : Oper} {w : World} {t : TypeId} {x : Operand} {n : Nat} {u v : Value} (ho : o.op = .fieldAddr t x n) (hx : a.eval x = u)
    (hb : (Instr.fieldAt t u n).run P w = .ok v w) : (execOp a.eval o).run P w = .ok (.value v) w := by
  unfold execOp
  simp only [ho]
  rw [hx, Sem.run_bind, hb]
  rfl
theorem run_load4 {a : Act} {o : Oper} {w : World} {x : Operand} {b : Addr} {v : Value} (ho : o.op = .load 4 x) (hx : a.eval x = .pointer (some b)) (hc : w.cell? b = some v) : (execOp a.eval o).run Try.prog w = .ok (.value v) w := by
  have hag : (isAgg 4).run Try.prog w = .ok false w := by
    unfold isAgg
    rw [Sem.run_bind, run_underlying Try.underlying4 w]
    rfl
  unfold execOp
  simp only [ho]
  rw [hx]
  simp [Instr.loadAt, Instr.sureAddr, loadVar, hag, hc]
theorem run_nilEq_some {a : Act} {o : Oper} {w : World} {x : Operand} {g : Nat} {t' : TypeId} (ho : o.op = .binOp .eql 53 x (.const (.pointer none)) t') (hx : a.eval x = .pointer (some ⟨g, 0, none⟩)) : (execOp a.eval o).run Try.prog w = .ok (.value (.bool false)) w := by
  have : (do eqGuard .eql 53 x (.const (.pointer none)) (.pointer (some ⟨g, 0, none⟩)) (.pointer none); binOp .eql 53 (.pointer (some ⟨g, 0, none⟩)) (.pointer none) : Sem Value).run Try.prog w = .ok (.bool false) w := by kernel_rfl
  unfold execOp
  simp only [ho]
  rw [hx, Sem.run_bind]
  show (Sem.run Try.prog (do eqGuard .eql 53 x (.const (.pointer none)) (.pointer (some ⟨g, 0, none⟩)) (.pointer none); binOp .eql 53 (.pointer (some ⟨g, 0, none⟩)) (.pointer none)) w).andThen _ = _
  rw [this]
  rfl
theorem run_nilEq_none {a : Act} {o : Oper} {w : World} {x : Operand} {t' : TypeId} (ho : o.op = .binOp .eql 53 x (.const (.pointer none)) t') (hx : a.eval x = .pointer none) : (execOp a.eval o).run Try.prog w = .ok (.value (.bool true)) w := by
  have : (do eqGuard .eql 53 x (.const (.pointer none)) (.pointer none) (.pointer none); binOp .eql 53 (.pointer none) (.pointer none) : Sem Value).run Try.prog w = .ok (.bool true) w := by kernel_rfl
  unfold execOp
  simp only [ho]
  rw [hx, Sem.run_bind]
  show (Sem.run Try.prog (do eqGuard .eql 53 x (.const (.pointer none)) (.pointer none) (.pointer none); binOp .eql 53 (.pointer none) (.pointer none)) w).andThen _ = _
  rw [this]
  rfl
end Go.Proofs.Qxb6001692a
