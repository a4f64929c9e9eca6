/- FnPacked: what the row lays is what the program's initialisers lay (tie_own). No condition. -/
import Derived.Test.YtiggidfngfkanaaGreatDoorRows
import Derived.LaidByTextLater
import Derived.SevenTiedAt
import Derived.LaidOnce
import Derived.Calls
namespace Go.Proofs.YtiggidfngfkanaaGreatDoor.Tied
open Go
set_option maxRecDepth 100000
set_option linter.all false
abbrev tieL : List (String × DataW Unit) := Rows.fnPackedRow.laid
abbrev tieK : List LaidKind := [.data, .data, .sentinel, .sentinel, .sentinel, .data, .data, .data, .data, .data]
def seqOk : Nat → List (Nat × Value) → Bool
  | _, [] => true
  | n, (i, .int _ _) :: r => Nat.beq i n && seqOk (n + 1) r
  | _, _ => false
theorem fill_seq : ∀ (ps : List (Nat × Value)) (n : Nat) (pre suf : List Value), seqOk n ps = true → pre.length = n → suf.length = ps.length →
    Instr.fill (fun i => some (i * 1, 1)) (pre ++ suf).toArray ps = some (pre ++ ps.map (·.2)).toArray
  | [], n, pre, suf, _, _, hs => by
    have : suf = [] := List.eq_nil_of_length_eq_zero hs
    subst this; rfl
  | (i, v) :: r, n, pre, suf, h, hp, hs => by
    cases v with
    | int k z =>
      simp only [seqOk, Bool.and_eq_true] at h
      have hi : i = n := Nat.eq_of_beq_eq_true h.1
      cases suf with
      | nil => simp at hs
      | cons x suf =>
        subst hi
        have ih := fill_seq r (i + 1) (pre ++ [.int k z]) suf h.2 (by simp [hp]) (by simpa using hs)
        have e2 : ((pre ++ x :: suf).toArray).setIfInBounds (i * 1 + 0) (.int k z) = ((pre ++ [Value.int k z]) ++ suf).toArray := by
          simp [← hp]
        have e4 : Instr.fill (fun i => some (i * 1, 1)) (pre ++ x :: suf).toArray ((i, .int k z) :: r) =
            if 1 ≠ 1 ∨ i * 1 + 1 > (pre ++ x :: suf).toArray.size then none
            else Instr.fill (fun i => some (i * 1, 1)) (((pre ++ x :: suf).toArray).setIfInBounds (i * 1 + 0) (.int k z)) r := by
          rw [Instr.fill]
          simp [Value.cells]
        rw [e4, if_neg (by simp; omega), e2, ih]
        simp
    | _ => simp [seqOk] at h
theorem build_seq {t n el : Nat} {ps : Array (Nat × Value)} {zs : Array Value} {P : Program} {w : World} (hz : Sem.run P (zeroValue t) w = .ok (.agg zs) w) (hu : P.underlying t = some (.array n el))
    (he : Sem.run P (sizeOf el) w = .ok 1 w) (hq : seqOk 0 ps.toList = true) (hl : zs.size = ps.size) :
    Sem.run P (Instr.build t ps) w = .ok (.agg (ps.toList.map (·.2)).toArray) w := by
  have hf := fill_seq ps.toList 0 [] zs.toList hq rfl (by simpa using hl)
  have h0 : (Value.agg zs).cells = zs := rfl
  simp only [Instr.build, Sem.run_bind, hz, Result.andThen_ok, run_underlying hu, he, h0]
  simp only [List.nil_append, Array.toArray_toList] at hf
  rw [hf]
  rfl
theorem step_build {b : Frame} {a : Act} {k : List Item} {w : World} {ops : Array Oper} {i : Nat} {rest : List Nat} {o : Oper} {t n el : Nat} {ps : Array (Nat × Operand)} {zs : Array Value} {P : Program}
    (ho : ops[i]? = some o) (hw : Region.wanted o (yielded ops a.tmps) = true) (hop : o.op = .build t ps)
    (hz : Sem.run P (zeroValue t) w = .ok (.agg zs) w) (hu : P.underlying t = some (.array n el)) (he : Sem.run P (sizeOf el) w = .ok 1 w)
    (hq : seqOk 0 (ps.toList.map fun x => (x.1, a.eval x.2)) = true) (hl : zs.size = ps.size) :
    step P (lone (b.at a (.inRegion ops (i :: rest) :: k)) [] w) = .next (lone (b.at (a.put o.dst (.agg (ps.toList.map fun x => a.eval x.2).toArray)) (.inRegion ops rest :: k)) [] w) := by
  have hr : Sem.run P (execOp a.eval o) w = .ok (.value (.agg (ps.toList.map fun x => a.eval x.2).toArray)) w := by
    have hb := build_seq (P := P) (w := w) (t := t) (ps := ps.map fun x => (x.1, a.eval x.2)) hz hu he (by simpa using hq) (by simpa using hl)
    unfold execOp
    rw [hop]
    simp only [Sem.run_bind]
    rw [hb]
    simp [Result.andThen_ok, Sem.run_pure, Function.comp_def]
  refine step_lone_go ?_
  rw [stepG_op ho hw]
  have hfin : ∀ v, (b.at a (.inRegion ops (i :: rest) :: k)).finish v = b.at (a.put o.dst v) (.inRegion ops rest :: k) := by
    intro v; rw [Frame.finish_at, ho]; rfl
  rw [← hfin]
  simp [stepG.apply, hr]
noncomputable abbrev door (os : Os) (tape : Tape) : Machine := Machine.entering Tryz.prog (World.unlaid Tryz.prog os) tape 281 ⟨#[], #[], []⟩
noncomputable def mid (os : Os) (tape : Tape) : Machine := match runN Tryz.prog 123 (door os tape) with | .next m => m | _ => door os tape
noncomputable def midF (os : Os) (tape : Tape) : Frame := match (mid os tape).gs.toList with | g :: _ => g.frame | [] => Frame.enter Tryz.prog 281 #[] .normal
noncomputable abbrev midA (os : Os) (tape : Tape) : Act := ⟨(midF os tape).tmps, (midF os tape).defers⟩
noncomputable def midO (os : Os) (tape : Tape) : Array Oper := match (midF os tape).todo with | .inRegion ops _ :: _ => ops | _ => #[]
noncomputable def midR (os : Os) (tape : Tape) : List Nat := match (midF os tape).todo with | .inRegion _ (_ :: r) :: _ => r | _ => []
noncomputable def midP (os : Os) (tape : Tape) : Oper := match (midO os tape)[0]? with | some o => o | none => ⟨none, .move (.tmp 0), 0, "", #[], none⟩
noncomputable def midS (os : Os) (tape : Tape) : Array (Nat × Operand) := match (midP os tape).op with | .build _ ps => ps | _ => #[]
noncomputable def past (os : Os) (tape : Tape) : Machine :=
  lone ((midF os tape).at ((midA os tape).put (midP os tape).dst (.agg ((midS os tape).toList.map fun x => (midA os tape).eval x.2).toArray)) (.inRegion (midO os tape) (midR os tape) :: (midF os tape).todo.tail)) [] (mid os tape).world
theorem mid_run : ∀ os tape, runN Tryz.prog 123 (door os tape) =
    .next (lone ((midF os tape).at (midA os tape) (.inRegion (midO os tape) (0 :: midR os tape) :: (midF os tape).todo.tail)) [] (mid os tape).world) := fun _ _ => by kernel_rfl
theorem mid_o : ∀ os tape, (midO os tape)[0]? = some (midP os tape) := fun _ _ => by kernel_rfl
theorem mid_w : ∀ os tape, Region.wanted (midP os tape) (yielded (midO os tape) (midA os tape).tmps) = true := fun _ _ => by kernel_rfl
theorem mid_op : ∀ os tape, (midP os tape).op = .build 279 (midS os tape) := fun _ _ => by kernel_rfl
theorem mid_q : ∀ os tape, seqOk 0 ((midS os tape).toList.map fun x => (x.1, (midA os tape).eval x.2)) = true := fun _ _ => by kernel_rfl
theorem mid_l : ∀ os tape, Tryz.zeroCells279.size = (midS os tape).size := fun _ _ => by kernel_rfl
theorem past_run (os : Os) (tape : Tape) : runN Tryz.prog 159 (door os tape) = runN Tryz.prog 35 (past os tape) := by
  rw [show 159 = 123 + 36 from rfl, runN_add, mid_run]
  show runN Tryz.prog (35 + 1) _ = _
  rw [runN, step_build (mid_o os tape) (mid_w os tape) (mid_op os tape) (Tryz.zeroValue279 _) Tryz.underlying279 (Tryz.sizeOf26 _) (mid_q os tape) (mid_l os tape)]
  rfl
def endW : Stepped → World
  | .next m => m.world
  | .ended _ w => w
def endB : Stepped → Bool
  | .ended (.done _) _ => true
  | _ => false
noncomputable def last (os : Os) (tape : Tape) : World := endW (runN Tryz.prog 35 (past os tape))
theorem done_eq (P : Program) (n : Nat) (g : FuncId) (os : Os) (tape : Tape) : varsDone P n g os tape = endB (runN P n (Machine.entering P (World.unlaid P os) tape g ⟨#[], #[], []⟩)) := by
  unfold varsDone endB; split <;> simp_all
theorem world_eq (P : Program) (n : Nat) (g : FuncId) (os : Os) (tape : Tape) : varsWorld P n g os tape = endW (runN P n (Machine.entering P (World.unlaid P os) tape g ⟨#[], #[], []⟩)) := by
  unfold varsWorld endW; split <;> simp_all
theorem last_eq (os : Os) (tape : Tape) : varsWorld Tryz.prog 159 281 os tape = last os tape := by rw [world_eq, past_run]; rfl
theorem nodup_of {M : Nat} {α : Type} {f : α × List MemPlace → Bool} : ∀ {x : Option (α × List MemPlace)}, x.map (fun x => nodupBits M x.2 0 && f x) = some true → x.map (fun x => decide x.2.Nodup && f x) = some true
  | none, h => by cases h
  | some x, h => by
    simp only [Option.map_some, Option.some.injEq, Bool.and_eq_true] at h ⊢
    exact ⟨decide_eq_true (nodupBits_sound h.1).1, h.2⟩
theorem tie_d : ∀ os tape, endB (runN Tryz.prog 35 (past os tape)) = true := fun _ _ => by kernel_rfl
theorem tie_1 : ∀ os tape, (DataW.laidRun Tryz.prog (last os tape).memory 8 (tieL.map (·.1))).map (·.1) = some tieL := fun _ _ => by kernel_rfl
theorem tie_2 : ∀ os tape, (DataW.laidRun Tryz.prog (last os tape).memory 8 (tieL.map (·.1))).map (fun x => nodupBits 541 x.2 0 && laidRowsB Tryz.prog (last os tape).memory x.2) = some true := fun _ _ => by kernel_rfl
theorem tie_w : Tryz.prog.worded (varsWordLater true) = true := by kernel_rfl
theorem tie_w' : Tryz.prog.worded (varsWordLater !true) = false := by kernel_rfl
theorem tie_r : Tryz.prog.worded rootWordLater = true := by kernel_rfl
theorem tie_k : tieL.map (fun x => Tryz.prog.kindOfLater x.1) = tieK.map some := by kernel_rfl
theorem tie_g : Tryz.prog.funcNamed "gosem.cut.vars" = some 281 := by kernel_rfl
theorem tie_n : varsNamedLaterB Tryz.prog 281 tieL = true := by kernel_rfl
theorem tie_u : Tryz.pinned.checked.prog.headLifts.contains "ownunsafe" = false := by kernel_rfl
theorem tie_all : Tryz.prog.laidByTextLater tieL tieK true :=
  Program.laidByTextLater_of_run 281 159 8 tie_w tie_w' tie_r tie_k tie_g tie_n
    (fun os tape => by rw [done_eq, past_run]; exact tie_d os tape)
    (fun os tape => by rw [last_eq]; exact tie_1 os tape)
    (fun os tape => by rw [last_eq]; exact nodup_of (tie_2 os tape))
theorem tie_own : Rows.fnPackedRow.laidByTextAt .later Tryz.pinned tieK true :=
  OpenClaim.laidByTextAt_later rfl rfl tie_all tie_u
end Go.Proofs.YtiggidfngfkanaaGreatDoor.Tied
