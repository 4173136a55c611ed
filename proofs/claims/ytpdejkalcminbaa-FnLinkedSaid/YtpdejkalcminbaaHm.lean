/- Runs of a lookup, a store and a delete in a map whose keys are interface values that hold strings: what each gives, for every map, every key. -/
import Derived.Test.YtpdejkalcminbaaProg
import Derived.WalkKit
import Derived.ProofKit
namespace Go.Proofs.Ytpdejkalcminbaa.Hm
open Go.RowKit

theorem beq_bytes (a b : ByteArray) : (a == b) = true ↔ a = b := by
  cases a with | mk x => cases b with | mk y =>
  show ByteArray.beq _ _ = true ↔ _
  unfold ByteArray.beq
  simp
instance lawful_bytes : LawfulBEq ByteArray where
  eq_of_beq := fun h => (beq_bytes _ _).mp h
  rfl := (beq_bytes _ _).mpr rfl

/-- A key: an interface value over a string. -/
abbrev ky (k : ByteArray) : Value := .iface 9 (.string k)
/-- A value: an interface value over a pointer to a block's head. -/
abbrev vl (T : TypeId) (p : Nat) : Value := .iface T (.pointer (some ⟨p, 0, none⟩))
/-- What an entry reads as. -/
def rdE (e : MapEntry) : Value × Value := (e.key, e.val)
def enE (T : TypeId) (x : ByteArray × Nat) : Value × Value := (ky x.1, vl T x.2)
/-- The first value under a key. -/
def lk (l : List (ByteArray × Nat)) (k : ByteArray) : Option Nat := (l.find? (fun x => x.1 == k)).map (·.2)

theorem cmp9 : (Try.prog.info? 9).map (·.comparable) = some true := by kernel_rfl

theorem run_eq (k k' : ByteArray) (w : World) : (Op.equal 20 (ky k) (ky k')).run Try.prog w = .ok (k == k') w := by
  have hc := cmp9
  cases hi : Try.prog.info? 9 with
  | none => simp [hi] at hc
  | some i =>
    have hcc : i.comparable = true := by simpa [hi] using hc
    have h : ∀ d : Nat, (Op.equalIn (d + 2) 20 (.iface 9 (.string k)) (.iface 9 (.string k'))).run Try.prog w = .ok (k == k') w := fun d => by
      simp [Op.equalIn, run_underlying Try.underlying20, run_underlying Try.underlying9, typeInfo, hi, hcc]
    simp [Op.equal, Op.maxDepth, ky, h 9998]

theorem run_neq (k k' : ByteArray) (w : World) : (Go.binOp .neq 20 (.iface 9 (.string k)) (.iface 9 (.string k'))).run Try.prog w = .ok (.bool (!(k == k'))) w := by
  have h := run_eq k k' w
  simp only [Go.binOp]
  simp [h]

theorem run_check (em : Bool) (k : ByteArray) (w : World) : (Instr.checkKey em 10000 20 (ky k)).run Try.prog w = .ok () w := by
  have hc := cmp9
  cases hi : Try.prog.info? 9 with
  | none => simp [hi] at hc
  | some i =>
    have hcc : i.comparable = true := by simpa [hi] using hc
    have h : ∀ d : Nat, (Instr.checkKey em (d + 2) 20 (.iface 9 (.string k))).run Try.prog w = .ok () w := fun d => by
      simp [Instr.checkKey, run_underlying Try.underlying20, run_underlying Try.underlying9, typeInfo, hi, hcc]
    exact h 9998

/-- The first place of a key, counted from i. -/
def at? (k : ByteArray) : List (ByteArray × Nat) → Nat → Option (Nat × Nat)
  | [], _ => none
  | x :: l, i => if x.1 == k then some (i, x.2) else at? k l (i + 1)

theorem run_asking (T : TypeId) (k : ByteArray) (w : World) : ∀ (es : List MapEntry) (l : List (ByteArray × Nat)) (i : Nat), es.map rdE = l.map (enE T) →
    (Instr.findAsking 20 (ky k) es i).run Try.prog w = .ok ((at? k l i).map fun y => (y.1, vl T y.2)) w
  | [], l, i, h => by
    have : l = [] := by simpa using h.symm
    subst this
    simp [Instr.findAsking, at?]
  | e :: es, [], i, h => by simp at h
  | e :: es, x :: l, i, h => by
    simp only [List.map_cons, List.cons.injEq] at h
    obtain ⟨h1, h2⟩ := h
    have hk : e.key = ky x.1 := congrArg Prod.fst h1
    have hv : e.val = vl T x.2 := congrArg Prod.snd h1
    have ih := run_asking T k w es l (i + 1) h2
    have hsym : (k == x.1) = (x.1 == k) := by rw [Bool.eq_iff_iff, beq_bytes, beq_bytes]; exact eq_comm
    simp only [Instr.findAsking, Sem.run_bind, hk, run_eq, Result.andThen, hsym, at?]
    cases hx : (x.1 == k) with
    | true => simp [hv]
    | false => simpa using ih

theorem at_none {k : ByteArray} : ∀ {l : List (ByteArray × Nat)} {i : Nat}, (∀ x ∈ l, x.1 ≠ k) → at? k l i = none
  | [], _, _ => rfl
  | x :: l, i, h => by
    have hx : (x.1 == k) = false := beq_eq_false_iff_ne.mpr (h x (by simp))
    simp only [at?, hx, Bool.false_eq_true, if_false]
    exact at_none (fun y hy => h y (by simp [hy]))

theorem at_some {k : ByteArray} {p : Nat} : ∀ {l1 l2 : List (ByteArray × Nat)} {i : Nat}, (∀ x ∈ l1, x.1 ≠ k) → at? k (l1 ++ (k, p) :: l2) i = some (i + l1.length, p)
  | [], _, _, _ => by simp [at?]
  | x :: l1, l2, i, h => by
    have hx : (x.1 == k) = false := beq_eq_false_iff_ne.mpr (h x (by simp))
    simp only [List.cons_append, at?, hx, Bool.false_eq_true, if_false]
    rw [at_some (fun y hy => h y (by simp [hy]))]
    simp; omega

theorem run_find (T : TypeId) (k : ByteArray) (w : World) (es : List MapEntry) (l : List (ByteArray × Nat)) (h : es.map rdE = l.map (enE T)) :
    (Instr.findKey 20 (ky k) es).run Try.prog w = .ok ((at? k l 0).map fun y => (y.1, vl T y.2)) w := by
  simp only [Instr.findKey, Sem.run_bind, run_underlying Try.underlying20, Result.andThen]
  cases es with
  | nil =>
    have : l = [] := by simpa using h.symm
    subst this
    simp [Instr.findNow, at?]
  | cons e es =>
    cases l with
    | nil => simp at h
    | cons x l =>
      simp only [Instr.findNow, Instr.sameNow]
      exact run_asking T k w (e :: es) (x :: l) 0 h

/-- A map's block that reads as l. -/
def MapIs (T : TypeId) (es : Array MapEntry) (l : List (ByteArray × Nat)) : Prop := es.toList.map rdE = l.map (enE T)

theorem MapIs.nil (T : TypeId) : MapIs T #[] [] := rfl

theorem MapIs.push {T : TypeId} {es : Array MapEntry} {l : List (ByteArray × Nat)} (h : MapIs T es l) (k : ByteArray) (p c : Nat) : MapIs T (es.push { key := ky k, val := vl T p, born := c }) (l ++ [(k, p)]) := by
  unfold MapIs at *
  simp [h, rdE, enE]

theorem MapIs.erase {T : TypeId} {es : Array MapEntry} {l : List (ByteArray × Nat)} {k : ByteArray} {p : Nat} (h : MapIs T es (l ++ [(k, p)])) : MapIs T (es.eraseIdxIfInBounds l.length) l := by
  unfold MapIs at *
  have hl : es.size = l.length + 1 := by have := congrArg List.length h; simpa using this
  have e : (es.eraseIdxIfInBounds l.length).toList = es.toList.eraseIdx l.length := by
    unfold Array.eraseIdxIfInBounds
    rw [dif_pos (by omega)]
    simp
  rw [e]
  have e2 : ∀ (xs : List MapEntry) (n : Nat), (xs.eraseIdx n).map rdE = (xs.map rdE).eraseIdx n := fun xs n => ChangeMaps.map_eraseIdx rdE xs n
  rw [e2, h]
  simp only [List.map_append, List.map_cons, List.map_nil]
  rw [List.eraseIdx_append_of_length_le (by simp)]
  simp

theorem zero20 (w : World) : (zeroValue 20).run Try.prog w = .ok .nilIface w := by kernel_rfl

theorem look_nil (k : ByteArray) (w : World) : (Instr.lookup 95 (.map none) (.iface 9 (.string k)) true).run Try.prog w = .ok (.tuple #[.nilIface, .bool false]) w := by
  have h := run_find 0 k w [] [] rfl
  simp [Instr.lookup, run_underlying Try.underlying95, run_check, h, at?]

theorem look_none {T : TypeId} {es : Array MapEntry} {l : List (ByteArray × Nat)} {mb c : Nat} {k : ByteArray} {w : World} (hb : w.heap[mb]? = some (.map es c)) (h : MapIs T es l) (hk : ∀ x ∈ l, x.1 ≠ k) :
    (Instr.lookup 95 (.map (some mb)) (.iface 9 (.string k)) true).run Try.prog w = .ok (.tuple #[.nilIface, .bool false]) w := by
  have hf := run_find T k w es.toList l h
  rw [at_none hk] at hf
  simp [Instr.lookup, run_underlying Try.underlying95, MapKept.run_getObj_map hb, run_check, hf]

theorem look_some {T : TypeId} {es : Array MapEntry} {l1 l2 : List (ByteArray × Nat)} {mb c p : Nat} {k : ByteArray} {w : World} (hb : w.heap[mb]? = some (.map es c)) (h : MapIs T es (l1 ++ (k, p) :: l2)) (hk : ∀ x ∈ l1, x.1 ≠ k) :
    (Instr.lookup 95 (.map (some mb)) (.iface 9 (.string k)) true).run Try.prog w = .ok (.tuple #[.iface T (.pointer (some ⟨p, 0, none⟩)), .bool true]) w := by
  have hf := run_find T k w es.toList _ h
  rw [at_some hk] at hf
  simp [Instr.lookup, run_underlying Try.underlying95, MapKept.run_getObj_map hb, run_check, hf]

theorem store_new {T : TypeId} {es : Array MapEntry} {l : List (ByteArray × Nat)} {mb c p : Nat} {k : ByteArray} {w : World} (hb : w.heap[mb]? = some (.map es c)) (h : MapIs T es l) (hk : ∀ x ∈ l, x.1 ≠ k) :
    (Instr.mapUpdate 95 (.map (some mb)) (.iface 9 (.string k)) (.iface T (.pointer (some ⟨p, 0, none⟩)))).run Try.prog w = .ok () (ChangeMaps.setBlock w mb (.map (es.push { key := ky k, val := vl T p, born := c }) (c + 1))) := by
  have hf := run_find T k w es.toList l h
  rw [at_none hk] at hf
  simp [Instr.mapUpdate, run_underlying Try.underlying95, MapKept.run_getObj_map hb, run_check, hf, MapKept.run_setObj_map _ hb, ChangeMaps.setBlock]

theorem delete_last {T : TypeId} {es : Array MapEntry} {l : List (ByteArray × Nat)} {mb c p : Nat} {k : ByteArray} {w : World} (hb : w.heap[mb]? = some (.map es c)) (h : MapIs T es (l ++ [(k, p)])) (hk : ∀ x ∈ l, x.1 ≠ k) (ty : TypeId) :
    (Builtin.delete_ #[95, 20] ty #[.map (some mb), .iface 9 (.string k)]).run Try.prog w = .ok (.tuple #[]) (ChangeMaps.setBlock w mb (.map (es.eraseIdxIfInBounds l.length) c)) := by
  have hf := run_find T k w es.toList _ h
  rw [at_some hk] at hf
  simp [Builtin.delete_, run_underlying Try.underlying95, MapKept.run_getObj_map hb, run_check, hf, MapKept.run_setObj_map _ hb, ChangeMaps.setBlock, Result.andThen]

end Go.Proofs.Ytpdejkalcminbaa.Hm
