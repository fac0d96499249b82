import Derived.WalkKit
import Derived.WalkSpells
import Derived.WalkLawsBesides
import Derived.MapKept
import Derived.ChangeMaps4
/-
  LAWS FOR MAPS WHOSE ENTRIES ARE WRITTEN OUT: a store of a new key, a store at a key that is there, a look-up, a delete, len: each said of the block's own entries.
-/
namespace Go.Proofs.Qxb6602161a
open Go.RowKit Go.ChangeMaps

theorem setBlock_alloc_at (w : World) (o o' : Obj) (n : Nat) (hn : n = w.heap.size) : setBlock (w.alloc o') n o = w.alloc o := by
  subst hn
  have e : (w.heap.push o').setIfInBounds w.heap.size o = w.heap.push o := by
    apply Array.ext_getElem?
    intro i
    simp only [Array.getElem?_setIfInBounds, Array.getElem?_push, Array.size_push]
    by_cases h1 : w.heap.size = i
    · subst h1; simp
    · have h2 : ¬ i = w.heap.size := fun h => h1 h.symm
      simp [h1, h2]
  show ({ w with heap := (w.heap.push o').setIfInBounds w.heap.size o } : World) = { w with heap := w.heap.push o }
  rw [e]

theorem setBlock_alloc_past (w : World) (o o' : Obj) (n : Nat) (hn : n < w.heap.size) : setBlock (w.alloc o') n o = (setBlock w n o).alloc o' := by
  have e : (w.heap.push o').setIfInBounds n o = (w.heap.setIfInBounds n o).push o' := by
    apply Array.ext_getElem?
    intro i
    simp only [Array.getElem?_setIfInBounds, Array.getElem?_push, Array.size_push, Array.size_setIfInBounds]
    by_cases h1 : n = i
    · subst h1
      have h2 : n < w.heap.size + 1 := by omega
      have h3 : ¬ n = w.heap.size := by omega
      simp [hn, h2, h3]
    · simp [h1]
  show ({ w with heap := (w.heap.push o').setIfInBounds n o } : World) = { w with heap := (w.heap.setIfInBounds n o).push o' }
  rw [e]

theorem heap_alloc_get (w : World) (o : Obj) (n : Nat) : (w.alloc o).heap[n]? = if n = w.heap.size then some o else w.heap[n]? := by
  show (w.heap.push o)[n]? = _
  rw [Array.getElem?_push]

theorem size_setBlock (w : World) (n : Nat) (o : Obj) : (setBlock w n o).heap.size = w.heap.size := by
  unfold setBlock; simp

theorem heap_setBlock_get (w : World) (o : Obj) (n i : Nat) : (setBlock w n o).heap[i]? = if n = i then (if n < w.heap.size then some o else none) else w.heap[i]? := by
  unfold setBlock
  simp [Array.getElem?_setIfInBounds]

/-- the block of number n (behind a name, so that the walk's simp leaves it whole) -/
def blk (w : World) (n : Nat) : Option Obj := w.heap[n]?

/-! ### what a look-up, a store find in a block, as functions of the block -/
/-- the place and the element at key n among the entries -/
def findE (n : Int) : List MapEntry → Option Value
  | [] => none
  | e :: es => match e.key with
    | .int .i64 k => if n = k then some e.val else findE n es
    | _ => none
/-- are all keys int64s? -/
def keysOk : List MapEntry → Bool
  | [] => true
  | e :: es => match e.key with
    | .int .i64 _ => keysOk es
    | _ => false
/-- the block is a map, all of whose keys are int64s -/
def isMapO : Option Obj → Bool
  | some (.map es _) => keysOk es.toList
  | _ => false
/-- what the block holds at key n -/
def atO (n : Int) : Option Obj → Option Value
  | some (.map es _) => findE n es.toList
  | _ => none
/-- the block behind a store at a key that is not there -/
def pushO (n : Int) (v : Value) : Option Obj → Obj
  | some (.map es c) => .map (es.push ⟨.int .i64 n, v, c⟩) (c + 1)
  | _ => .map #[] 0

theorem findNow_some (n : Int) (v : Value) : ∀ (es : List MapEntry) (i : Nat), keysOk es = true → findE n es = some v → ∃ j, Instr.findNow (.int .i64) (.int .i64 n) es i = some (some (j, v))
  | [], _, _, h => by cases h
  | e :: es, i, hk, h => by
    obtain ⟨key, val, born⟩ := e
    cases key with
    | int k a =>
      cases k <;> first | (simp [keysOk] at hk; done) | skip
      simp only [keysOk] at hk
      simp only [findE] at h
      by_cases hn : n = a
      · rw [if_pos hn] at h
        cases h
        exact ⟨i, by simp [Instr.findNow, Instr.sameNow, hn]⟩
      · rw [if_neg hn] at h
        obtain ⟨j, hj⟩ := findNow_some n v es (i + 1) hk h
        have hb : (n == a) = false := by simpa using hn
        exact ⟨j, by simp [Instr.findNow, Instr.sameNow, hb, hj]⟩
    | _ => simp [keysOk] at hk
theorem findNow_none (n : Int) : ∀ (es : List MapEntry) (i : Nat), keysOk es = true → findE n es = none → Instr.findNow (.int .i64) (.int .i64 n) es i = some none
  | [], _, _, _ => rfl
  | e :: es, i, hk, h => by
    obtain ⟨key, val, born⟩ := e
    cases key with
    | int k a =>
      cases k <;> first | (simp [keysOk] at hk; done) | skip
      simp only [keysOk] at hk
      simp only [findE] at h
      by_cases hn : n = a
      · rw [if_pos hn] at h; cases h
      · rw [if_neg hn] at h
        have hb : (n == a) = false := by simpa using hn
        simp [Instr.findNow, Instr.sameNow, hb, findNow_none n es (i + 1) hk h]
    | _ => simp [keysOk] at hk

section
variable {P : Program} (w : World) {t k e : TypeId} {b : Nat}

theorem map_of_isMapO {o : Option Obj} (h : isMapO o = true) : ∃ es c, o = some (.map es c) ∧ keysOk es.toList = true := by
  cases o with
  | none => cases h
  | some o => cases o with
    | map es c => exact ⟨es, c, rfl, h⟩
    | _ => cases h

/-- a store at a key that is not there -/
theorem run_insert (ht : P.underlying t = some (.map k e)) (hk : P.underlying k = some (.int .i64)) (n : Int) (val : Value)
    (hm : isMapO (blk w b) = true) (hn : atO n (blk w b) = none) :
    (Instr.mapUpdate t (.map (some b)) (.int .i64 n) val).run P w = .ok () (setBlock w b (pushO n val (blk w b))) := by
  obtain ⟨es, c, hb, hks⟩ := map_of_isMapO hm
  rw [hb] at hn ⊢
  replace hb : w.heap[b]? = some (.map es c) := hb
  have hc : (Instr.checkKey false 10000 k (.int .i64 n)).run P w = .ok () w := MapKept.run_checkKey (k := .int .i64 n) hk (by simp [MapKept.IsKey]) false 9999
  simp [Instr.mapUpdate, run_underlying ht, MapKept.run_getObj_map hb, hc, MapKept.run_findKey hk (findNow_none n _ 0 hks hn), MapKept.run_setObj_map _ hb, Result.andThen, setBlock, pushO]

/-- a look-up: what is found, or the element type's zero -/
def lookR (ok : Bool) (z : Value) : Option Value → Value
  | some v => if ok then .tuple #[v, .bool true] else v
  | none => if ok then .tuple #[z, .bool false] else z

theorem run_look (ht : P.underlying t = some (.map k e)) (hk : P.underlying k = some (.int .i64)) (z : Value) (hz : ∀ w, (zeroValue e).run P w = .ok z w) (n : Int) (ok : Bool)
    (hm : isMapO (blk w b) = true) :
    (Instr.lookup t (.map (some b)) (.int .i64 n) ok).run P w = .ok (lookR ok z (atO n (blk w b))) w := by
  obtain ⟨es, c, hb, hks⟩ := map_of_isMapO hm
  rw [hb]
  replace hb : w.heap[b]? = some (.map es c) := hb
  have hc : ∀ x, (Instr.checkKey x 10000 k (.int .i64 n)).run P w = .ok () w := fun x => MapKept.run_checkKey (k := .int .i64 n) hk (by simp [MapKept.IsKey]) x 9999
  show _ = Result.ok (lookR ok z (findE n es.toList)) w
  cases hf : findE n es.toList with
  | none =>
    have h1 := MapKept.run_findKey (w := w) hk (findNow_none n _ 0 hks hf)
    cases ok <;> simp [Instr.lookup, run_underlying ht, MapKept.run_getObj_map hb, hc, h1, hz, Result.andThen, lookR]
  | some v =>
    obtain ⟨j, hj⟩ := findNow_some n v _ 0 hks hf
    have h1 := MapKept.run_findKey (w := w) hk hj
    cases ok <;> simp [Instr.lookup, run_underlying ht, MapKept.run_getObj_map hb, hc, h1, Result.andThen, lookR]

end

/-! ### the blocks of a world that is written out -/
theorem blk_at (w : World) (o : Obj) (n : Nat) (hn : n = w.heap.size) : blk (w.alloc o) n = some o := by
  unfold blk; rw [heap_alloc_get, if_pos hn]
theorem blk_past (w : World) (o : Obj) (n : Nat) (hn : n < w.heap.size) : blk (w.alloc o) n = blk w n := by
  unfold blk; rw [heap_alloc_get, if_neg (by omega)]

theorem isMapO_map (es : Array MapEntry) (c : Nat) : isMapO (some (.map es c)) = keysOk es.toList := rfl
theorem atO_map (n : Int) (es : Array MapEntry) (c : Nat) : atO n (some (.map es c)) = findE n es.toList := rfl
theorem pushO_map (n : Int) (v : Value) (es : Array MapEntry) (c : Nat) : pushO n v (some (.map es c)) = .map (es.push ⟨.int .i64 n, v, c⟩) (c + 1) := rfl
theorem keysOk_nil : keysOk [] = true := rfl
theorem keysOk_cons (k : Int) (v : Value) (b : Nat) (es : List MapEntry) : keysOk (⟨.int .i64 k, v, b⟩ :: es) = keysOk es := rfl
theorem findE_nil (n : Int) : findE n [] = none := rfl
theorem findE_cons (n k : Int) (v : Value) (b : Nat) (es : List MapEntry) : findE n (⟨.int .i64 k, v, b⟩ :: es) = if n = k then some v else findE n es := rfl
theorem lookR_some (ok : Bool) (z v : Value) : lookR ok z (some v) = if ok then .tuple #[v, .bool true] else v := rfl
theorem lookR_none (ok : Bool) (z : Value) : lookR ok z none = if ok then .tuple #[z, .bool false] else z := rfl

end Go.Proofs.Qxb6602161a
