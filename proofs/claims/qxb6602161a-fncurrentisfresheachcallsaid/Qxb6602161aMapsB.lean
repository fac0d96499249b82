import Derived.Test.Qxb6602161aKeepC
/-
  MORE LAWS FOR MAPS WHOSE ENTRIES ARE WRITTEN OUT: a store at a key that is there, a delete, len.
-/
namespace Go.Proofs.Qxb6602161a
open Go.RowKit Go.ChangeMaps

/-- the place of key n -/
def idxE (n : Int) : List MapEntry → Nat
  | [] => 0
  | e :: es => match e.key with
    | .int .i64 k => if n = k then 0 else idxE n es + 1
    | _ => 0
/-- the entries behind a store at key n -/
def setE (n : Int) (v : Value) : List MapEntry → List MapEntry
  | [] => []
  | e :: es => match e.key with
    | .int .i64 k => if n = k then ⟨.int .i64 n, v, e.born⟩ :: es else e :: setE n v es
    | _ => e :: es
/-- the entries behind a delete of key n -/
def delE (n : Int) : List MapEntry → List MapEntry
  | [] => []
  | e :: es => match e.key with
    | .int .i64 k => if n = k then es else e :: delE n es
    | _ => e :: es

theorem findNow_at (n : Int) (v : Value) : ∀ (es : List MapEntry) (i : Nat), keysOk es = true → findE n es = some v →
    Instr.findNow (.int .i64) (.int .i64 n) es i = some (some (i + idxE n es, v)) ∧ (es[idxE n es]?).map (·.key) = some (.int .i64 n)
    ∧ (∀ u, es.modify (idxE n es) (fun e => { e with key := .int .i64 n, val := u }) = setE n u es) ∧ es.eraseIdx (idxE n es) = delE n es ∧ idxE n es < es.length
  | [], _, _, h => by cases h
  | e :: es, i, hk, h => by
    obtain ⟨key, val, born⟩ := e
    cases key with
    | int k a =>
      cases k <;> first | (simp [keysOk] at hk; done) | skip
      simp only [keysOk] at hk
      simp only [findE] at h
      by_cases hn : n = a
      · rw [if_pos hn] at h
        cases h
        subst hn
        refine ⟨by simp [Instr.findNow, Instr.sameNow, idxE], by simp [idxE], fun u => by simp [idxE, setE], by simp [idxE, delE], by simp [idxE]⟩
      · rw [if_neg hn] at h
        obtain ⟨h1, h2, h3, h4, h5⟩ := findNow_at n v es (i + 1) hk h
        have hb : (n == a) = false := by simpa using hn
        refine ⟨?_, ?_, fun u => ?_, ?_, ?_⟩
        · simp [Instr.findNow, Instr.sameNow, hb, h1, idxE, hn]; omega
        · simpa [idxE, hn] using h2
        · simp [idxE, setE, hn, h3]
        · simp [idxE, delE, hn, h4]
        · simp [idxE, hn]; omega
    | _ => simp [keysOk] at hk

def overO (n : Int) (v : Value) : Option Obj → Obj
  | some (.map es c) => .map (setE n v es.toList).toArray c
  | _ => .map #[] 0
def delO (n : Int) : Option Obj → Obj
  | some (.map es c) => .map (delE n es.toList).toArray c
  | _ => .map #[] 0
def lenO : Option Obj → Nat
  | some (.map es _) => es.toList.length
  | _ => 0
/-- is the key there? -/
def hasO (n : Int) (o : Option Obj) : Bool := (atO n o).isSome

section
variable {P : Program} (w : World) {t k e : TypeId} {b : Nat}

theorem keyStays (n : Int) : (Instr.keyThatStays (.int .i64 n) (.int .i64 n)).run P w = .ok (.int .i64 n) w := by
  simp [Instr.keyThatStays, Instr.sameBits]

theorem run_over (ht : P.underlying t = some (.map k e)) (hk : P.underlying k = some (.int .i64)) (n : Int) (val : Value)
    (hm : isMapO (blk w b) = true) (hn : hasO n (blk w b) = true) :
    (Instr.mapUpdate t (.map (some b)) (.int .i64 n) val).run P w = .ok () (setBlock w b (overO n val (blk w b))) := by
  obtain ⟨es, c, hb, hks⟩ := map_of_isMapO hm
  rw [hb] at hn ⊢
  replace hb : w.heap[b]? = some (.map es c) := hb
  have hc : (Instr.checkKey false 10000 k (.int .i64 n)).run P w = .ok () w := MapKept.run_checkKey (k := .int .i64 n) hk (by simp [MapKept.IsKey]) false 9999
  obtain ⟨v, hv⟩ := Option.isSome_iff_exists.1 hn
  obtain ⟨h1, h2, h3, _, _⟩ := findNow_at n v es.toList 0 hks hv
  rw [Nat.zero_add] at h1
  have h2' : ((es[idxE n es.toList]?).map (·.key)).getD (.int .i64 n) = .int .i64 n := by
    rw [← Array.getElem?_toList, h2]; rfl
  have h3' : es.modify (idxE n es.toList) (fun e => { e with key := .int .i64 n, val := val }) = (setE n val es.toList).toArray := by
    rw [← h3 val]
    apply Array.ext'
    simp
  have hks' := keyStays (P := P) w n
  simp [Instr.mapUpdate, run_underlying ht, MapKept.run_getObj_map hb, hc, MapKept.run_findKey hk h1, h2', hks', MapKept.run_setObj_map _ hb, Result.andThen, setBlock, overO, h3']

theorem run_del (ht : P.underlying t = some (.map k e)) (hk : P.underlying k = some (.int .i64)) (n : Int) (ty : TypeId)
    (hm : isMapO (blk w b) = true) (hn : hasO n (blk w b) = true) :
    (Builtin.delete_ #[t, k] ty #[.map (some b), .int .i64 n]).run P w = .ok (.tuple #[]) (setBlock w b (delO n (blk w b))) := by
  obtain ⟨es, c, hb, hks⟩ := map_of_isMapO hm
  rw [hb] at hn ⊢
  replace hb : w.heap[b]? = some (.map es c) := hb
  have hc : ∀ x, (Instr.checkKey x 10000 k (.int .i64 n)).run P w = .ok () w := fun x => MapKept.run_checkKey (k := .int .i64 n) hk (by simp [MapKept.IsKey]) x 9999
  obtain ⟨v, hv⟩ := Option.isSome_iff_exists.1 hn
  obtain ⟨h1, h2, h3, h4, h5⟩ := findNow_at n v es.toList 0 hks hv
  rw [Nat.zero_add] at h1
  have h4' : es.eraseIdxIfInBounds (idxE n es.toList) = (delE n es.toList).toArray := by
    rw [← h4]
    apply Array.ext'
    rw [Array.eraseIdxIfInBounds_eq]
    rw [dif_pos (by simpa using h5)]
    simp
  simp [Builtin.delete_, run_underlying ht, MapKept.run_getObj_map hb, hc, MapKept.run_findKey hk h1, MapKept.run_setObj_map _ hb, Result.andThen, setBlock, delO, h4']

theorem run_len (ht : P.underlying t = some (.map k e)) (ty : TypeId) (hm : isMapO (blk w b) = true) :
    (Builtin.len_ #[t] ty #[.map (some b)]).run P w = .ok (.int .i64 (lenO (blk w b) : Nat)) w := by
  obtain ⟨es, c, hb, hks⟩ := map_of_isMapO hm
  rw [hb]
  replace hb : w.heap[b]? = some (.map es c) := hb
  simp [Builtin.len_, run_underlying ht, MapKept.run_getObj_map hb, Result.andThen, lenO, goInt]

end

theorem overO_map (n : Int) (v : Value) (es : Array MapEntry) (c : Nat) : overO n v (some (.map es c)) = .map (setE n v es.toList).toArray c := rfl
theorem delO_map (n : Int) (es : Array MapEntry) (c : Nat) : delO n (some (.map es c)) = .map (delE n es.toList).toArray c := rfl
theorem lenO_map (es : Array MapEntry) (c : Nat) : lenO (some (.map es c)) = es.toList.length := rfl
theorem setE_cons (n k : Int) (v v' : Value) (b : Nat) (es : List MapEntry) : setE n v (⟨.int .i64 k, v', b⟩ :: es) = if n = k then ⟨.int .i64 n, v, b⟩ :: es else ⟨.int .i64 k, v', b⟩ :: setE n v es := rfl
theorem delE_cons (n k : Int) (v' : Value) (b : Nat) (es : List MapEntry) : delE n (⟨.int .i64 k, v', b⟩ :: es) = if n = k then es else ⟨.int .i64 k, v', b⟩ :: delE n es := rfl
theorem hasO_map (n : Int) (es : Array MapEntry) (c : Nat) : hasO n (some (.map es c)) = (findE n es.toList).isSome := rfl

end Go.Proofs.Qxb6602161a
