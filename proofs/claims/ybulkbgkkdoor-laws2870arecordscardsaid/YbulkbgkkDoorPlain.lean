/-
  The plain side of the record laws: records, their bytes; no program in sight.
-/
namespace Go.Proofs.YbulkbgkkDoor

structure Rec where
  g : Nat
  c : Nat
  m : Nat
  l : Bool

def Rec.ok (r : Rec) : Prop := r.g < 4294967296 ∧ r.c < 4294967296 ∧ r.m < 4294967296

def isShort (r : Rec) : Bool := !r.l && decide (r.g < 127) && decide (r.c < 128) && decide (r.m < 1024)

def vOf (r : Rec) : Nat := r.g + r.c * 128 + r.m * 16384

def le4 (n : Nat) : List Int := [(n : Int) % 256, (n : Int) / 256 % 256, (n : Int) / 65536 % 256, (n : Int) / 16777216]

def shortBytes (r : Rec) : List Int := [(vOf r : Int) % 256, (vOf r : Int) / 256 % 256, (vOf r : Int) / 65536]

def longBytes (r : Rec) : List Int := 255 :: (le4 r.g ++ (le4 r.c ++ le4 r.m))

def recBytes (r : Rec) : List Int := if isShort r then shortBytes r else longBytes r

def enc : List Rec → List Int
  | [] => []
  | r :: rs => recBytes r ++ enc rs

theorem isShort_iff (r : Rec) : isShort r = true ↔ r.l = false ∧ r.g < 127 ∧ r.c < 128 ∧ r.m < 1024 := by
  unfold isShort; simp [and_assoc]

def recLen (r : Rec) : Nat := if isShort r then 3 else 13

theorem recBytes_length (r : Rec) : (recBytes r).length = recLen r := by
  unfold recBytes recLen; split <;> simp [shortBytes, longBytes, le4]

theorem recLen_le (r : Rec) : recLen r ≤ 13 := by unfold recLen; split <;> omega

theorem recLen_ge (r : Rec) : 3 ≤ recLen r := by unfold recLen; split <;> omega

theorem enc_append (xs ys : List Rec) : enc (xs ++ ys) = enc xs ++ enc ys := by
  induction xs with
  | nil => rfl
  | cons x xs ih => simp [enc, ih]

theorem enc_length_le (rs : List Rec) : (enc rs).length ≤ 13 * rs.length := by
  induction rs with
  | nil => simp [enc]
  | cons x xs ih => have := recLen_le x; simp [enc, recBytes_length]; omega

theorem enc_take_succ (rs : List Rec) (k : Nat) (h : k < rs.length) : enc (rs.take (k + 1)) = enc (rs.take k) ++ recBytes rs[k] := by
  rw [List.take_succ_eq_append_getElem h, enc_append]; simp [enc]

theorem enc_split (rs : List Rec) (k : Nat) (h : k < rs.length) : enc rs = enc (rs.take k) ++ (recBytes rs[k] ++ enc (rs.drop (k + 1))) := by
  have e : rs = rs.take k ++ rs[k] :: rs.drop (k + 1) := by rw [List.getElem_cons_drop]; simp
  conv => lhs; rw [e, enc_append]
  rfl

/-- running key -/
def keyTo (rs : List Rec) (k : Nat) : Nat := ((rs.take k).map Rec.g).sum % 4294967296

theorem keyTo_succ (rs : List Rec) (k : Nat) (h : k < rs.length) : keyTo rs (k + 1) = (keyTo rs k + rs[k].g) % 4294967296 := by
  unfold keyTo
  rw [List.take_succ_eq_append_getElem h, List.map_append, List.sum_append]
  generalize ((rs.take k).map Rec.g).sum = a
  simp

end Go.Proofs.YbulkbgkkDoor
