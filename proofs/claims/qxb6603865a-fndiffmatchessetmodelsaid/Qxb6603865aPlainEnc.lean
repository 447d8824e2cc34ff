/- THE PLAIN LAW of FnSameArgvMatchesEncoding: a length-prefixed encoding is injective. No Go in sight. -/
namespace Go.Proofs.Qxb6603865a

/-- Byte k of a length. -/
def hb (z k : Nat) : Int := ((z / 2 ^ (8 * k) % 256 : Nat) : Int)
/-- The eight bytes ahead of a string, from byte 7 down, 'c' of them. -/
def hbs (z : Nat) : Nat → List Int
  | 0 => []
  | c + 1 => hbs z c ++ [hb z (7 - c)]
/-- The bytes of a string, the first j of them. -/
def strB (s : ByteArray) (j : Nat) : List Int := (s.data.toList.take j).map fun b => (b.toNat : Int)
/-- One string, written out. -/
def blk (s : ByteArray) : List Int := hbs s.size 8 ++ strB s s.size
def encL (ss : List ByteArray) : List Int := ss.flatMap blk

theorem encL_snoc (ss : List ByteArray) (s : ByteArray) : encL (ss ++ [s]) = encL ss ++ blk s := by
  unfold encL
  rw [List.flatMap_append]
  simp

theorem hbs_length (z : Nat) : ∀ c, (hbs z c).length = c
  | 0 => rfl
  | c + 1 => by rw [hbs, List.length_append, hbs_length z c]; rfl
theorem strB_length (s : ByteArray) (j : Nat) (h : j ≤ s.size) : (strB s j).length = j := by
  have : s.data.toList.length = s.size := by simp
  unfold strB
  rw [List.length_map, List.length_take, this]
  omega
theorem blk_length (s : ByteArray) : (blk s).length = 8 + s.size := by
  unfold blk
  rw [List.length_append, hbs_length, strB_length s s.size (Nat.le_refl _)]

theorem hbs_inj {y z : Nat} (hy : y ≤ 1048576) (hz : z ≤ 1048576) (h : hbs y 8 = hbs z 8) : y = z := by
  simp only [hbs, List.nil_append, List.cons_append, List.cons.injEq, and_true] at h
  obtain ⟨_, _, _, _, _, h2, h1, h0⟩ := h
  have h2 : ((y / 65536 % 256 : Nat) : Int) = ((z / 65536 % 256 : Nat) : Int) := h2
  have h1 : ((y / 256 % 256 : Nat) : Int) = ((z / 256 % 256 : Nat) : Int) := h1
  have h0 : ((y / 1 % 256 : Nat) : Int) = ((z / 1 % 256 : Nat) : Int) := h0
  omega

theorem strB_inj {s t : ByteArray} (h : strB s s.size = strB t t.size) : s = t := by
  have key : ∀ u : ByteArray, strB u u.size = u.data.toList.map fun b => (b.toNat : Int) := by
    intro u
    unfold strB
    rw [List.take_of_length_le (by simp)]
  rw [key, key] at h
  have hinj : ∀ (x y : List UInt8), x.map (fun b => (b.toNat : Int)) = y.map (fun b => (b.toNat : Int)) → x = y := by
    intro x
    induction x with
    | nil => intro y hy; cases y with
      | nil => rfl
      | cons b y => simp at hy
    | cons a x ih => intro y hy; cases y with
      | nil => simp at hy
      | cons b y =>
        simp only [List.map_cons, List.cons.injEq] at hy
        have e1 : a = b := UInt8.toNat_inj.1 (by omega)
        rw [e1, ih y hy.2]
  have := hinj _ _ h
  cases s; cases t
  simp only at this
  congr 1
  exact Array.toList_inj.1 this

theorem encL_inj : ∀ (ss ts : List ByteArray), (∀ s ∈ ss, s.size ≤ 1048576) → (∀ s ∈ ts, s.size ≤ 1048576) → encL ss = encL ts → ss = ts
  | [], [], _, _, _ => rfl
  | [], t :: ts, _, _, h => by
    have := congrArg List.length h
    have hb := blk_length t
    simp only [encL, List.flatMap_nil, List.flatMap_cons, List.length_nil, List.length_append, hb] at this
    omega
  | s :: ss, [], _, _, h => by
    have := congrArg List.length h
    have hb := blk_length s
    simp only [encL, List.flatMap_nil, List.flatMap_cons, List.length_nil, List.length_append, hb] at this
    omega
  | s :: ss, t :: ts, hs, ht, h => by
    have h' : hbs s.size 8 ++ (strB s s.size ++ encL ss) = hbs t.size 8 ++ (strB t t.size ++ encL ts) := by
      have : blk s ++ encL ss = blk t ++ encL ts := h
      unfold blk at this
      rwa [List.append_assoc, List.append_assoc] at this
    have h1 := List.append_inj h' (by rw [hbs_length, hbs_length])
    have hz : s.size = t.size := hbs_inj (hs s (by simp)) (ht t (by simp)) h1.1
    have h2 := List.append_inj h1.2 (by rw [strB_length s _ (Nat.le_refl _), strB_length t _ (Nat.le_refl _), hz])
    rw [strB_inj h2.1, encL_inj ss ts (fun x hx => hs x (by simp [hx])) (fun x hx => ht x (by simp [hx])) h2.2]

end Go.Proofs.Qxb6603865a
