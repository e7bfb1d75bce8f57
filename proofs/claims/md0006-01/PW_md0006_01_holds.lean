import PyProof.Rows.All
import Wide.All
import OpenK.AllK
import Wide.FinOn
import PySem.Challenge.RW_md0006_01
set_option Elab.async false
set_option maxRecDepth 100000
/-! the two writers' loops, as functions over rows of octets -/
namespace Mine
def cutB (xs : List UInt8) (a b : Nat) : List UInt8 := (xs.take b).drop a
theorem cutB_length (xs : List UInt8) (a b : Nat) : (cutB xs a b).length ≤ b - a := by
  unfold cutB; rw [List.length_drop, List.length_take]; omega

def flushR (xs : List UInt8) (i : Nat) (p : List UInt8 × Nat) : List UInt8 × Nat := if i - p.2 = 254 then ((p.1 ++ [255]) ++ cutB xs p.2 i, i) else p
def noughtR (xs : List UInt8) (i : Nat) (c : UInt8) (q : List UInt8 × Nat) : List UInt8 × Nat := if c = 0 then ((q.1 ++ [(i - q.2 + 1).toUInt8]) ++ cutB xs q.2 i, i + 1) else q
def stepR (xs : List UInt8) (i : Nat) (p : List UInt8 × Nat) : List UInt8 × Nat := noughtR xs i (xs.getD i 0) (flushR xs i p)
def loopR (xs : List UInt8) : Nat → List UInt8 × Nat
  | 0 => ([], 0)
  | i + 1 => stepR xs i (loopR xs i)
def OkR (i : Nat) (p : List UInt8 × Nat) : Prop := p.2 ≤ i ∧ i - p.2 ≤ 254 ∧ p.1.length ≤ 2 * p.2
def OkQ (i : Nat) (p : List UInt8 × Nat) : Prop := p.2 ≤ i ∧ i - p.2 ≤ 253 ∧ p.1.length ≤ 2 * p.2
theorem okFlush {xs : List UInt8} {i : Nat} {p : List UInt8 × Nat} (h : OkR i p) : OkQ i (flushR xs i p) := by
  obtain ⟨h1, h2, h3⟩ := h
  unfold flushR
  by_cases hc : i - p.2 = 254
  · rw [if_pos hc]
    have := cutB_length xs p.2 i
    refine ⟨Nat.le_refl _, by simp, ?_⟩
    simp only [List.length_append, List.length_cons, List.length_nil]
    omega
  · rw [if_neg hc]
    exact ⟨h1, by omega, h3⟩
theorem okStep {xs : List UInt8} {i : Nat} {p : List UInt8 × Nat} (h : OkR i p) : OkR (i + 1) (stepR xs i p) := by
  obtain ⟨h1, h2, h3⟩ := okFlush (xs := xs) h
  unfold stepR noughtR
  by_cases hc : xs.getD i 0 = 0
  · rw [if_pos hc]
    have := cutB_length xs (flushR xs i p).2 i
    refine ⟨Nat.le_refl _, by simp, ?_⟩
    simp only [List.length_append, List.length_cons, List.length_nil]
    omega
  · rw [if_neg hc]
    exact ⟨by omega, by omega, h3⟩
theorem okLoop (xs : List UInt8) : ∀ i, OkR i (loopR xs i)
  | 0 => ⟨Nat.le_refl _, Nat.zero_le _, Nat.le_refl _⟩
  | i + 1 => okStep (okLoop xs i)
def lastO (xs : List UInt8) : UInt8 := xs.getLast?.getD 0
def encR (xs : List UInt8) : List UInt8 :=
  if (lastO xs).toNat < xs.length - (loopR xs xs.length).2 + 1 then ((loopR xs xs.length).1 ++ [(xs.length - (loopR xs xs.length).2 + 1).toUInt8]) ++ cutB xs (loopR xs xs.length).2 xs.length
  else ((loopR xs xs.length).1 ++ [lastO xs]) ++ cutB xs (loopR xs xs.length).2 (xs.length - 1)

/-! the plain writer -/
def stepP (xs : List UInt8) (i : Nat) (p : List UInt8 × Nat × Bool) : List UInt8 × Nat × Bool :=
  if xs.getD i 0 = 0 then ((p.1 ++ [(i - p.2.1 + 1).toUInt8]) ++ cutB xs p.2.1 i, i + 1, true)
  else if i - p.2.1 = 253 then ((p.1 ++ [255]) ++ cutB xs p.2.1 (i + 1), i + 1, false) else p
def loopP (xs : List UInt8) : Nat → List UInt8 × Nat × Bool
  | 0 => ([], 0, true)
  | i + 1 => stepP xs i (loopP xs i)
def OkP (i : Nat) (p : List UInt8 × Nat × Bool) : Prop := p.2.1 ≤ i ∧ i - p.2.1 ≤ 253 ∧ p.1.length ≤ 2 * p.2.1
theorem okStepP {xs : List UInt8} {i : Nat} {p : List UInt8 × Nat × Bool} (h : OkP i p) : OkP (i + 1) (stepP xs i p) := by
  obtain ⟨h1, h2, h3⟩ := h
  unfold stepP
  by_cases hc : xs.getD i 0 = 0
  · rw [if_pos hc]
    have := cutB_length xs p.2.1 i
    refine ⟨Nat.le_refl _, by simp, ?_⟩
    simp only [List.length_append, List.length_cons, List.length_nil]
    omega
  · rw [if_neg hc]
    by_cases hd : i - p.2.1 = 253
    · rw [if_pos hd]
      have := cutB_length xs p.2.1 (i + 1)
      refine ⟨Nat.le_refl _, by simp, ?_⟩
      simp only [List.length_append, List.length_cons, List.length_nil]
      omega
    · rw [if_neg hd]
      exact ⟨by omega, by omega, h3⟩
theorem okLoopP (xs : List UInt8) : ∀ i, OkP i (loopP xs i)
  | 0 => ⟨Nat.le_refl _, Nat.zero_le _, Nat.le_refl _⟩
  | i + 1 => okStepP (okLoopP xs i)
def encP (xs : List UInt8) : List UInt8 :=
  if xs.length ≠ (loopP xs xs.length).2.1 ∨ (loopP xs xs.length).2.2 = true then ((loopP xs xs.length).1 ++ [(xs.length - (loopP xs xs.length).2.1 + 1).toUInt8]) ++ cutB xs (loopP xs xs.length).2.1 xs.length
  else (loopP xs xs.length).1
end Mine
/-! the two readers, as functions over rows of octets -/
namespace Mine
/-- what the reduced reader gives -/
def decR : List UInt8 → List UInt8
  | [] => []
  | n :: t => if t.length < n.toNat - 1 then t ++ [n] else if t.length = n.toNat - 1 then t
    else (t.take (n.toNat - 1) ++ if n.toNat < 255 then [0] else []) ++ decR (t.drop (n.toNat - 1))
termination_by l => l.length
decreasing_by simp; omega
/-- what the plain reader gives; none: it refuses the row as too short -/
def decP : List UInt8 → Option (List UInt8)
  | [] => some []
  | n :: t => if t.length < n.toNat - 1 then none else if t.length = n.toNat - 1 then some t
    else (decP (t.drop (n.toNat - 1))).map ((t.take (n.toNat - 1) ++ if n.toNat < 255 then [0] else []) ++ ·)
termination_by l => l.length
decreasing_by simp; omega
def Full (ys : List UInt8) : Prop := ∀ y ∈ ys, y ≠ 0
theorem Full.getD {ys : List UInt8} (h : Full ys) {i : Nat} (hi : i < ys.length) : 1 ≤ (ys.getD i 0).toNat := by
  rw [List.getD_eq_getElem?_getD, List.getElem?_eq_getElem hi, Option.getD_some]
  have := h _ (List.getElem_mem hi)
  have h2 : (ys[i]).toNat ≠ 0 := fun e => this (UInt8.toNat_inj.mp e)
  omega
theorem Full.cut {ys : List UInt8} (h : Full ys) (a b : Nat) : (cutB ys a b).contains 0 = false := by
  cases q : (cutB ys a b).contains 0 with
  | false => rfl
  | true =>
    have hm : (0 : UInt8) ∈ cutB ys a b := by simpa using q
    exact absurd rfl (h 0 (List.mem_of_mem_take (List.mem_of_mem_drop hm)))
theorem drop_cons {ys : List UInt8} {i : Nat} (hi : i < ys.length) : ys.drop i = ys.getD i 0 :: ys.drop (i + 1) := by
  rw [List.drop_eq_getElem_cons hi, List.getD_eq_getElem?_getD, List.getElem?_eq_getElem hi]; rfl
theorem cut_tail {ys : List UInt8} {i n : Nat} : cutB ys (i + 1) (i + n) = (ys.drop (i + 1)).take (n - 1) := by
  unfold cutB
  rw [List.drop_take]
  congr 1; omega
/-- one turn of the reduced reader -/
theorem decR_turn {ys : List UInt8} {i : Nat} (hi : i < ys.length) (h1 : 1 ≤ (ys.getD i 0).toNat) : decR (ys.drop i) =
    if ys.length < i + (ys.getD i 0).toNat then cutB ys (i + 1) (i + (ys.getD i 0).toNat) ++ [ys.getD i 0] else if ys.length = i + (ys.getD i 0).toNat then cutB ys (i + 1) (i + (ys.getD i 0).toNat)
    else (cutB ys (i + 1) (i + (ys.getD i 0).toNat) ++ if (ys.getD i 0).toNat < 255 then [0] else []) ++ decR (ys.drop (i + (ys.getD i 0).toNat)) := by
  rw [drop_cons hi, cut_tail]
  generalize ys.getD i 0 = n at *
  rw [decR]
  have hl : (ys.drop (i + 1)).length = ys.length - (i + 1) := List.length_drop
  by_cases c1 : ys.length < i + n.toNat
  · rw [if_pos c1, if_pos (by omega), List.take_of_length_le (by omega)]
  · rw [if_neg c1, if_neg (by omega)]
    by_cases c2 : ys.length = i + n.toNat
    · rw [if_pos c2, if_pos (by omega), List.take_of_length_le (by omega)]
    · rw [if_neg c2, if_neg (by omega), List.drop_drop]
      congr 3; omega
theorem decP_turn {ys : List UInt8} {i : Nat} (hi : i < ys.length) (h1 : 1 ≤ (ys.getD i 0).toNat) : decP (ys.drop i) =
    if ys.length < i + (ys.getD i 0).toNat then none else if ys.length = i + (ys.getD i 0).toNat then some (cutB ys (i + 1) (i + (ys.getD i 0).toNat))
    else (decP (ys.drop (i + (ys.getD i 0).toNat))).map ((cutB ys (i + 1) (i + (ys.getD i 0).toNat) ++ if (ys.getD i 0).toNat < 255 then [0] else []) ++ ·) := by
  rw [drop_cons hi, cut_tail]
  generalize ys.getD i 0 = n at *
  rw [decP]
  have hl : (ys.drop (i + 1)).length = ys.length - (i + 1) := List.length_drop
  by_cases c1 : ys.length < i + n.toNat
  · rw [if_pos c1, if_pos (by omega)]
  · rw [if_neg c1, if_neg (by omega)]
    by_cases c2 : ys.length = i + n.toNat
    · rw [if_pos c2, if_pos (by omega), List.take_of_length_le (by omega)]
    · rw [if_neg c2, if_neg (by omega), List.drop_drop]
      congr 3; omega
end Mine
/-! the law's own split of a row into parts -/
namespace Mine
/-- a stretch ahead of a nought -/
def layGap (g : List Int) : List Int := if 254 ≤ g.length then (255 :: g.take 254) ++ layGap (g.drop 254) else ((g.length : Int) + 1) :: g
termination_by g.length
decreasing_by simp; omega
/-- of what comes behind the last nought: the full parts but the last -/
def rFront (r : List Int) : List Int := if 254 < r.length then (255 :: r.take 254) ++ rFront (r.drop 254) else []
termination_by r.length
decreasing_by simp; omega
def rRest (r : List Int) : List Int := if 254 < r.length then rRest (r.drop 254) else r
termination_by r.length
decreasing_by simp; omega
def zN (ns : List Int) : List Nat := (List.range ns.length).filter fun j => ns.getD j 0 == 0
def partStep (ns : List Int) (p : List Int × Nat) (z : Nat) : List Int × Nat := (p.1 ++ layGap ((ns.take z).drop p.2), z + 1)
def partsTo (ns : List Int) (zn : List Nat) : Nat → List Int × Nat
  | 0 => ([], 0)
  | k + 1 => partStep ns (partsTo ns zn k) (zn.getD k 0)
def partsOf (ns : List Int) : List Int × Nat := partsTo ns (zN ns) (zN ns).length
def frontOf (ns : List Int) : List Int := (partsOf ns).1 ++ rFront (ns.drop (partsOf ns).2)
def restOf (ns : List Int) : List Int := rRest (ns.drop (partsOf ns).2)
theorem layGap_big {g : List Int} (h : 254 ≤ g.length) : layGap g = (255 :: g.take 254) ++ layGap (g.drop 254) := by rw [layGap, if_pos h]
theorem layGap_small {g : List Int} (h : ¬ 254 ≤ g.length) : layGap g = ((g.length : Int) + 1) :: g := by rw [layGap, if_neg h]
theorem rFront_big {g : List Int} (h : 254 < g.length) : rFront g = (255 :: g.take 254) ++ rFront (g.drop 254) := by rw [rFront, if_pos h]
theorem rFront_small {g : List Int} (h : ¬ 254 < g.length) : rFront g = [] := by rw [rFront, if_neg h]
theorem rRest_big {g : List Int} (h : 254 < g.length) : rRest g = rRest (g.drop 254) := by rw [rRest, if_pos h]
theorem rRest_small {g : List Int} (h : ¬ 254 < g.length) : rRest g = g := by rw [rRest, if_neg h]
theorem layGap_length (g : List Int) : (layGap g).length ≤ 2 * g.length + 1 := by
  by_cases h : 254 ≤ g.length
  · have := layGap_length (g.drop 254)
    rw [layGap_big h]
    simp at this ⊢
    omega
  · rw [layGap_small h]; simp; omega
termination_by g.length
decreasing_by simp; omega
theorem rFront_length (g : List Int) : (rFront g).length ≤ 2 * g.length := by
  by_cases h : 254 < g.length
  · have := rFront_length (g.drop 254)
    rw [rFront_big h]
    simp at this ⊢
    omega
  · rw [rFront_small h]; simp
termination_by g.length
decreasing_by simp; omega
theorem rRest_length (g : List Int) : (rRest g).length ≤ g.length ∧ (rRest g).length ≤ 254 := by
  by_cases h : 254 < g.length
  · have := rRest_length (g.drop 254)
    rw [rRest_big h]
    simp at this
    omega
  · rw [rRest_small h]; omega
termination_by g.length
decreasing_by simp; omega
theorem zN_length (ns : List Int) : (zN ns).length ≤ ns.length := Nat.le_trans (List.length_filter_le _ _) (by simp)
theorem partsTo_length (ns : List Int) (zn : List Nat) : ∀ k, (partsTo ns zn k).1.length ≤ k * (2 * ns.length + 1)
  | 0 => by simp [partsTo]
  | k + 1 => by
    have h1 := partsTo_length ns zn k
    have h2 := layGap_length ((ns.take (zn.getD k 0)).drop (partsTo ns zn k).2)
    have h3 : ((ns.take (zn.getD k 0)).drop (partsTo ns zn k).2).length ≤ ns.length := by rw [List.length_drop, List.length_take]; omega
    rw [partsTo]
    unfold partStep
    rw [List.length_append, Nat.add_mul]
    omega
end Mine
/-! what the law lays, and what it asks, in plain words -/
namespace Mine
def octs (b : List UInt8) : List Int := b.map fun c => (c.toNat : Int)
def laid (n : Int) : List Int := List.replicate (if 0 < n.fmod 256 then (n.fdiv 256).fmod 300 + 1 else 1).toNat (n.fmod 256)
def rowTo (ns : List Int) : Nat → List Int
  | 0 => []
  | i + 1 => rowTo ns i ++ laid (ns.getD i 0)
def row0 (ns : List Int) : List Int := (rowTo (ns.take 24) (ns.take 24).length).take 520
def lastIn (ns : List Int) : Int := [(restOf (row0 ns)).getLastD 0, ((restOf (row0 ns)).length : Int), ((restOf (row0 ns)).length : Int) + 1, 255].getD ((((ns.take 24).getLastD 0).fdiv 76800).fmod 4).toNat 0
def rest1 (ns : List Int) : List Int := if 0 < (restOf (row0 ns)).length then (restOf (row0 ns)).dropLast ++ [lastIn ns] else restOf (row0 ns)
def row1 (ns : List Int) : List Int := if 0 < (restOf (row0 ns)).length then (row0 ns).dropLast ++ [(rest1 ns).getLastD 0] else row0 ns
def short1 (ns : List Int) : Bool := decide (0 < (restOf (row0 ns)).length) && decide (((restOf (row0 ns)).length : Int) < (rest1 ns).getLastD 0)
def plain1 (ns : List Int) : List Int := (frontOf (row0 ns) ++ [((restOf (row0 ns)).length : Int) + 1]) ++ rest1 ns
def reduced1 (ns : List Int) : List Int := if short1 ns then (frontOf (row0 ns) ++ [(rest1 ns).getLastD 0]) ++ (rest1 ns).dropLast else plain1 ns
def Octs (ns : List Int) : Prop := ∀ n ∈ ns, 0 ≤ n ∧ n < 256
def bts (ns : List Int) : List UInt8 := ns.map fun n => n.toNat.toUInt8
/-- all that the law asks -/
structure Facts (ns : List Int) : Prop where
  inRow : Octs (row1 ns)
  inPlain : Octs (plain1 ns)
  eR : octs (encR (bts (row1 ns))) = reduced1 ns
  eP : octs (encP (bts (row1 ns))) = plain1 ns
  back : octs (bts (row1 ns)) = row1 ns
  fullR : Full (encR (bts (row1 ns)))
  fullP : Full (bts (plain1 ns))
  decR1 : decR (encR (bts (row1 ns))) = bts (row1 ns)
  decR2 : decR (bts (plain1 ns)) = bts (row1 ns)
  decP1 : decP (bts (plain1 ns)) = some (bts (row1 ns))
  decP2 : (decP (encR (bts (row1 ns)))).isNone = short1 ns

theorem laid_length (n : Int) : (laid n).length ≤ 300 := by
  unfold laid
  rw [List.length_replicate]
  have h1 : (n.fdiv 256).fmod 300 < 300 := Int.fmod_lt_of_pos _ (by decide)
  split <;> omega
theorem rowTo_length (ns : List Int) : ∀ i, (rowTo ns i).length ≤ 300 * i
  | 0 => by simp [rowTo]
  | i + 1 => by have := rowTo_length ns i; have := laid_length (ns.getD i 0); rw [rowTo, List.length_append]; omega
theorem row0_length (ns : List Int) : (row0 ns).length ≤ 520 := by unfold row0; rw [List.length_take]; omega
theorem restOf_length (ns : List Int) : (restOf ns).length ≤ 254 := (rRest_length _).2
theorem frontOf_length (ns : List Int) (h : ns.length ≤ 520) : (frontOf ns).length ≤ 1000000 := by
  have h1 := partsTo_length ns (zN ns) (zN ns).length
  have h2 := zN_length ns
  have h3 := rFront_length (ns.drop (partsOf ns).2)
  have h4 : (zN ns).length * (2 * ns.length + 1) ≤ 520 * 1041 := Nat.mul_le_mul (by omega) (by omega)
  have h5 : (ns.drop (partsOf ns).2).length ≤ ns.length := by rw [List.length_drop]; omega
  have h6 : (partsOf ns).1.length ≤ 520 * 1041 := Nat.le_trans h1 h4
  unfold frontOf
  rw [List.length_append]
  omega
theorem rest1_length (ns : List Int) : (rest1 ns).length = (restOf (row0 ns)).length := by unfold rest1; split <;> simp; omega
theorem row1_length (ns : List Int) : (row1 ns).length ≤ 520 := by
  have := row0_length ns
  unfold row1; split <;> simp <;> omega
theorem plain1_length (ns : List Int) : (plain1 ns).length ≤ 1000500 := by
  have h1 := frontOf_length (row0 ns) (row0_length ns)
  have h2 := restOf_length (row0 ns)
  have h3 := rest1_length ns
  unfold plain1
  simp only [List.length_append, List.length_cons, List.length_nil]
  omega
theorem encP_length (xs : List UInt8) : (encP xs).length ≤ 2 * xs.length + 1 := by
  obtain ⟨h1, h2, h3⟩ := okLoopP xs xs.length
  have := cutB_length xs (loopP xs xs.length).2.1 xs.length
  unfold encP
  split
  · simp only [List.length_append, List.length_cons, List.length_nil]; omega
  · omega
theorem encR_length (xs : List UInt8) : (encR xs).length ≤ 2 * xs.length + 1 := by
  obtain ⟨h1, h2, h3⟩ := okLoop xs xs.length
  have := cutB_length xs (loopR xs xs.length).2 xs.length
  have := cutB_length xs (loopR xs xs.length).2 (xs.length - 1)
  unfold encR
  split <;> (simp only [List.length_append, List.length_cons, List.length_nil]; omega)
end Mine
namespace Mine
theorem restOf_le (ns : List Int) : (restOf ns).length ≤ ns.length := by
  have h := (rRest_length (ns.drop (partsOf ns).2)).1
  rw [List.length_drop] at h
  unfold restOf; omega
theorem row0_pos {ns : List Int} (h : 0 < (restOf (row0 ns)).length) : 0 < (row0 ns).length := Nat.lt_of_lt_of_le h (restOf_le _)
theorem nums_pos {ns : List Int} (h : 0 < (restOf (row0 ns)).length) : 0 < (ns.take 24).length := by
  have h2 := row0_pos h
  cases e : (ns.take 24).length with
  | zero => unfold row0 at h2; rw [e] at h2; simp [rowTo] at h2
  | succ n => omega
end Mine
/-! one lazy state for the writers, the readers and the law's split -/
namespace Mine
theorem toU {k : Nat} (h : k < 256) : (k.toUInt8).toNat = k := by
  show (UInt8.ofNat k).toNat = k
  exact UInt8.toNat_ofNat_of_lt h
def flush (p : List UInt8 × List UInt8) : List UInt8 × List UInt8 := if p.2.length = 254 then (p.1 ++ 255 :: p.2, []) else p
def lz (p : List UInt8 × List UInt8) (c : UInt8) : List UInt8 × List UInt8 :=
  if c = 0 then ((flush p).1 ++ ((flush p).2.length + 1).toUInt8 :: (flush p).2, []) else ((flush p).1, (flush p).2 ++ [c])
def lzs (xs : List UInt8) : List UInt8 × List UInt8 := xs.foldl lz ([], [])
theorem lzs_snoc (xs : List UInt8) (c : UInt8) : lzs (xs ++ [c]) = lz (lzs xs) c := by simp [lzs, List.foldl_append]
theorem snocInd {P : List UInt8 → Prop} (h0 : P []) (hs : ∀ xs c, P xs → P (xs ++ [c])) (xs : List UInt8) : P xs := by
  rw [← List.reverse_reverse xs]
  induction xs.reverse with
  | nil => exact h0
  | cons c r ih => rw [List.reverse_cons]; exact hs _ _ ih

theorem decP_chunk {n : UInt8} {c t : List UInt8} (hn : n.toNat = c.length + 1) (ht : t ≠ []) : decP (n :: (c ++ t)) = (decP t).map ((c ++ if n.toNat < 255 then [0] else []) ++ ·) := by
  have h1 : 0 < t.length := List.length_pos_iff.mpr ht
  rw [decP, if_neg (by simp; omega), if_neg (by simp; omega), show n.toNat - 1 = c.length by omega, List.take_left, List.drop_left]
theorem decR_chunk {n : UInt8} {c t : List UInt8} (hn : n.toNat = c.length + 1) (ht : t ≠ []) : decR (n :: (c ++ t)) = (c ++ if n.toNat < 255 then [0] else []) ++ decR t := by
  have h1 : 0 < t.length := List.length_pos_iff.mpr ht
  rw [decR, if_neg (by simp; omega), if_neg (by simp; omega), show n.toNat - 1 = c.length by omega, List.take_left, List.drop_left]

/-- o is the code of pre, whatever follows -/
def Codes (o pre : List UInt8) : Prop := ∀ t, t ≠ [] → decP (o ++ t) = (decP t).map (pre ++ ·) ∧ decR (o ++ t) = pre ++ decR t
theorem Codes.chunk {o pre c : List UInt8} {n : UInt8} (h : Codes o pre) (hn : n.toNat = c.length + 1) : Codes (o ++ n :: c) (pre ++ (c ++ if n.toNat < 255 then [0] else [])) := fun t ht => by
  obtain ⟨h1, h2⟩ := h (n :: (c ++ t)) nofun
  have e : (o ++ n :: c) ++ t = o ++ (n :: (c ++ t)) := by simp
  rw [e, h1, h2, decP_chunk hn ht, decR_chunk hn ht]
  refine ⟨?_, by simp⟩
  cases decP t <;> simp
structure LzInv (xs o c : List UInt8) : Prop where
  le : c.length ≤ 254
  full : Full o
  cz : Full c
  pre : ∃ pre, xs = pre ++ c ∧ Codes o pre
  last : c = [] → lastO xs = 0
theorem ne0 {k : Nat} (h : k < 256) (h1 : 0 < k) : k.toUInt8 ≠ 0 := fun e => by
  have := toU h
  rw [e] at this
  simp at this; omega
theorem Full.append {a b : List UInt8} (h1 : Full a) (h2 : Full b) : Full (a ++ b) := fun y hy => (List.mem_append.mp hy).elim (h1 y) (h2 y)
theorem Full.cons {a : UInt8} {b : List UInt8} (h1 : a ≠ 0) (h2 : Full b) : Full (a :: b) := fun y hy => (List.mem_cons.mp hy).elim (fun e => e ▸ h1) (h2 y)
theorem Full.nil : Full [] := fun _ h => nomatch h
theorem lastO_snoc (xs : List UInt8) (c : UInt8) : lastO (xs ++ [c]) = c := by simp [lastO]
/-- flushed: a stretch of at most 253 octets pends -/
theorem flushInv {xs o c : List UInt8} (h : LzInv xs o c) : (flush (o, c)).2.length ≤ 253 ∧ Full (flush (o, c)).1 ∧ Full (flush (o, c)).2 ∧ ∃ pre, xs = pre ++ (flush (o, c)).2 ∧ Codes (flush (o, c)).1 pre := by
  obtain ⟨h1, h2, h3, ⟨pre, h4, h5⟩, _⟩ := h
  unfold flush
  by_cases hc : c.length = 254
  · rw [if_pos hc]
    refine ⟨by simp, h2.append (Full.cons (by decide) h3), Full.nil, xs, by simp, ?_⟩
    have := h5.chunk (n := 255) (c := c) (by rw [hc]; rfl)
    rw [h4]
    simpa using this
  · rw [if_neg hc]
    exact ⟨by show c.length ≤ 253; omega, h2, h3, pre, h4, h5⟩
theorem lzInv (xs : List UInt8) : LzInv xs (lzs xs).1 (lzs xs).2 := by
  induction xs using snocInd with
  | h0 => exact ⟨by simp [lzs], Full.nil, Full.nil, ⟨[], rfl, fun t _ => ⟨by show decP t = _; cases decP t <;> rfl, rfl⟩⟩, fun _ => rfl⟩
  | hs xs c ih =>
    obtain ⟨f1, f2, f3, pre, f4, f5⟩ := flushInv ih
    rw [lzs_snoc]
    unfold lz
    rw [show ((lzs xs).1, (lzs xs).2) = lzs xs from rfl] at f1 f2 f3 f4 f5
    generalize flush (lzs xs) = q at *
    obtain ⟨o, d⟩ := q
    dsimp only at *
    by_cases hc : c = 0
    · rw [if_pos hc]
      have hk := toU (k := d.length + 1) (by omega)
      refine ⟨by simp, f2.append (Full.cons (ne0 (by omega) (by omega)) f3), Full.nil, ⟨xs ++ [c], by simp, ?_⟩, fun _ => by rw [lastO_snoc, hc]⟩
      have := f5.chunk hk
      rw [hk, if_pos (by omega)] at this
      have e : xs ++ [c] = pre ++ (d ++ [0]) := by rw [hc, f4]; simp
      rw [e]; exact this
    · rw [if_neg hc]
      refine ⟨by simp; omega, f2, f3.append (Full.cons hc Full.nil), ⟨pre, ?_, f5⟩, fun e => by simp at e⟩
      rw [f4]; simp

/-! the readers, of both rows -/
theorem decP_end {n : UInt8} {c : List UInt8} (hn : n.toNat = c.length + 1) : decP (n :: c) = some c := by rw [decP, if_neg (by omega), if_pos (by omega)]
theorem decR_end {n : UInt8} {c : List UInt8} (hn : n.toNat = c.length + 1) : decR (n :: c) = c := by rw [decR, if_neg (by omega), if_pos (by omega)]
theorem decP_short {n : UInt8} {c : List UInt8} (hn : c.length + 1 < n.toNat) : decP (n :: c) = none := by rw [decP, if_pos (by omega)]
theorem decR_short {n : UInt8} {c : List UInt8} (hn : c.length + 1 < n.toNat) : decR (n :: c) = c ++ [n] := by rw [decR, if_pos (by omega)]
end Mine
/-! both writers, by the lazy state -/
namespace Mine
theorem take_next {xs : List UInt8} {i : Nat} (hi : i < xs.length) : xs.take (i + 1) = xs.take i ++ [xs.getD i 0] := by
  rw [List.take_add_one, List.getElem?_eq_getElem hi, List.getD_eq_getElem?_getD, List.getElem?_eq_getElem hi]; rfl
theorem drop_next {xs : List UInt8} {i k : Nat} (hi : i < xs.length) (hk : k ≤ i) : (xs.take (i + 1)).drop k = (xs.take i).drop k ++ [xs.getD i 0] := by
  rw [take_next hi, List.drop_append_of_le_length (by rw [List.length_take]; omega)]
theorem pend_length {xs : List UInt8} {i k : Nat} (hi : i ≤ xs.length) : ((xs.take i).drop k).length = i - k := by rw [List.length_drop, List.length_take]; omega
theorem drop_self {xs : List UInt8} {i : Nat} : (xs.take i).drop i = [] := List.drop_eq_nil_of_le (by rw [List.length_take]; omega)
theorem flushR_is {xs : List UInt8} {i : Nat} (p : List UInt8 × Nat) (hi : i ≤ xs.length) : flush (p.1, (xs.take i).drop p.2) = ((flushR xs i p).1, (xs.take i).drop (flushR xs i p).2) := by
  unfold flush flushR
  dsimp only
  rw [pend_length hi]
  by_cases hc : i - p.2 = 254
  · rw [if_pos hc, if_pos hc, drop_self]; simp [cutB]
  · rw [if_neg hc, if_neg hc]
theorem loopR_is (xs : List UInt8) : ∀ i, i ≤ xs.length → lzs (xs.take i) = ((loopR xs i).1, (xs.take i).drop (loopR xs i).2)
  | 0, _ => by simp [loopR, lzs]
  | i + 1, hi => by
    have ih := loopR_is xs i (by omega)
    have ok := okFlush (xs := xs) (okLoop xs i)
    have st : loopR xs (i + 1) = noughtR xs i (xs.getD i 0) (flushR xs i (loopR xs i)) := rfl
    have fl := flushR_is (loopR xs i) (xs := xs) (i := i) (by omega)
    rw [st, take_next (by omega), lzs_snoc, ih]
    unfold lz
    rw [fl]
    generalize flushR xs i (loopR xs i) = q at *
    obtain ⟨o, k⟩ := q
    obtain ⟨k1, k2, _⟩ := ok
    unfold noughtR
    dsimp only at *
    by_cases hc : xs.getD i 0 = 0
    · rw [if_pos hc, if_pos hc, pend_length (by omega), ← take_next (by omega), drop_self]
      simp [cutB]
    · rw [if_neg hc, if_neg hc, ← take_next (by omega), drop_next (by omega) k1]
theorem loopP_is (xs : List UInt8) : ∀ i, i ≤ xs.length → (flush (lzs (xs.take i))).1 = (loopP xs i).1 ∧ (flush (lzs (xs.take i))).2 = (xs.take i).drop (loopP xs i).2.1 ∧ ((flush (lzs (xs.take i))).2 = [] → ((loopP xs i).2.2 = true ↔ (lzs (xs.take i)).2.length ≠ 254))
  | 0, _ => by simp [loopP, lzs, flush]
  | i + 1, hi => by
    obtain ⟨h1, h2, h3⟩ := loopP_is xs i (by omega)
    obtain ⟨k1, k2, _⟩ := okLoopP xs i
    have st : loopP xs (i + 1) = stepP xs i (loopP xs i) := rfl
    rw [st, take_next (by omega), lzs_snoc]
    unfold lz
    generalize flush (lzs (xs.take i)) = q at *
    obtain ⟨o, d⟩ := q
    generalize loopP xs i = p at *
    obtain ⟨out, k, fz⟩ := p
    dsimp only at *
    subst h1 h2
    have hl := pend_length (xs := xs) (i := i) (k := k) (by omega)
    unfold stepP
    dsimp only
    by_cases hc : xs.getD i 0 = 0
    · rw [if_pos hc, if_pos hc, hl, ← take_next (by omega)]
      dsimp only
      rw [drop_self]
      simp [flush, cutB]
    · rw [if_neg hc, if_neg hc]
      by_cases hd : i - k = 253
      · rw [if_pos hd, ← take_next (by omega)]
        dsimp only
        rw [drop_self]
        have e : cutB xs k (i + 1) = (xs.take i).drop k ++ [xs.getD i 0] := drop_next (by omega) k1
        rw [e]
        simp [flush, hl, hd]
      · rw [if_neg hd, ← take_next (by omega), drop_next (by omega) k1]
        have hne : ¬ ((xs.take i).drop k ++ [xs.getD i 0]).length = 254 := by rw [List.length_append, hl]; simp; omega
        unfold flush
        dsimp only
        rw [if_neg hne]
        exact ⟨rfl, rfl, fun q => by simp at q⟩
theorem take_all (xs : List UInt8) : xs.take xs.length = xs := List.take_length
/-- the plain writer's row -/
theorem encP_is (xs : List UInt8) : encP xs = (lzs xs).1 ++ ((lzs xs).2.length + 1).toUInt8 :: (lzs xs).2 := by
  obtain ⟨h1, h2, h3⟩ := loopP_is xs xs.length (Nat.le_refl _)
  obtain ⟨k1, k2, _⟩ := okLoopP xs xs.length
  rw [take_all] at h1 h2 h3
  have hl := pend_length (xs := xs) (i := xs.length) (k := (loopP xs xs.length).2.1) (Nat.le_refl _)
  rw [take_all] at hl
  unfold encP
  generalize loopP xs xs.length = p at *
  obtain ⟨out, k, fz⟩ := p
  generalize lzs xs = q at *
  obtain ⟨o, c⟩ := q
  dsimp only at *
  unfold flush at h1 h2 h3
  dsimp only at h1 h2 h3
  by_cases hc : c.length = 254
  · rw [if_pos hc] at h1 h2 h3
    dsimp only at h1 h2 h3
    have e1 : ¬ fz = true := fun q => (h3 rfl).mp q hc
    have e2 : ¬ xs.length ≠ k := fun q => by rw [← h2] at hl; simp at hl; omega
    rw [if_neg (fun q => q.elim e2 e1), ← h1, hc]
    rfl
  · rw [if_neg hc] at h1 h2 h3
    dsimp only at h1 h2 h3
    have e : xs.length ≠ k ∨ fz = true := by
      by_cases hk : xs.length = k
      · right; exact (h3 (by rw [h2, ← hk]; exact List.drop_length)).mpr hc
      · exact .inl hk
    have e2 : cutB xs k xs.length = c := by unfold cutB; rw [take_all, ← h2]
    rw [if_pos e, e2, ← h1, ← hl, ← h2]
    simp
/-- the reduced writer's row -/
theorem encR_is (xs : List UInt8) : encR xs = if (lastO xs).toNat < (lzs xs).2.length + 1 then (lzs xs).1 ++ ((lzs xs).2.length + 1).toUInt8 :: (lzs xs).2 else (lzs xs).1 ++ lastO xs :: (lzs xs).2.dropLast := by
  have h := loopR_is xs xs.length (Nat.le_refl _)
  obtain ⟨k1, k2, _⟩ := okLoop xs xs.length
  have hl := pend_length (xs := xs) (i := xs.length) (k := (loopR xs xs.length).2) (Nat.le_refl _)
  have inv := lzInv xs
  rw [take_all] at h hl
  unfold encR
  rw [h] at inv ⊢
  generalize loopR xs xs.length = p at *
  obtain ⟨o, k⟩ := p
  dsimp only at *
  have e2 : cutB xs k xs.length = xs.drop k := by unfold cutB; rw [take_all]
  rw [hl, e2]
  by_cases hc : (lastO xs).toNat < xs.length - k + 1
  · rw [if_pos hc, if_pos hc]; simp
  · rw [if_neg hc, if_neg hc]
    have hp : xs.drop k ≠ [] := fun q => by rw [inv.last q] at hc; simp at hc
    have e3 : cutB xs k (xs.length - 1) = (xs.drop k).dropLast := by
      unfold cutB
      rw [List.dropLast_eq_take, List.drop_take, hl]
      congr 1; omega
    rw [e3]; simp
end Mine
/-! the law's split, by the lazy state -/
namespace Mine
theorem rBoth_snoc (g : List Int) (n : Int) : rFront (g ++ [n]) = rFront g ++ (if (rRest g).length = 254 then 255 :: rRest g else []) ∧ rRest (g ++ [n]) = (if (rRest g).length = 254 then [] else rRest g) ++ [n] := by
  by_cases h : 254 < g.length
  · have ih := rBoth_snoc (g.drop 254) n
    have hd : (g ++ [n]).drop 254 = g.drop 254 ++ [n] := List.drop_append_of_le_length (by omega)
    have ht : (g ++ [n]).take 254 = g.take 254 := List.take_append_of_le_length (by omega)
    have hl : 254 < (g ++ [n]).length := by simp; omega
    rw [rFront_big hl, rRest_big hl, rFront_big h, rRest_big h, hd, ht, ih.1, ih.2]
    exact ⟨by simp, rfl⟩
  · rw [rFront_small h, rRest_small h]
    by_cases h2 : g.length = 254
    · have hl : 254 < (g ++ [n]).length := by simp; omega
      have hd : (g ++ [n]).drop 254 = [n] := by rw [← h2, List.drop_left]
      have ht : (g ++ [n]).take 254 = g := by rw [← h2, List.take_left]
      rw [rFront_big hl, rRest_big hl, hd, ht, rFront_small (by simp), rRest_small (by simp), if_pos h2, if_pos h2]
      exact ⟨by simp, rfl⟩
    · have hl : ¬ 254 < (g ++ [n]).length := by simp; omega
      rw [rFront_small hl, rRest_small hl, if_neg h2, if_neg h2]
      exact ⟨rfl, rfl⟩
termination_by g.length
decreasing_by simp; omega
theorem layGap_is (g : List Int) : layGap g = rFront g ++ (if (rRest g).length = 254 then (255 :: rRest g) ++ [1] else (((rRest g).length : Int) + 1) :: rRest g) := by
  by_cases h : 254 < g.length
  · have ih := layGap_is (g.drop 254)
    rw [layGap_big (by omega), rFront_big h, rRest_big h, ih]
    simp
  · rw [rFront_small h, rRest_small h]
    by_cases h2 : g.length = 254
    · rw [layGap_big (by omega), if_pos h2]
      have hd : g.drop 254 = [] := List.drop_eq_nil_of_le (by omega)
      have ht : g.take 254 = g := List.take_of_length_le (by omega)
      rw [hd, ht, layGap_small (by simp)]
      simp
    · rw [layGap_small (by omega), if_neg h2]; rfl
termination_by g.length
decreasing_by simp; omega

/-- the places of the noughts below i -/
def zTo (ns : List Int) (i : Nat) : List Nat := (List.range i).filter fun j => ns.getD j 0 == 0
theorem zTo_next (ns : List Int) (i : Nat) : zTo ns (i + 1) = if ns.getD i 0 = 0 then zTo ns i ++ [i] else zTo ns i := by
  unfold zTo
  rw [List.range_succ, List.filter_append]
  by_cases h : ns.getD i 0 = 0
  · rw [if_pos h]; simp [List.getD_eq_getElem?_getD] at h ⊢; simp [h]
  · rw [if_neg h]; simp [List.getD_eq_getElem?_getD] at h ⊢; simp [h]
theorem partsTo_pre (ns : List Int) (zn : List Nat) (z : Nat) : ∀ k, k ≤ zn.length → partsTo ns (zn ++ [z]) k = partsTo ns zn k
  | 0, _ => rfl
  | k + 1, h => by
    rw [partsTo, partsTo, partsTo_pre ns zn z k (by omega)]
    congr 1
    rw [List.getD_eq_getElem?_getD, List.getD_eq_getElem?_getD, List.getElem?_append_left (by omega)]
def partsAt (ns : List Int) (i : Nat) : List Int × Nat := partsTo ns (zTo ns i) (zTo ns i).length
theorem partsAt_next (ns : List Int) (i : Nat) : partsAt ns (i + 1) = if ns.getD i 0 = 0 then partStep ns (partsAt ns i) i else partsAt ns i := by
  unfold partsAt
  rw [zTo_next]
  by_cases h : ns.getD i 0 = 0
  · rw [if_pos h, if_pos h, List.length_append]
    show partsTo ns (zTo ns i ++ [i]) ((zTo ns i).length + 1) = _
    rw [partsTo, partsTo_pre ns _ _ _ (Nat.le_refl _)]
    congr 1
    simp
  · rw [if_neg h, if_neg h]
theorem octs_append (a b : List UInt8) : octs (a ++ b) = octs a ++ octs b := List.map_append
theorem octs_length (a : List UInt8) : (octs a).length = a.length := List.length_map ..
theorem octs_take (a : List UInt8) (i : Nat) : octs (a.take i) = (octs a).take i := List.map_take
theorem octs_getD (a : List UInt8) (i : Nat) : (octs a).getD i 0 = ((a.getD i 0).toNat : Int) := by
  unfold octs
  rw [List.getD_eq_getElem?_getD, List.getD_eq_getElem?_getD, List.getElem?_map]
  cases a[i]? <;> rfl
theorem octs_cons (c : UInt8) (a : List UInt8) : octs (c :: a) = (c.toNat : Int) :: octs a := rfl
theorem octs_nil : octs [] = [] := rfl
theorem parts_is (xs : List UInt8) : ∀ i, i ≤ xs.length → (partsAt (octs xs) i).2 ≤ i ∧
    octs (lzs (xs.take i)).1 = (partsAt (octs xs) i).1 ++ rFront (((octs xs).take i).drop (partsAt (octs xs) i).2) ∧ octs (lzs (xs.take i)).2 = rRest (((octs xs).take i).drop (partsAt (octs xs) i).2)
  | 0, _ => by simp [partsAt, zTo, partsTo, lzs, octs, rFront_small, rRest_small]
  | i + 1, hi => by
    obtain ⟨h0, h1, h2⟩ := parts_is xs i (by omega)
    have hz : (octs xs).getD i 0 = ((xs.getD i 0).toNat : Int) := octs_getD xs i
    have inv := flushInv (lzInv (xs.take i))
    have hl2 : (lzs (xs.take i)).2.length = (rRest (((octs xs).take i).drop (partsAt (octs xs) i).2)).length := by rw [← h2, octs_length]
    have ht : (octs xs).take (i + 1) = (octs xs).take i ++ [((xs.getD i 0).toNat : Int)] := by rw [← octs_take, take_next (by omega), octs_append, octs_take]; rfl
    rw [partsAt_next, take_next (by omega), lzs_snoc, hz, ht]
    have hlen : ((octs xs).take i).length = i := by rw [List.length_take, octs_length]; omega
    generalize partsAt (octs xs) i = p at *
    obtain ⟨f, k⟩ := p
    dsimp only at *
    unfold lz
    rw [show ((lzs (xs.take i)).1, (lzs (xs.take i)).2) = lzs (xs.take i) from rfl] at inv
    have fl : octs (flush (lzs (xs.take i))).1 = f ++ (rFront (((octs xs).take i).drop k) ++ if (rRest (((octs xs).take i).drop k)).length = 254 then 255 :: rRest (((octs xs).take i).drop k) else []) ∧
        octs (flush (lzs (xs.take i))).2 = if (rRest (((octs xs).take i).drop k)).length = 254 then [] else rRest (((octs xs).take i).drop k) := by
      unfold flush
      rw [hl2]
      by_cases hc : (rRest (((octs xs).take i).drop k)).length = 254
      · rw [if_pos hc, if_pos hc, if_pos hc]
        dsimp only
        rw [octs_append, octs_cons, h1, h2]
        exact ⟨by simp, rfl⟩
      · rw [if_neg hc, if_neg hc, if_neg hc, h1, h2]
        exact ⟨by simp, rfl⟩
    obtain ⟨fl1, fl2⟩ := fl
    obtain ⟨inv1, _⟩ := inv
    generalize flush (lzs (xs.take i)) = q at *
    obtain ⟨o, d⟩ := q
    dsimp only at *
    by_cases hc : xs.getD i 0 = 0
    · rw [if_pos hc, if_pos (by rw [hc]; rfl)]
      unfold partStep
      dsimp only
      have e0 : ((octs xs).take i ++ [((xs.getD i 0).toNat : Int)]).drop (i + 1) = [] := List.drop_eq_nil_of_le (by rw [List.length_append, hlen]; simp)
      rw [e0, rFront_small (by simp), rRest_small (by simp)]
      refine ⟨Nat.le_refl _, ?_, rfl⟩
      rw [octs_append, octs_cons, toU (by omega), fl1, fl2, layGap_is]
      have hdl : d.length = (octs d).length := (octs_length d).symm
      rw [hdl, fl2]
      by_cases hr : (rRest (((octs xs).take i).drop k)).length = 254
      · rw [if_pos hr, if_pos hr, if_pos hr]; simp
      · rw [if_neg hr, if_neg hr, if_neg hr]; simp
    · have hc' : ¬ ((xs.getD i 0).toNat : Int) = 0 := fun e => by
        have h3 : (xs.getD i 0).toNat = (0 : UInt8).toNat := by show _ = 0; omega
        exact hc (UInt8.toNat_inj.mp h3)
      rw [if_neg hc, if_neg hc', List.drop_append_of_le_length (by omega)]
      obtain ⟨b1, b2⟩ := rBoth_snoc (((octs xs).take i).drop k) ((xs.getD i 0).toNat : Int)
      rw [b1, b2]
      dsimp only
      refine ⟨by omega, fl1, ?_⟩
      rw [octs_append, fl2]; rfl
theorem split_is (xs : List UInt8) : frontOf (octs xs) = octs (lzs xs).1 ∧ restOf (octs xs) = octs (lzs xs).2 := by
  obtain ⟨_, h1, h2⟩ := parts_is xs xs.length (Nat.le_refl _)
  have e : partsAt (octs xs) xs.length = partsOf (octs xs) := by
    unfold partsAt partsOf zTo zN
    rw [octs_length]
  have e2 : (octs xs).take xs.length = octs xs := by rw [← octs_length xs, List.take_length]
  rw [e, e2, take_all] at h1 h2
  exact ⟨h1.symm, h2.symm⟩
end Mine
/-! the law's asks, all of them -/
namespace Mine
theorem bts_octs (ys : List UInt8) : bts (octs ys) = ys := by
  unfold bts octs
  rw [List.map_map]
  have : ((fun n : Int => n.toNat.toUInt8) ∘ fun c : UInt8 => (c.toNat : Int)) = id := by
    funext c
    show ((c.toNat : Int)).toNat.toUInt8 = c
    rw [Int.toNat_natCast]
    exact UInt8.ofNat_toNat
  rw [this, List.map_id]
theorem octs_bts {ns : List Int} (h : Octs ns) : octs (bts ns) = ns := by
  unfold bts octs
  rw [List.map_map]
  have : ns.map ((fun c : UInt8 => (c.toNat : Int)) ∘ fun n : Int => n.toNat.toUInt8) = ns.map id := List.map_congr_left fun n hn => by
    have := h n hn
    show ((n.toNat.toUInt8).toNat : Int) = n
    rw [toU (by omega)]; omega
  rw [this, List.map_id]
theorem octs_in (ys : List UInt8) : Octs (octs ys) := fun n hn => by
  obtain ⟨c, _, rfl⟩ := List.mem_map.mp hn
  have := c.toNat_lt
  omega
theorem toNat_pos {c : UInt8} (h : c ≠ 0) : 0 < c.toNat := Nat.pos_of_ne_zero fun e => h (UInt8.toNat_inj.mp (show c.toNat = (0 : UInt8).toNat from e))

theorem last_split {xs pre c : List UInt8} (hx : xs = pre ++ c) (hne : c ≠ []) : c = c.dropLast ++ [lastO xs] := by
  rcases List.eq_nil_or_concat c with h | ⟨d, l, h⟩
  · exact absurd h hne
  · rw [List.concat_eq_append] at h
    subst h; rw [hx, ← List.append_assoc, lastO_snoc]; simp
/-! of one row -/
section
variable (xs : List UInt8)
theorem encP_octs : octs (encP xs) = (octs (lzs xs).1 ++ [((lzs xs).2.length : Int) + 1]) ++ octs (lzs xs).2 := by
  have h := (lzInv xs).le
  rw [encP_is, octs_append, octs_cons, toU (by omega)]
  simp
theorem encP_full : Full (encP xs) := by
  have h := lzInv xs
  have := h.le
  rw [encP_is]
  exact h.full.append (Full.cons (ne0 (by omega) (by omega)) h.cz)
theorem encP_back : decP (encP xs) = some xs ∧ decR (encP xs) = xs := by
  have h := lzInv xs
  have hl := h.le
  obtain ⟨pre, hx, hc⟩ := h.pre
  rw [encP_is]
  have hk := toU (k := (lzs xs).2.length + 1) (by omega)
  obtain ⟨h1, h2⟩ := hc (((lzs xs).2.length + 1).toUInt8 :: (lzs xs).2) nofun
  rw [h1, h2, decP_end hk, decR_end hk]
  exact ⟨by rw [Option.map_some, ← hx], hx.symm⟩
/-- where the last octet is more than the size of the last part -/
theorem encR_short (hs : (lzs xs).2.length < (lastO xs).toNat) : encR xs = (lzs xs).1 ++ lastO xs :: (lzs xs).2.dropLast ∧ (lzs xs).2 = (lzs xs).2.dropLast ++ [lastO xs] ∧ lastO xs ≠ 0 := by
  have h := lzInv xs
  have hne : (lzs xs).2 ≠ [] := fun q => by rw [h.last q, q] at hs; simp at hs
  obtain ⟨pre, hx, _⟩ := h.pre
  rw [encR_is, if_neg (by omega)]
  exact ⟨rfl, last_split hx hne, fun q => by rw [q] at hs; simp at hs⟩
theorem encR_same (hs : ¬ (lzs xs).2.length < (lastO xs).toNat) : encR xs = encP xs := by rw [encR_is, if_pos (by omega), encP_is]
theorem encR_full : Full (encR xs) := by
  by_cases hs : (lzs xs).2.length < (lastO xs).toNat
  · have h := lzInv xs
    obtain ⟨h1, h2, h3⟩ := encR_short xs hs
    rw [h1]
    exact h.full.append (Full.cons h3 fun y hy => h.cz y ((List.dropLast_sublist _).subset hy))
  · rw [encR_same xs hs]; exact encP_full xs
theorem encR_back : decR (encR xs) = xs := by
  by_cases hs : (lzs xs).2.length < (lastO xs).toNat
  · have h := lzInv xs
    obtain ⟨h1, h2, h3⟩ := encR_short xs hs
    obtain ⟨pre, hx, hc⟩ := h.pre
    have hl : (lzs xs).2.length = (lzs xs).2.dropLast.length + 1 := by rw [List.length_dropLast]; have := congrArg List.length h2; simp at this; omega
    rw [h1, (hc (lastO xs :: (lzs xs).2.dropLast) nofun).2, decR_short (by omega), ← h2]; exact hx.symm
  · rw [encR_same xs hs]; exact (encP_back xs).2
theorem encR_refused : (decP (encR xs)).isNone = decide ((lzs xs).2.length < (lastO xs).toNat) := by
  by_cases hs : (lzs xs).2.length < (lastO xs).toNat
  · have h := lzInv xs
    obtain ⟨h1, h2, h3⟩ := encR_short xs hs
    obtain ⟨pre, hx, hc⟩ := h.pre
    have hl : (lzs xs).2.length = (lzs xs).2.dropLast.length + 1 := by rw [List.length_dropLast]; have := congrArg List.length h2; simp at this; omega
    rw [h1, (hc (lastO xs :: (lzs xs).2.dropLast) nofun).1, decP_short (by omega), decide_eq_true hs]; rfl
  · rw [encR_same xs hs, (encP_back xs).1, decide_eq_false hs]; rfl
end

/-! of a script -/
theorem laid_in (n : Int) : Octs (laid n) := fun v hv => by
  obtain rfl := List.eq_of_mem_replicate hv
  exact ⟨Int.fmod_nonneg_of_pos _ (by decide), Int.fmod_lt_of_pos _ (by decide)⟩
theorem rowTo_in (ns : List Int) : ∀ i, Octs (rowTo ns i)
  | 0 => fun _ h => nomatch h
  | i + 1 => fun v hv => (List.mem_append.mp hv).elim (rowTo_in ns i v) (laid_in _ v)
theorem row0_in (ns : List Int) : Octs (row0 ns) := fun v hv => rowTo_in _ _ v (List.mem_of_mem_take hv)
/-- the row with its last octet set: the same split but for that octet -/
theorem asked (ns : List Int) : ∃ xs, row1 ns = octs xs ∧ frontOf (row0 ns) = octs (lzs xs).1 ∧ rest1 ns = octs (lzs xs).2 ∧ (restOf (row0 ns)).length = (lzs xs).2.length := by
  have h0 : row0 ns = octs (bts (row0 ns)) := (octs_bts (row0_in ns)).symm
  generalize hx : bts (row0 ns) = xs at h0
  obtain ⟨s1, s2⟩ := split_is xs
  rw [← h0] at s1 s2
  have inv := lzInv xs
  by_cases hp : 0 < (restOf (row0 ns)).length
  · have hr1 : rest1 ns = (restOf (row0 ns)).dropLast ++ [lastIn ns] := by unfold rest1; rw [if_pos hp]
    have hr2 : row1 ns = (row0 ns).dropLast ++ [(rest1 ns).getLastD 0] := by unfold row1; rw [if_pos hp]
    have hsz : (restOf (row0 ns)).length = (lzs xs).2.length := by rw [s2, octs_length]
    have hle := inv.le
    have hne : (lzs xs).2 ≠ [] := fun q => by rw [hsz, q] at hp; simp at hp
    obtain ⟨pre, hpre, _⟩ := inv.pre
    have hsp := last_split hpre hne
    have hl0 : lastO xs ≠ 0 := inv.cz _ (by rw [hsp]; simp)
    have hlast : (restOf (row0 ns)).getLastD 0 = ((lastO xs).toNat : Int) := by rw [s2, hsp, octs_append]; simp [octs]
    have hb : 1 ≤ lastIn ns ∧ lastIn ns ≤ 255 := by
      have h1 := toNat_pos hl0
      have h2 := (lastO xs).toNat_lt
      have hm0 : 0 ≤ (((ns.take 24).getLastD 0).fdiv 76800).fmod 4 := Int.fmod_nonneg_of_pos _ (by decide)
      have hm1 : (((ns.take 24).getLastD 0).fdiv 76800).fmod 4 < 4 := Int.fmod_lt_of_pos _ (by decide)
      unfold lastIn
      rw [hlast]
      generalize (((ns.take 24).getLastD 0).fdiv 76800).fmod 4 = j at *
      have hj : j.toNat = 0 ∨ j.toNat = 1 ∨ j.toNat = 2 ∨ j.toNat = 3 := by omega
      rcases hj with hj | hj | hj | hj <;> rw [hj] <;> simp <;> omega
    have hxs : xs = xs.dropLast ++ [lastO xs] := last_split (pre := []) rfl (fun q => by rw [q] at hne; exact hne rfl)
    have hl1 : (lastIn ns).toNat.toUInt8 ≠ 0 := ne0 (by omega) (by omega)
    have hl2 : (((lastIn ns).toNat.toUInt8).toNat : Int) = lastIn ns := by rw [toU (by omega)]; omega
    have z0 : lzs xs = ((flush (lzs xs.dropLast)).1, (flush (lzs xs.dropLast)).2 ++ [lastO xs]) := by
      have e := lzs_snoc xs.dropLast (lastO xs)
      rw [← hxs] at e
      rw [e]; unfold lz; rw [if_neg hl0]
    have z1 : lzs (xs.dropLast ++ [(lastIn ns).toNat.toUInt8]) = ((flush (lzs xs.dropLast)).1, (flush (lzs xs.dropLast)).2 ++ [(lastIn ns).toNat.toUInt8]) := by
      rw [lzs_snoc]; unfold lz; rw [if_neg hl1]
    have hrl : rest1 ns = octs ((flush (lzs xs.dropLast)).2 ++ [(lastIn ns).toNat.toUInt8]) := by
      rw [hr1, s2, z0, octs_append, octs_append]
      show (octs _ ++ [_]).dropLast ++ _ = octs _ ++ [_]
      rw [List.dropLast_concat]
      exact congrArg (fun z => octs (flush (lzs xs.dropLast)).2 ++ [z]) hl2.symm
    refine ⟨xs.dropLast ++ [(lastIn ns).toNat.toUInt8], ?_, ?_, ?_, ?_⟩
    · rw [hr2, hr1, octs_append]
      have e1 : (row0 ns).dropLast = octs xs.dropLast := by rw [h0]; unfold octs; rw [List.map_dropLast]
      have e2 : ((restOf (row0 ns)).dropLast ++ [lastIn ns]).getLastD 0 = lastIn ns := by simp
      rw [e1, e2]
      exact congrArg (fun z => octs xs.dropLast ++ [z]) hl2.symm
    · rw [s1, z0, z1]
    · rw [z1]; exact hrl
    · rw [hsz, z0, z1]; simp
  · refine ⟨xs, ?_, s1, ?_, ?_⟩
    · unfold row1; rw [if_neg hp]; exact h0
    · unfold rest1; rw [if_neg hp]; exact s2
    · rw [s2, octs_length]
theorem facts (ns : List Int) : Facts ns := by
  obtain ⟨xs, h1, h2, h3, h4⟩ := asked ns
  have hx : bts (row1 ns) = xs := by rw [h1, bts_octs]
  have hpl : plain1 ns = octs (encP xs) := by unfold plain1; rw [h2, h3, h4, encP_octs]
  have hbp : bts (plain1 ns) = encP xs := by rw [hpl, bts_octs]
  have inv := lzInv xs
  have hlast : 0 < (lzs xs).2.length → (rest1 ns).getLastD 0 = ((lastO xs).toNat : Int) ∧ (rest1 ns).dropLast = octs (lzs xs).2.dropLast := fun hp => by
    obtain ⟨pre, hpre, _⟩ := inv.pre
    have hsp := last_split hpre (fun q => by rw [q] at hp; simp at hp)
    rw [h3]
    refine ⟨?_, by unfold octs; rw [List.map_dropLast]⟩
    rw [hsp, octs_append]; simp [octs]
  have hsh : short1 ns = decide ((lzs xs).2.length < (lastO xs).toNat) := by
    unfold short1
    rw [h4]
    by_cases hp : 0 < (lzs xs).2.length
    · rw [(hlast hp).1, decide_eq_true hp, Bool.true_and]
      by_cases hs : (lzs xs).2.length < (lastO xs).toNat
      · rw [decide_eq_true hs]; exact decide_eq_true (by omega)
      · rw [decide_eq_false hs]; exact decide_eq_false (by omega)
    · have hn : (lzs xs).2 = [] := List.length_eq_zero_iff.mp (by omega)
      rw [decide_eq_false hp, inv.last hn]; rfl
  refine ⟨by rw [h1]; exact octs_in xs, by rw [hpl]; exact octs_in _, ?_, by rw [hx, hpl], by rw [hx, h1], by rw [hx]; exact encR_full xs, by rw [hbp]; exact encP_full xs, by rw [hx]; exact encR_back xs,
    by rw [hbp, hx]; exact (encP_back xs).2, by rw [hbp, hx]; exact (encP_back xs).1, by rw [hx, hsh]; exact encR_refused xs⟩
  rw [hx]
  unfold reduced1
  rw [hsh]
  by_cases hs : (lzs xs).2.length < (lastO xs).toNat
  · rw [if_pos (decide_eq_true hs)]
    have hp : 0 < (lzs xs).2.length := Nat.pos_of_ne_zero fun q => by
      have hn : (lzs xs).2 = [] := List.length_eq_zero_iff.mp q
      rw [inv.last hn] at hs; simp at hs
    rw [(encR_short xs hs).1, octs_append, octs_cons, h2, (hlast hp).1, (hlast hp).2]
    simp
  · rw [if_neg (fun q => hs (of_decide_eq_true q)), encR_same xs hs, hpl]
end Mine
open PySem PySem.W PyProof.Rows PySem.Calls
namespace Mine
open Sem (wp)

/-- a decoder that may hold a bytearray's memory -/
def holder : Code → Bool
  | .builtin id _ => Builtin.Bytes.decodersThatHold.contains id
  | _ => false

/-- no decoder stands on the stack -/
def Clean (Γ : Ctx) : Prop := holder Γ.code = false ∧ ∀ x ∈ Γ.below, holder x.1 = false

theorem Clean.goto {Γ : Ctx} (h : Clean Γ) {c : Code} (hc : holder c = false) : Clean (Γ.goto c) := ⟨hc, h.2⟩
theorem Clean.enter {Γ : Ctx} (h : Clean Γ) {c : Code} (hc : holder c = false) (v : Option Value) (p : Pos) : Clean (Γ.enter c v p) :=
  ⟨hc, fun x hx => (List.mem_cons.mp hx).elim (fun e => e ▸ h.1) (h.2 x)⟩

/-- wpAny, in contexts without such decoders -/
def wpG {α : Type} (M : Model) (A : Around) (t : Sem α) (Q : α → Shared → Prop) (E : Value → Shared → Prop) (s : Shared) : Prop :=
  ∀ Γ p, Γ.In A → Clean Γ → wp M Γ t (fun a _ s' => Q a s') (fun e _ s' => E e s') p s

def codeG (M : Model) (A : Around) (c : Code) (R : Result → Shared → Prop) (s : Shared) : Prop :=
  ∀ Γ p, Γ.code = c → Γ.Below A → Clean Γ → wpCode M Γ R p s

section
variable {α β : Type} {M : Model} {A : Around} {E : Value → Shared → Prop} {s : Shared}

theorem lift {t : Sem α} {Q : α → Shared → Prop} (h : wpAny M A t Q E s) : wpG M A t Q E s := fun Γ p hΓ _ => h Γ p hΓ
theorem codeLift {c : Code} {R : Result → Shared → Prop} (h : codeAny M A c R s) : codeG M A c R s := fun Γ p hc hΓ _ => h Γ p hc hΓ

theorem gMono {t : Sem α} {Q Q' : α → Shared → Prop} {E' : Value → Shared → Prop} (h : wpG M A t Q E s)
    (hQ : ∀ a s, Q a s → Q' a s) (hE : ∀ e s, E e s → E' e s) : wpG M A t Q' E' s :=
  fun Γ p hΓ hC => Sem.wp_mono M Γ t (fun a _ s => hQ a s) (fun e _ s => hE e s) p s (h Γ p hΓ hC)
theorem gPure {a : α} {Q : α → Shared → Prop} (h : Q a s) : wpG M A (pure a) Q E s := fun _ _ _ _ => h
theorem gBind {m : Sem α} {f : α → Sem β} {Q : β → Shared → Prop} (h : wpG M A m (fun a s' => wpG M A (f a) Q E s') E s) :
    wpG M A (m >>= f) Q E s := fun Γ p hΓ hC => by
  rw [Sem.wp_bind']
  exact Sem.wp_mono M Γ m (fun a p' s' h' => h' Γ p' hΓ hC) (fun _ _ _ h' => h') p s (h Γ p hΓ hC)
theorem gOnRaise {m : Sem α} {k : Value → Sem Unit} {Q : α → Shared → Prop}
    (h : wpG M A m Q (fun e s' => wpG M A (k e) (fun _ s'' => E e s'') E s') s) : wpG M A (m.onRaise k) Q E s := fun Γ p hΓ hC => by
  rw [Sem.wp_onRaise]
  exact Sem.wp_mono M Γ m (fun _ _ _ h' => h') (fun e p' s' h' => h' Γ p' hΓ hC) p s (h Γ p hΓ hC)
theorem gAttempt {m : Sem α} {Q : Except Value α → Shared → Prop} (h : wpG M A m (fun a => Q (.ok a)) (fun e => Q (.error e)) s) :
    wpG M A m.attempt Q E s := fun Γ p hΓ hC => by rw [Sem.wp_attempt]; exact h Γ p hΓ hC
theorem gHolding {vs : List Value} {m : Sem α} {Q : α → Shared → Prop} (h : wpG M A m Q E s) : wpG M A (holding vs m) Q E s :=
  fun Γ p hΓ hC => by rw [Sem.wp_holding]; exact h Γ p hΓ hC
theorem gOperate {vs : List Value} {m : Sem Value} {Q : Value → Shared → Prop} (h : wpG M A m Q E s) : wpG M A (operate vs m) Q E s :=
  fun Γ p hΓ hC => by rw [Sem.wp_operate]; exact h Γ p hΓ hC
theorem gStand {pos : Pos} {Q : Unit → Shared → Prop} (h : Q () s) : wpG M A (standAt pos) Q E s := fun _ _ _ _ => h

theorem gRun {c : Code} {h : Option Value} {Q : Flow → Shared → Prop} (hcl : holder c = false)
    (hc : codeG M (A.mark h) c (fun r s' => match r with | .ok f => Q f s' | .error e => E e s') s) (hnb : h ≠ some byPass := by intro x; cases x) :
    wpG M A (run c h) Q E s :=
  fun Γ p hΓ hC => by rw [Sem.wp_run]; exact hc _ p rfl (hΓ.enter c h p hnb) (hC.enter hcl h p)
theorem gRunValue {c : Code} {Q : Value → Shared → Prop} (hcl : holder c = false)
    (hc : codeG M A c (fun r s' => match r with | .ok (.ret v) => Q v s' | .ok _ => False | .error e => E e s') s) :
    wpG M A (runValue c) Q E s := fun Γ p hΓ hC => by rw [Sem.wp_runValue]; exact hc _ p rfl (hΓ.enter c none p (by intro x; cases x)) (hC.enter hcl none p)
theorem gCall {f : Value} {pos : List Value} {kw : List (Str × Value)} {Q : Value → Shared → Prop}
    (hc : codeG M A (.call f ⟨pos, kw⟩) (fun r s' => match r with | .ok (.ret v) => Q v s' | .ok _ => False | .error e => E e s') s) :
    wpG M A (call f pos kw) Q E s := gRunValue rfl hc

theorem codeG_mono {c : Code} {R R' : Result → Shared → Prop} (h : codeG M A c R s) (hR : ∀ r s, R r s → R' r s) : codeG M A c R' s :=
  fun Γ p hc hΓ hC => wpCode_mono hR (h Γ p hc hΓ hC)

theorem codeG_of_tree {c : Code} {R : Result → Shared → Prop}
    (h : wpG M (A.under c) (M.den c) (fun fin s' => match fin with | .done f => R (.ok f) s' | .again c' => c'.quiet = true ∧ holder c' = false ∧ codeG M A c' R s')
      (fun e s' => R (.error e) s') s) : codeG M A c R s := fun Γ p hc hΓ hC => by
  rw [wpCode_iff_wp, hc]
  refine Sem.wp_mono M Γ _ (fun fin p' s' h' => ?_) (fun _ _ _ h' => h') p s (h Γ p (hc ▸ hΓ.in) hC)
  cases fin with
  | done f => exact h'
  | again c' => exact ⟨h'.1, h'.2.2 (Γ.goto c') p' rfl (hΓ.goto c') (hC.goto h'.2.1)⟩

theorem codeG_loop {c : Code} {R : Result → Shared → Prop} (hq : c.quiet = true) (hh : holder c = false) (I : Nat → Shared → Prop)
    (turn : ∀ n s, I n s → wpG M (A.under c) (M.den c)
      (fun fin s' => match fin with | .done f => R (.ok f) s' | .again c' => (c' = c ∧ ∃ m, m < n ∧ I m s') ∨ (c'.quiet = true ∧ holder c' = false ∧ codeG M A c' R s')) (fun e s' => R (.error e) s') s)
    (n : Nat) (h : I n s) : codeG M A c R s := by
  induction n using Nat.strongRecOn generalizing s with
  | ind n ih =>
    refine codeG_of_tree (gMono (turn n s h) (fun fin s' hf => ?_) fun _ _ h' => h')
    cases fin with
    | done f => exact hf
    | again c' =>
      rcases hf with ⟨rfl, m, hm, hI⟩ | hf
      · exact ⟨hq, hh, ih m hm hI⟩
      · exact hf
end

/-! statements -/
section
variable {α : Type} {M : Model} {A : Around} {E : Value → Shared → Prop} {s : Shared} {env : Env}

theorem gExecsNil {Q : Flow → Shared → Prop} (h : Q .next s) : wpG M A (execs [] env) Q E s := fun _ _ _ _ => h
theorem gExecsCons {st rest} {Q : Flow → Shared → Prop}
    (h : wpG M A (exec st env) (fun f s' => match f with | .next => wpG M A (execs rest env) Q E s' | f => Q f s') E s) :
    wpG M A (execs (st :: rest) env) Q E s := fun Γ p hΓ hC => by
  rw [execs_cons, Sem.wp_bind']
  refine Sem.wp_mono M Γ _ (fun f p' s' h' => ?_) (fun _ _ _ h' => h') _ _ (h Γ p hΓ hC)
  cases f <;> first | exact h' Γ p' hΓ hC | exact h'
theorem gIf {test body orelse pos} {Q : Flow → Shared → Prop}
    (h : wpG M A (isTrue test env (eval test env)) (fun b s₂ => wpG M A (execs (if b = true then body else orelse) env) Q E s₂) E s) :
    wpG M A (exec (.If test body orelse pos) env) Q E s := by
  rw [exec_If]
  refine gBind (gStand (gBind (gMono h (fun b s₂ h₂ => ?_) fun _ _ h' => h')))
  cases b
  · exact h₂
  · exact h₂
theorem gRunOwn {c : Code} {Q : Flow → Shared → Prop} (hcl : holder c = false)
    (hc : codeG M A c (fun r s' => match r with | .ok f => Q f s' | .error e => cameBackBy M A env E e s') s) :
    wpG M A (runOwn c env) Q E s := by
  unfold runOwn
  refine gOnRaise (gRun hcl (codeG_mono hc fun r s' hr => ?_))
  cases r with
  | ok f => exact hr
  | error e => exact lift hr
theorem gNoted {m : Sem α} {Q : α → Shared → Prop} (h : wpG M A m Q (notedBy M A env E) s) : wpG M A (m.onRaise fun x => do noteFrame x env; theTreesLotGoes x) Q E s :=
  gOnRaise (gMono h (fun _ _ q => q) fun _ _ hx => lift (wpAny_bind (wpAny_mono hx (fun _ _ e => wpAny_theTreesLotGoes e) fun _ _ e => e)))
theorem gAssignName {x pos' value pos} {Q : Flow → Shared → Prop}
    (h : wpG M A (eval value env) (fun v s₁ => wpAny M A (storeName env x v) (fun _ => Q .next) E s₁) E s)
    (hs : swapsWith value (some (.Name x pos')) pos.line env = pure false := by rfl) :
    wpG M A (exec (.Assign [.Name x pos'] value pos) env) Q E s := fun Γ p hΓ hC => by
  simp only [exec_Assign_Name env x pos' value pos hs, Sem.wp_bind', Sem.wp_cmd_standAt, Sem.wp_bindName, Sem.wp_pure']
  exact Sem.wp_mono M Γ _ (fun v _ s₁ h₁ => h₁ Γ _ hΓ) (fun _ _ _ h' => h') _ _ (h Γ _ hΓ hC)
theorem gAugName {x pos' op value pos} {Q : Flow → Shared → Prop}
    (h : wpAny M A (loadName env x) (fun old s₁ => wpAny M A (eval value env) (fun v s₂ => wpG M A (inplaceOp op old v)
      (fun r s₃ => wpAny M A (storeName env x r) (fun _ => Q .next) E s₃) E s₂) E s₁) E s) :
    wpG M A (exec (.AugAssign (.Name x pos') op value pos) env) Q E s := fun Γ p hΓ hC => by
  simp only [exec_AugAssign_Name, Sem.wp_bind', Sem.wp_holding, Sem.wp_cmd_standAt, Sem.wp_operate, Sem.wp_bindName, Sem.wp_pure']
  exact Sem.wp_mono M Γ _ (fun old p₁ s₁ h₁ => Sem.wp_mono M Γ _ (fun v _ s₂ h₂ => Sem.wp_mono M Γ _ (fun r _ s₃ h₃ => h₃ Γ _ hΓ)
    (fun _ _ _ h' => h') _ _ (h₂ Γ _ hΓ hC)) (fun _ _ _ h' => h') _ _ (h₁ Γ p₁ hΓ)) (fun _ _ _ h' => h') _ _ (h Γ _ hΓ)
theorem gExpr {e pos} {Q : Flow → Shared → Prop} (h : wpG M A (eval e env) (fun v s' => wpAny M A (dropValue e pos v) Q E s') E s)
    (hi : interactive env = false := by rfl) (hs : swapsWith e none pos.line env = pure false := by rfl) :
    wpG M A (exec (.Expr e pos) env) Q E s := by
  rw [exec_Expr env e pos hi hs]
  exact gBind (gStand (gBind (gMono h (fun v s' h' => lift h') fun _ _ x => x)))
theorem gWhile {test body orelse pos} {Q : Flow → Shared → Prop}
    (h : codeG M A (.whileLoop test body orelse env) (fun r s' => match r with | .ok f => Q f s' | .error e => cameBackBy M A env E e s') s) :
    wpG M A (exec (.While test body orelse pos) env) Q E s := by
  rw [exec_While]; exact gBind (gStand (gRunOwn rfl h))
theorem gFor {target iter body orelse pos} {Q : Flow → Shared → Prop}
    (h : wpAny M A (eval iter env) (fun x s₁ => wpAny M A (pyIter x) (fun it s₂ =>
      codeG M A (.forLoop target it body orelse env) (fun r s' => match r with | .ok f => Q f s' | .error e => cameBackBy M A env E e s') s₂) E s₁) E s)
    (hs : ∀ x, foldedSetIterable iter env x = pure x := by intro _; rfl) :
    wpG M A (exec (.For target iter body orelse pos) env) Q E s := by
  rw [exec_For]
  exact gBind (gStand (gBind (lift (wpAny_mono h (fun x s₁ h₁ => gBind (lift (wpAny_of_eq (hs x) (gBind (gStand (gBind (gHolding
    (lift (wpAny_mono h₁ (fun it s₂ h₂ => gRunOwn rfl h₂) fun _ _ h' => h'))))))))) fun _ _ h' => h'))))
end

section
variable {prog : Program} {w : World} {A : Around} {E : Value → Shared → Prop} {R : Result → Shared → Prop} {s : Shared}

theorem codeG_block {stmts : List Stmt} {env : Env}
    (h : wpG (model prog w) A (execs stmts env) (fun f s' => R (.ok f) s') (notedBy (model prog w) A env fun e s' => R (.error e) s') s) : codeG (model prog w) A (.block stmts env) R s := by
  refine codeG_of_tree ?_
  show wpG _ _ (do return Fin.done (← (execs stmts env).onRaise (fun x => do noteFrame x env; theTreesLotGoes x))) _ _ s
  exact gBind (gNoted (gMono h (fun f s' h' => gPure h') fun _ _ h' => h'))

theorem codeG_while {test body orelse env} (I : Nat → Shared → Prop)
    (turn : ∀ n s, I n s →
      wpAny (model prog w) A (isTrue test env (eval test env)) (fun b s₂ =>
        if b then wpG (model prog w) A (execs body env) (fun f s₃ => match f with
            | .next | .cont => ∃ m, m < n ∧ I m s₃
            | .brk => R (.ok .next) s₃
            | .ret v => R (.ok (.ret v)) s₃) (notedBy (model prog w) A env fun e s' => R (.error e) s') s₂
        else wpG (model prog w) A (execs orelse env) (fun f s₃ => R (.ok f) s₃) (notedBy (model prog w) A env fun e s' => R (.error e) s') s₂)
        (notedBy (model prog w) A env fun e s' => R (.error e) s') s)
    (n : Nat) (h : I n s) : codeG (model prog w) A (.whileLoop test body orelse env) R s := by
  refine codeG_loop rfl rfl I (fun n s hI => ?_) n h
  show wpG _ A ((whileTurn test body orelse env).onRaise (fun x => do noteFrame x env; theTreesLotGoes x)) _ _ s
  refine gNoted ?_
  simp only [whileTurn]
  refine gBind (lift (wpAny_mono (turn n s hI) (fun b s₂ h₂ => ?_) fun _ _ h' => h'))
  cases b with
  | false =>
    simp only [Bool.false_eq_true, if_false] at h₂ ⊢
    exact gBind (gMono h₂ (fun f s₃ h₃ => gPure h₃) fun _ _ h' => h')
  | true =>
    simp only [if_true] at h₂ ⊢
    refine gBind (gMono h₂ (fun f s₃ h₃ => ?_) fun _ _ h' => h')
    cases f with
    | next => exact gPure (.inl ⟨rfl, h₃⟩)
    | cont => exact gPure (.inl ⟨rfl, h₃⟩)
    | brk => exact gPure h₃
    | ret v => exact gPure h₃

theorem codeG_for {target it body env} (I : Nat → Shared → Prop)
    (turn : ∀ n s, I n s → wpAny (model prog w) A (pyNext it) (fun r s₁ => match r with
      | none => R (.ok .next) s₁
      | some v => wpAny (model prog w) A (assign target env v) (fun _ s₂ => wpG (model prog w) A (execs body env) (fun f s₃ => match f with
          | .next | .cont => ∃ m, m < n ∧ I m s₃
          | .brk => R (.ok .next) s₃
          | .ret v => R (.ok (.ret v)) s₃) (notedBy (model prog w) A env fun e s' => R (.error e) s') s₂) (notedBy (model prog w) A env fun e s' => R (.error e) s') s₁) (notedBy (model prog w) A env fun e s' => R (.error e) s') s)
    (n : Nat) (h : I n s) (ht : ∀ v, letOwnedTupleGo target it v = pure () := by intro _; rfl) : codeG (model prog w) A (.forLoop target it body [] env) R s := by
  refine codeG_loop rfl rfl I (fun n s hI => ?_) n h
  show wpG _ _ ((forTurn target it body [] env).onRaise (fun x => do noteFrame x env; theTreesLotGoes x)) _ _ s
  refine gNoted ?_
  simp only [forTurn]
  refine gBind (gStand (gBind (lift (wpAny_onRaise (wpAny_mono (turn n s hI) (fun r s₁ h₁ => ?_) fun _ _ h' => wpAny_standAt h')))))
  cases r with
  | none => exact gPure (.inr ⟨rfl, rfl, codeG_block (gExecsNil h₁)⟩)
  | some v =>
    refine gBind (lift (wpAny_of_eq (ht v) ?_))
    refine gBind (lift (wpAny_mono h₁ (fun _ s₂ h₂ => gBind (gMono h₂ (fun f s₃ h₃ => ?_) fun _ _ h' => h')) fun _ _ h' => h'))
    cases f with
    | next => exact gPure (.inl ⟨rfl, h₃⟩)
    | cont => exact gPure (.inl ⟨rfl, h₃⟩)
    | brk => exact gPure h₃
    | ret v => exact gPure h₃

theorem codeG_func {body env}
    (h : wpG (model prog w) (A.deeper env) (execs body env) (fun f s' => R (.ok (.ret (match f with | .ret v => v | _ => .none))) s')
      (fun e s' => wpAny (model prog w) (A.deeper env) (leaving env e) (fun _ s'' => R (.error e) s'') (fun e' s'' => R (.error e') s'') s') s) :
    codeG (model prog w) A (.func body env) R s := by
  refine codeG_of_tree ?_
  show wpG _ (A.deeper env) (do point; match ← (execs body env).onRaise (leaving env) with | .ret v => ret v | _ => ret .none) _ _ s
  refine gBind (lift (wpAny_point (gBind (gOnRaise (gMono h (fun f s' h' => ?_) fun _ _ h' => lift h')))))
  cases f <;> exact gPure h'

theorem codeG_call_function {a : Addr} {args : Args} {o : Obj} {fd : FuncData} {body : List Stmt} (hroom : A.depth < recursionLimit)
    (ho : s.heap.get? a = some o)
    (hd' : o.data = .func fd) (hco : fd.scope.isCoroutine = false) (hgen : fd.scope.isGenerator = false) (hbody : fd.body = .stmts body) (hcd : s.heap.CodeRec fd.code fd.qualname)
    (h : wpAny (model prog w) A.in1 (bindArgs fd args) (fun binds s₁ =>
      wpAny (model prog w) A.in1 (newFunctionEnv fd.scope fd.globals fd.closure binds (fd.qualname ++ ".<locals>.") (some a) fd.code none fd.builtins)
        (fun env s₂ => s₂.heap.NoLimit ∧ codeG (model prog w) A (.func body env) R s₂) (fun e s' => R (.error e) s') s₁) (fun e s' => R (.error e) s') s) :
    codeG (model prog w) A (.call (.ref a) args) R s := by
  refine codeG_of_tree (lift ?_)
  show wpAny _ A.in1 (callAny (.ref a) args) _ _ s
  simp only [callAny]
  refine wpAny_bind (wpAny_load ho ?_)
  obtain ⟨c, oc, vs, tq, hc, hoc, hdc, hq⟩ := hcd
  simp only [hd', callFunction, hco, hgen, hbody, hc]
  rw [hc] at h
  refine wpAny_bind (m := field (.ref c) 1) (wpAny_field hoc hdc hq (wpAny_bind (wpAny_pure ?_)))
  exact wpAny_bind (wpAny_mono h (fun binds s₁ h₁ => wpAny_bind (wpAny_mono h₁ (fun env s₂ h₂ => wpAny_bind (wpAny_enterFrame h₂.1 hroom
    (wpAny_pure (And.intro rfl ⟨rfl, h₂.2⟩)))) fun _ _ h' => h')) fun _ _ h' => h')
end
end Mine
namespace Mine
open Sem (wp)

theorem clean_caller : Clean ⟨.builtin "claim.caller" {}, none, none, [], none⟩ := ⟨by decide +kernel, fun _ h => nomatch h⟩

theorem wpG_done {M : Model} {A : Around} {Γ : Ctx} {t : Sem Fin} {R : Result → Shared → Prop} {s : Shared} (hin : Γ.In A) (hC : Clean Γ)
    (h : wpG M A t (fun fin s' => ∃ f, fin = .done f ∧ R (.ok f) s') (fun e s' => R (.error e) s') s) (p : Pos) :
    wp M Γ t (Sem.finPost M Γ R) (fun e _ s' => R (.error e) s') p s :=
  Sem.wp_mono M Γ t (fun _ _ _ ⟨_, e, hf⟩ => e ▸ hf) (fun _ _ _ h' => h') p s (h Γ p hin hC)

/-- the machine's end, from a clean walk of the caller's tree -/
theorem callFromG {c : ClaimW} {tree : List Value → Sem Fin} {w : World} {s : Shared} {free : Addr → Prop} {gens : Prop} {kept : Heap → Prop} (hz : s.asleep) (hgens : s.gens = #[])
    (hspec : ∀ args, c.pre args = true → WData.layableAll args = true → ∀ ord : List DictEntry → List DictEntry, (∀ l, (ord l).Perm l) →
      ∃ vs s₁, layAllW c.records (classAt s.heap) w.params ord args s = some (vs, s₁) ∧
        wpG (model c.prog w) callerA (tree vs) (fun fin s' => ∃ f, fin = .done f ∧ (c.Ends s args vs s₁ (.ok f) s' ∧ s'.os = s.os ∧ AllBare s'.gens ∧ kept s'.heap))
          (fun e s' => c.Ends s args vs s₁ (.error e) s' ∧ s'.os = s.os ∧ AllBare s'.gens ∧ kept s'.heap) s₁) :
    c.CallFrom (fun vs => ⟨tree vs, .builtin "claim.caller" {}, default, []⟩) w free gens kept s := by
  intro args hpre hlay ord hord
  obtain ⟨vs, s₁, hlaid, hcode⟩ := hspec args hpre hlay ord hord
  have hal := layAllW_rest _ _ _ hlaid
  have hwp := wpG_done (R := fun r s' => (c.Ends s args vs s₁ r s' ∧ s'.os = s.os ∧ kept s'.heap) ∧ leftWithCleanup s'.gens = false) caller_in clean_caller
    (gMono hcode (fun _ _ ⟨f, e, h1, h2, h3, h4⟩ => ⟨f, e, ⟨h1, h2, h4⟩, leftWithCleanup_false_of_bare h3⟩)
      fun _ _ ⟨h1, h2, h3, h4⟩ => ⟨⟨h1, h2, h4⟩, leftWithCleanup_false_of_bare h3⟩) default
  obtain ⟨k, r, s'', s', hsched, hrun, hfo, hcase, hos, hkp⟩ := wp_halts_full (M := model c.prog w) (R := fun r s' => c.Ends s args vs s₁ r s' ∧ s'.os = s.os ∧ kept s'.heap) (Shared.asleep_of_life hal.2.2.2 hz) hwp
  obtain ⟨eh, _, _, eo, _⟩ := Shared.forget_eq hfo
  have hcase := hcase.congr eh
  rw [← eh] at hkp
  rw [← eo] at hos
  have hlife : s'.heap.life = s.heap.life := (runN_life _ _ _ hrun).trans hal.2.2.2
  refine ⟨vs, s₁, hlaid, k, _, s', hsched, ?_, (fun _ i x hx => by rw [hgens] at hx; simp at hx), hkp, by rw [hlife], Shared.rest_eq hos⟩
  rcases hcase with ⟨v, rfl, d1, d2, d3, d4, d5⟩ | ⟨e, ob, cls, rfl, d1, d2, d3, d4, d5⟩
  · exact .inl ⟨v, rfl, d1, d2, d3, fun b o y _ => d4 b o y, d5⟩
  · exact .inr ⟨e, ob, cls, rfl, d1, d2, d3, d4, fun b o y _ => d5 b o y⟩

/-- what is to be walked, in clean contexts -/
def WalkG (q : Program) (loose : List Str) (XP : (Str → Option Value) → Heap → Prop) (YP : World → Heap → Prop) (r : RowW) (d : DefRec) (kwd : List (Str × PySem.Expr)) : Prop :=
  ∀ (w : World) (s₀ s₁ : Shared) (mg mb : Str → Option Value), Ground q loose r.records XP w s₀ mg mb s₁.heap → YP w s₁.heap → ∀ (a : Addr) (o : Obj) (pm cd doc dV kV : Value), s₁.heap.get? a = some o →
    o.data = .func { docDef d.name d.params d.body d.scope pm cd doc with defaults := dV, kwdefaults := kV } → s₁.heap.CodeRec cd d.name → Dflts mg s₁.heap d.params kwd dV kV → mg d.name = some (.ref a) → s₁.gens = #[] →
    ∀ (args : List WData) (vals : List Value) (as : List Addr), r.claim.pre args = true → WData.layableAll args = true → ReadsAllW r.records (classAt s₀.heap) s₁.heap vals args as → WellAll w.params s₁.heap vals args → (∀ a ∈ as, (a == sysModules) = false) →
      wpG (model r.prog w) callerA (PySem.call (.ref a) vals) (fun v s' => GoodWG r.claim (classAt s₀.heap) (ExcName.means s₀.heap) args s₁ (.ok (.ret v)) s')
        (fun e s' => GoodWG r.claim (classAt s₀.heap) (ExcName.means s₀.heap) args s₁ (.error e) s') s₁

theorem PySem.W.holds_open {r : OpenRow} {q : Program} {loose : List Str} {Xt : Shared → Bool} {XP : (Str → Option Value) → Heap → Prop} {α : Type} {Yf : Shared → α} {Ya : World → α} {YP : World → Heap → Prop} {d : DefRec} {kwd : List (Str × PySem.Expr)} {N : Nat}
    (left : LeftO r.prog q loose Xt Yf Ya N) (hY : ∀ w s, Yf s = Ya w → YP w s.heap) (hYk : ∀ w h h', YP w h → (∀ b o, h.get? b = some o → h'.get? b = some o) → YP w h')
    (hX : ∀ s, Xt s = true → XP (s.heap.nsMap mainGlobals) s.heap) (hXk : ∀ mg h h', XP mg h → (∀ b o, h.get? b = some o → h'.get? b = some o) → XP mg h')
    (hdef : defOf q r.name = some (d, kwd)) (hp : r.prog.theDef r.name = some (d.params, d.body, d.scope)) (hk : kwWritten? d.params.kwonlyargs d.params.kw_defaults = some kwd) (hRf : ∀ s, Xt s = true → RecFacts r.records s.heap) (hwr : (!r.writes || r.records.isEmpty) = true)
    (k1 : r.wellSaid = true) (ok : (chainsOk q && opensWell r.prog && (frees r.toRowW && r.within.isEmpty)) = true) (hb : r.prog.bare) (hw : r.toRowW.promised)
    (call : WalkG q loose XP YP r.toRowW d kwd) : r.Holds := by
  refine ⟨k1, hw, ?_⟩
  simp only [Bool.and_eq_true] at ok
  obtain ⟨⟨hch, o1⟩, k5, k6⟩ := ok
  obtain ⟨hsame, hu, ha, hap, hm⟩ := frees_parts k5
  refine ⟨⟨hb, o1, by show r.makers.map _ = []; rw [hm]; rfl⟩, hw.witness, fun w => ⟨(left.behind hX hch w).1, fun s' hs' => ?_⟩⟩
  obtain ⟨s₀, hf, hg0, s, hT, hz, hgens, hg, G00, y⟩ := (left.behind (XP := fun mg h => XP mg h ∧ RecFacts r.records h) (fun s hs => ⟨hX s hs, hRf s hs⟩) hch w).2 s' hs'
  have G0 : Ground q loose [] XP w s (s.heap.nsMap mainGlobals) (s.heap.nsMap builtinsNs) s.heap := ⟨G00.T, G00.B, G00.D, G00.TE, G00.TD, G00.W, G00.X.1, G00.cls, G00.has, G00.apart, G00.once, G00.K⟩
  have RF := G00.X.2
  refine ⟨s₀, hf, hg0, s, hT, fun n hn => ?_, RF.1, RF.2.1, ?_⟩
  · obtain rfl : n = r.name := by split at hn <;> simp_all
    exact pinned_of_view hg G0 hdef hp hk
  have hgens : s.gens = #[] := Array.eq_empty_of_size_eq_zero (beq_iff_eq.mp hgens)
  have G : Ground q loose r.records XP w s _ _ s.heap := RF.ground G0
  refine callFromG (c := r.claim) (tree := fun vs => do match ← nsGet mainNs r.name with
      | some f => do ret (← PySem.call f vs)
      | none => unsupported "claim.caller:no-such-global") hz hgens fun args hpre hlay ord hord => ?_
  obtain ⟨⟨vs, s₁⟩, hlaid⟩ := Option.isSome_iff_exists.mp (layAllW_isSome (P := w.params) (ord := ord) G.has args r.args s (pre_splitW hpre).1)
  have keeps := layAllW_keeps _ _ _ hlaid
  have hal := layAllW_rest _ _ _ hlaid
  obtain ⟨as, hrd, hin, hold⟩ := reads_layAllW hord _ _ _ hlaid hlay s₁.heap (fun _ _ e => e)
  have L : Laid r.records w s s₁ args vs as := ⟨⟨ord, hord, hlaid⟩, hrd, hin, hold, keeps, hal.1.trans hgens, hal.2.2.1⟩
  have G₁ := G.keeps hXk keeps
  have hi := ident_freeW hu ha hap
  have hwi : r.claim.within = [] := List.isEmpty_iff.mp k6
  obtain ⟨a, o, pm, cd, doc, dV, kV, h1, h2, h3, h4, h5⟩ := G₁.fn hdef
  have W := call w s s₁ _ _ G₁ (hYk _ _ _ (hY w s y) keeps) a o pm cd doc dV kV h2 h3 h4 h5 (defOf_name hdef ▸ h1) L.gens args vs as hpre hlay L.reads L.well (L.low G.low)
  have fin : ∀ res s', GoodWG r.claim (classAt s.heap) (ExcName.means s.heap) args s₁ res s' → r.claim.Ends s args vs s₁ res s' ∧ s'.os = s.os ∧ AllBare s'.gens ∧
      (r.writes = true → namesKept r.claim.prog r.keeps s.heap s'.heap ∧ ∀ x ∈ r.claim.records, ∀ a, classAt s.heap x.1 = some a → recordClass s'.heap a x.1 (x.2.map (·.1)) = true) := fun res s' g => by
    have z := g.laid (c := r.claim) hsame hwi hi L
    exact ⟨z.1, z.2.1, z.2.2, fun q => ⟨namesKept_of hT hg r.keeps keeps g.2.1.old, noTable hwr q⟩⟩
  refine ⟨vs, s₁, hlaid, gBind (lift (wpAny_nsGet G₁.T.g ?_))⟩
  rw [h1]
  exact gBind (gMono W (fun v s' g => gPure ⟨_, rfl, fin _ _ g⟩) fun e s' g => fin _ _ g)
end Mine
namespace Mine
set_option maxHeartbeats 8000000 in
open_top hd for PySem.Challenge.rw_md0006_01
end Mine
namespace Mine
open Sem (wp)

/-! what is known of a local's value, and of an object made -/
inductive V where
  | int (i : Int)
  | bytes (b : List UInt8)
  | val (v : Value)
def V.Is : V → Value → Prop
  | .int i, v => ∃ t, v = .int i t
  | .bytes b, v => ∃ t, v = .bytes b.toArray t
  | .val u, v => v = u

def itn : Value → String
  | .ref _ => "bytearray_iterator"
  | _ => "bytes_iterator"
inductive Sh where
  | ints (ns : List Int)
  | piter (v : Value) (i : Nat)
  | barr (b : List UInt8)
  | liter (l : Addr) (i : Nat)
  | obj (o : Obj)
def Sh.Is : Sh → Obj → Prop
  | .ints ns, o => ∃ vs k, o = { cls := .type "list", data := .seq vs.toArray k } ∧ IntsAre vs ns
  | .barr b, o => o = { cls := .type "bytearray", data := .bytearray b.toArray 0 }
  | .piter v i, o => o.cls = .type (itn v) ∧ o.data = .fields #[v, .int i 0]
  | .liter l i, o => o.cls = .type "list_iterator" ∧ o.data = .fields #[.ref l, .int i 0]
  | .obj o', o => o = o'

inductive Upd (a : Addr) (x y : Sh) : List (Addr × Sh) → List (Addr × Sh) → Prop
  | head (r : List (Addr × Sh)) : Upd a x y ((a, x) :: r) ((a, y) :: r)
  | tail (p : Addr × Sh) {r r' : List (Addr × Sh)} : Upd a x y r r' → Upd a x y (p :: r) (p :: r')
theorem Upd.mem {a x y r r'} (u : Upd a x y r r') : (a, x) ∈ r := by
  induction u with
  | head r => exact .head _
  | tail p _ ih => exact .tail _ ih
theorem Upd.fst {a x y r r'} (u : Upd a x y r r') : r'.map (·.1) = r.map (·.1) := by
  induction u with
  | head r => rfl
  | tail p _ ih => simp [ih]
theorem Upd.cases {a x y r r'} (u : Upd a x y r r') (nd : (r.map (·.1)).Nodup) : ∀ p ∈ r', p = (a, y) ∨ (p ∈ r ∧ p.1 ≠ a) := by
  induction u with
  | head r =>
    intro p hp
    rcases List.mem_cons.mp hp with rfl | hp
    · exact .inl rfl
    · refine .inr ⟨.tail _ hp, fun e => ?_⟩
      simp only [List.map_cons, List.nodup_cons] at nd
      exact nd.1 (e ▸ List.mem_map_of_mem hp)
  | @tail q r r' u ih =>
    intro p hp
    simp only [List.map_cons, List.nodup_cons] at nd
    rcases List.mem_cons.mp hp with rfl | hp
    · refine .inr ⟨.head _, fun e => nd.1 (e ▸ List.mem_map_of_mem u.mem)⟩
    · exact (ih nd.2 p hp).imp id fun h => ⟨.tail _ h.1, h.2⟩

/-- all of h stands in h'; of the objects at Fs (frames of callers) the slots may differ -/
def Kh (Fs : List Addr) (h h' : Heap) : Prop := (∀ b o, h.get? b = some o → b ∉ Fs → h'.get? b = some o) ∧ ∀ b o, h.get? b = some o → ∃ sl, h'.get? b = some { o with slots := sl }
theorem Kh.refl (Fs : List Addr) (h : Heap) : Kh Fs h h := ⟨fun _ _ e _ => e, fun _ o e => ⟨o.slots, e⟩⟩
theorem Kh.of {Fs : List Addr} {h h' : Heap} (k : ∀ b o, h.get? b = some o → h'.get? b = some o) : Kh Fs h h' := ⟨fun b o e _ => k b o e, fun b o e => ⟨o.slots, k b o e⟩⟩
theorem Kh.trans {Fs : List Addr} {h h' h'' : Heap} (x : Kh Fs h h') (y : Kh Fs h' h'') : Kh Fs h h'' :=
  ⟨fun b o e n => y.1 b o (x.1 b o e n) n, fun b o e => let ⟨_, e₁⟩ := x.2 b o e; let ⟨sl, e₂⟩ := y.2 b _ e₁; ⟨sl, e₂⟩⟩
theorem Kh.mono {Fs Gs : List Addr} {h h' : Heap} (x : Kh Fs h h') (hs : ∀ a ∈ Fs, a ∈ Gs) : Kh Gs h h' := ⟨fun b o e n => x.1 b o e fun q => n (hs b q), x.2⟩
/-- what stands below a bound goes on to stand -/
theorem Kh.on {Fs : List Addr} {h h₁ h₂ : Heap} (x : Kh Fs h h₁) (k : ∀ b o, b < h.objs.size → h₁.get? b = some o → h₂.get? b = some o) : Kh Fs h h₂ :=
  ⟨fun b o e n => k b o (Heap.lt_size e) (x.1 b o e n), fun b o e => let ⟨sl, e₁⟩ := x.2 b o e; ⟨sl, k b _ (Heap.lt_size e) e₁⟩⟩
theorem Kh.ns {Fs : List Addr} {h h' : Heap} {a : Addr} {m : Str → Option Value} (x : Kh Fs h h') (n : h.Ns a m) : h'.Ns a m :=
  let ⟨o, es, ep, e, r⟩ := n; let ⟨_, e'⟩ := x.2 a o e; ⟨_, es, ep, e', r⟩
theorem Kh.exact {h h' : Heap} (x : Kh [] h h') : ∀ b o, h.get? b = some o → h'.get? b = some o := fun b o e => x.1 b o e (fun q => nomatch q)

/-- the state within a call: s₀ the state ahead of the call, L its frame's table, l the names that are known, nw the objects that it made -/
structure St (Fs : List Addr) (s₀ : Shared) (L : Addr) (l : List (Str × V)) (nw : List (Addr × Sh)) (s : Shared) : Prop where
  ns : ∃ m, s.heap.Ns L m ∧ ∀ x u, l.lookup x = some u → ∃ v, m x = some v ∧ u.Is v
  keep : Kh Fs s₀.heap s.heap
  above : s₀.heap.objs.size ≤ L
  new : ∀ p ∈ nw, ∃ o, s.heap.get? p.1 = some o ∧ p.2.Is o ∧ p.1 ≠ L ∧ s₀.heap.objs.size ≤ p.1
  nd : (nw.map (·.1)).Nodup
  gens : s.gens = s₀.gens
  os : s.os = s₀.os

section
variable {Fs : List Addr} {s₀ s s' : Shared} {L : Addr} {l l' : List (Str × V)} {nw nw' : List (Addr × Sh)}

theorem St.toks (S : St Fs s₀ L l nw s) (hh : s'.heap = s.heap := by rfl) (hg : s'.gens = s.gens := by rfl) (ho : s'.os = s.os := by rfl) : St Fs s₀ L l nw s' := by
  obtain ⟨a, b, c, d, e, f, g⟩ := S
  exact ⟨hh ▸ a, hh ▸ b, c, hh ▸ d, e, hg.trans f, ho.trans g⟩
/-- all that stood stands, and more -/
theorem St.grow (S : St Fs s₀ L l nw s) (hk : ∀ b o, s.heap.get? b = some o → s'.heap.get? b = some o) (hg : s'.gens = s.gens := by rfl) (ho : s'.os = s.os := by rfl) : St Fs s₀ L l nw s' := by
  obtain ⟨⟨m, hm, a⟩, b, c, d, e, f, g⟩ := S
  exact ⟨⟨m, hm.keeps hk, a⟩, b.on fun x o _ q => hk _ _ q, c, fun p hp => let ⟨o, q, r⟩ := d p hp; ⟨o, hk _ _ q, r⟩, e, hg.trans f, ho.trans g⟩
/-- the same, the frames of Gs (this one's and its callers') in their slots -/
theorem St.growF {Gs : List Addr} (S : St Fs s₀ L l nw s) (hk : Kh Gs s.heap s'.heap) (hG : ∀ a ∈ Gs, a = L ∨ a ∈ Fs) (hN : ∀ p ∈ nw, p.1 ∉ Gs) (hg : s'.gens = s.gens := by rfl) (ho : s'.os = s.os := by rfl) : St Fs s₀ L l nw s' := by
  obtain ⟨⟨m, hm, a⟩, b, c, d, e, f, g⟩ := S
  refine ⟨⟨m, hk.ns hm, a⟩, ⟨fun z o q n => hk.1 z o (b.1 z o q n) fun w => ?_, ((b.mono (Gs := Fs ++ Gs) fun _ h => List.mem_append_left _ h).trans (hk.mono (Gs := Fs ++ Gs) fun _ h => List.mem_append_right _ h)).2⟩, c, fun p hp => let ⟨o, q, r⟩ := d p hp; ⟨o, hk.1 _ _ q (hN p hp), r⟩, e, hg.trans f, ho.trans g⟩
  rcases hG z w with rfl | w
  · exact absurd (Heap.lt_size q) (Nat.not_lt.mpr c)
  · exact n w
theorem St.add {o : Obj} {x : Sh} {a : Addr} (S : St Fs s₀ L l nw s) (ha : s.heap.objs.size ≤ a) (hk : ∀ b o, s.heap.get? b = some o → s'.heap.get? b = some o) (hn : s'.heap.get? a = some o) (hx : x.Is o)
    (hg : s'.gens = s.gens := by rfl) (ho : s'.os = s.os := by rfl) : St Fs s₀ L l ((a, x) :: nw) s' := by
  have G := S.grow hk hg ho
  obtain ⟨⟨m, hm, a1⟩, b1, c, d, e, f, g⟩ := S
  refine ⟨G.ns, G.keep, G.above, ?_, ?_, G.gens, G.os⟩
  · intro p hp
    rcases List.mem_cons.mp hp with rfl | hp
    · refine ⟨o, hn, hx, fun q => ?_, Nat.le_trans c (Nat.le_trans (Nat.le_of_lt hm.lt) ha)⟩
      have : L < s.heap.objs.size := hm.lt
      exact absurd (q ▸ ha) (Nat.not_le.mpr this)
    · exact G.new p hp
  · rw [List.map_cons, List.nodup_cons]
    refine ⟨fun q => ?_, e⟩
    obtain ⟨p, hp, rfl⟩ := List.mem_map.mp q
    obtain ⟨o', ho', _⟩ := d p hp
    exact absurd (Heap.lt_size ho') (Nat.not_lt.mpr ha)
theorem St.push {o : Obj} {x : Sh} (S : St Fs s₀ L l nw s) (hx : x.Is o) (hf : o.isFreed = false := by rfl) (hh : s'.heap = s.heap.push o := by rfl) (hg : s'.gens = s.gens := by rfl) (ho : s'.os = s.os := by rfl) :
    St Fs s₀ L l ((s.heap.objs.size, x) :: nw) s' :=
  S.add (Nat.le_refl _) (fun b o' q => by rw [hh]; exact Heap.get?_push_of_some _ q) (by rw [hh]; exact Heap.get?_push_size _ hf) hx hg ho
theorem St.pushed {o : Obj} (S : St Fs s₀ L l nw s) (hh : s'.heap = s.heap.push o := by rfl) (hg : s'.gens = s.gens := by rfl) (ho : s'.os = s.os := by rfl) : St Fs s₀ L l nw s' :=
  S.grow (fun b o' q => by rw [hh]; exact Heap.get?_push_of_some _ q) hg ho
theorem St.sub (S : St Fs s₀ L l nw s) (hs : nw'.Sublist nw) : St Fs s₀ L l nw' s :=
  ⟨S.ns, S.keep, S.above, fun p hp => S.new p (hs.subset hp), (hs.map _).nodup S.nd, S.gens, S.os⟩
theorem St.names (S : St Fs s₀ L l nw s) (hs : ∀ p ∈ l', l.lookup p.1 = some p.2) : St Fs s₀ L l' nw s := by
  obtain ⟨⟨m, hm, a⟩, b, c, d, e, f, g⟩ := S
  refine ⟨⟨m, hm, fun x u hu => ?_⟩, b, c, d, e, f, g⟩
  have : (x, u) ∈ l' := by
    clear hs
    induction l' with
    | nil => cases hu
    | cons p r ih =>
      obtain ⟨y, w⟩ := p
      rw [List.lookup_cons] at hu
      split at hu
      · rename_i h; cases hu; rw [beq_iff_eq.mp h]; exact .head _
      · exact .tail _ (ih hu)
  exact a x u (hs _ this)
theorem St.upd {a : Addr} {x y : Sh} {o : Obj} (S : St Fs s₀ L l nw s) (u : Upd a x y nw nw') (hs : Heap.ExtBut a s.heap s'.heap) (hn : s'.heap.get? a = some o) (hy : y.Is o)
    (hg : s'.gens = s.gens := by rfl) (ho : s'.os = s.os := by rfl) : St Fs s₀ L l nw' s' := by
  obtain ⟨⟨m, hm, b⟩, c, d, e, f, g, i⟩ := S
  obtain ⟨oa, hoa, _, hL, hA⟩ := e _ u.mem
  refine ⟨⟨m, hm.extBut hs (Ne.symm hL), b⟩, c.on fun z o' lt q => hs z o' (fun w => ?_) q, d, fun p hp => ?_, by rw [u.fst]; exact f, hg.trans g, ho.trans i⟩
  · subst w; exact absurd lt (Nat.not_lt.mpr hA)
  · rcases u.cases f p hp with rfl | ⟨hp, hne⟩
    · exact ⟨o, hn, hy, hL, hA⟩
    · obtain ⟨o', h1, h2⟩ := e p hp
      exact ⟨o', hs _ _ hne h1, h2⟩
/-- an object is forgotten -/
theorem St.forget {a : Addr} {x : Sh} (S : St Fs s₀ L l ((a, x) :: nw) s) (hs : Heap.ExtBut a s.heap s'.heap) (hg : s'.gens = s.gens := by rfl) (ho : s'.os = s.os := by rfl) : St Fs s₀ L l nw s' := by
  obtain ⟨⟨m, hm, b⟩, c, d, e, f, g, i⟩ := S
  obtain ⟨oa, hoa, _, hL, hA⟩ := e _ (.head _)
  simp only [List.map_cons, List.nodup_cons] at f
  refine ⟨⟨m, hm.extBut hs (Ne.symm hL), b⟩, c.on fun z o' lt q => hs z o' (fun w => ?_) q, d, fun p hp => ?_, f.2, hg.trans g, ho.trans i⟩
  · subst w; exact absurd lt (Nat.not_lt.mpr hA)
  · obtain ⟨o', h1, h2⟩ := e p (.tail _ hp)
    exact ⟨o', hs _ _ (fun q => f.1 (q ▸ List.mem_map_of_mem hp)) h1, h2⟩
theorem St.perm (S : St Fs s₀ L l nw s) (hp : nw.Perm nw') : St Fs s₀ L l nw' s :=
  ⟨S.ns, S.keep, S.above, fun p h => S.new p (hp.mem_iff.mpr h), (hp.map _).nodup_iff.mp S.nd, S.gens, S.os⟩
theorem St.ints {a : Addr} {ns : List Int} (S : St Fs s₀ L l nw s) (hm : (a, Sh.ints ns) ∈ nw) : ∃ vs k, s.heap.get? a = some { cls := .type "list", data := .seq vs.toArray k } ∧ IntsAre vs ns := by
  obtain ⟨o, ho, ⟨vs, k, rfl, hi⟩, _⟩ := S.new _ hm
  exact ⟨vs, k, ho, hi⟩
theorem St.isList {a : Addr} {ns : List Int} (S : St Fs s₀ L l nw s) (hm : (a, Sh.ints ns) ∈ nw) : ∃ vs, s.heap.IsList a vs.toArray ∧ IntsAre vs ns := by
  obtain ⟨vs, k, h, hi⟩ := S.ints hm
  exact ⟨vs, ⟨_, h, rfl, k, rfl⟩, hi⟩
theorem St.barr {a : Addr} {b : List UInt8} (S : St Fs s₀ L l nw s) (hm : (a, Sh.barr b) ∈ nw) : s.heap.get? a = some { cls := .type "bytearray", data := .bytearray b.toArray 0 } := by
  obtain ⟨o, ho, e, _⟩ := S.new _ hm
  rw [ho, show o = _ from e]
theorem St.obj {a : Addr} {o : Obj} (S : St Fs s₀ L l nw s) (hm : (a, Sh.obj o) ∈ nw) : s.heap.get? a = some o := by
  obtain ⟨o', ho, e, _⟩ := S.new _ hm
  rw [ho, show o' = _ from e]
end

/-! names -/
section
variable {M : Model} {A : Around} {E : Value → Shared → Prop} {Fs : List Addr} {s₀ s : Shared} {name : Str} {scope : Scope} {L a : Addr} {cd : Value} {l : List (Str × V)} {nw : List (Addr × Sh)} {x : Str} {p : Pos} {Q : Value → Shared → Prop}

theorem ld {u : V} (S : St Fs s₀ L l nw s) (hv : l.lookup x = some u) (h : ∀ v, u.Is v → Q v s) (hk : scope.kind = .function := by rfl) (hl : (envOf name scope L a cd).kindOf x = some .local := by rfl) :
    wpAny M A (loadName (envOf name scope L a cd) x) Q E s := by
  obtain ⟨m, hm, b⟩ := S.ns
  obtain ⟨v, h1, h2⟩ := b x u hv
  exact wpAny_loadName_local hk hl hm h1 (h v h2)
theorem nm {u : V} (S : St Fs s₀ L l nw s) (hv : l.lookup x = some u) (h : ∀ v, u.Is v → Q v s) (hk : scope.kind = .function := by rfl) (hl : (envOf name scope L a cd).kindOf x = some .local := by rfl)
    (hd : (x == ("__debug__" : Str)) = false := by decide) : wpAny M A (eval (.Name x p) (envOf name scope L a cd)) Q E s := wpAny_Name (ld S hv h hk hl) hd
theorem ldI {i : Int} (S : St Fs s₀ L l nw s) (hv : l.lookup x = some (.int i)) (h : ∀ t, Q (.int i t) s) (hk : scope.kind = .function := by rfl) (hl : (envOf name scope L a cd).kindOf x = some .local := by rfl) :
    wpAny M A (loadName (envOf name scope L a cd) x) Q E s := ld S hv (fun _ ⟨t, e⟩ => e ▸ h t) hk hl
theorem nmI {i : Int} (S : St Fs s₀ L l nw s) (hv : l.lookup x = some (.int i)) (h : ∀ t, Q (.int i t) s) (hk : scope.kind = .function := by rfl) (hl : (envOf name scope L a cd).kindOf x = some .local := by rfl)
    (hd : (x == ("__debug__" : Str)) = false := by decide) : wpAny M A (eval (.Name x p) (envOf name scope L a cd)) Q E s := nm S hv (fun _ ⟨t, e⟩ => e ▸ h t) hk hl hd
theorem nmB {b : List UInt8} (S : St Fs s₀ L l nw s) (hv : l.lookup x = some (.bytes b)) (h : ∀ t, Q (.bytes b.toArray t) s) (hk : scope.kind = .function := by rfl) (hl : (envOf name scope L a cd).kindOf x = some .local := by rfl)
    (hd : (x == ("__debug__" : Str)) = false := by decide) : wpAny M A (eval (.Name x p) (envOf name scope L a cd)) Q E s := nm S hv (fun _ ⟨t, e⟩ => e ▸ h t) hk hl hd
theorem ldV {v : Value} (S : St Fs s₀ L l nw s) (hv : l.lookup x = some (.val v)) (h : Q v s) (hk : scope.kind = .function := by rfl) (hl : (envOf name scope L a cd).kindOf x = some .local := by rfl) :
    wpAny M A (loadName (envOf name scope L a cd) x) Q E s := ld S hv (fun _ e => (show _ = v from e) ▸ h) hk hl
theorem nmV {v : Value} (S : St Fs s₀ L l nw s) (hv : l.lookup x = some (.val v)) (h : Q v s) (hk : scope.kind = .function := by rfl) (hl : (envOf name scope L a cd).kindOf x = some .local := by rfl)
    (hd : (x == ("__debug__" : Str)) = false := by decide) : wpAny M A (eval (.Name x p) (envOf name scope L a cd)) Q E s := nm S hv (fun _ e => (show _ = v from e) ▸ h) hk hl hd

theorem st {v : Value} {u : V} {Q : Unit → Shared → Prop} (S : St Fs s₀ L l nw s) (hu : u.Is v) (h : ∀ s', St Fs s₀ L ((x, u) :: l) nw s' → Q () s')
    (hk : scope.kind = .function := by rfl) (hl : (envOf name scope L a cd).kindOf x = some .local := by rfl) : wpAny M A (storeName (envOf name scope L a cd) x v) Q E s := by
  obtain ⟨⟨m, hm, b⟩, c, d, e, f, g, i⟩ := S
  refine wpAny_storeName_local hl hm (fun h' hn hs => h _ ⟨⟨_, hn, fun y w hw => ?_⟩, c.on fun z o lt q => ?_, d, fun p hp => ?_, f, g, i⟩)
    (by show (scope.kind == .class || (scope.kind == .module && L != mainGlobals)) = false; rw [hk]; rfl)
  · rw [List.lookup_cons] at hw
    split at hw
    · rename_i q; cases hw; rw [if_pos (beq_iff_eq.mp q)]; exact ⟨v, rfl, hu⟩
    · rename_i q; rw [if_neg (beq_eq_false_iff_ne.mp q)]; exact b y w hw
  · exact (hs.2 z (Nat.ne_of_lt (Nat.lt_of_lt_of_le lt d))).trans q
  · obtain ⟨o, h1, h2, h3, h4⟩ := e p hp
    exact ⟨o, (hs.2 p.1 h3).trans h1, h2, h3, h4⟩
theorem stI {i : Int} {t : Tok} {Q : Unit → Shared → Prop} (S : St Fs s₀ L l nw s) (h : ∀ s', St Fs s₀ L ((x, .int i) :: l) nw s' → Q () s')
    (hk : scope.kind = .function := by rfl) (hl : (envOf name scope L a cd).kindOf x = some .local := by rfl) : wpAny M A (storeName (envOf name scope L a cd) x (.int i t)) Q E s := st (u := .int i) S ⟨t, rfl⟩ h hk hl
theorem stB {b : List UInt8} {t : Tok} {Q : Unit → Shared → Prop} (S : St Fs s₀ L l nw s) (h : ∀ s', St Fs s₀ L ((x, .bytes b) :: l) nw s' → Q () s')
    (hk : scope.kind = .function := by rfl) (hl : (envOf name scope L a cd).kindOf x = some .local := by rfl) : wpAny M A (storeName (envOf name scope L a cd) x (.bytes b.toArray t)) Q E s := st (u := .bytes b) S ⟨t, rfl⟩ h hk hl
theorem stV {v : Value} {Q : Unit → Shared → Prop} (S : St Fs s₀ L l nw s) (h : ∀ s', St Fs s₀ L ((x, .val v) :: l) nw s' → Q () s')
    (hk : scope.kind = .function := by rfl) (hl : (envOf name scope L a cd).kindOf x = some .local := by rfl) : wpAny M A (storeName (envOf name scope L a cd) x v) Q E s := st (u := .val v) S rfl h hk hl
end
end Mine
namespace Mine
open Sem (wp)

/-- the text's own objects K stand, and the tables of names -/
structure Bs (K : Frag) (h : Heap) : Prop where
  X : K.In h
  T : ∃ p loose mg mb, TopRead p loose mg mb h
theorem Bs.keeps {K : Frag} {h h' : Heap} (B : Bs K h) (hk : ∀ b o, h.get? b = some o → h'.get? b = some o) : Bs K h' :=
  ⟨B.X.keeps hk, let ⟨p, lo, mg, mb, T⟩ := B.T; ⟨p, lo, mg, mb, T.keeps hk⟩⟩
theorem Bs.lim {K : Frag} {h : Heap} (B : Bs K h) : h.NoLimit := let ⟨_, _, _, _, T⟩ := B.T; T.nolimit

/-- a call keeps all that stood (its callers' frames but for their slots) -/
structure Kp (Fs : List Addr) (s s' : Shared) : Prop where
  keep : Kh Fs s.heap s'.heap
  gens : s'.gens = s.gens
  os : s'.os = s.os
theorem St.kp {Fs : List Addr} {s₀ s : Shared} {L : Addr} {l nw} (S : St Fs s₀ L l nw s) : Kp Fs s₀ s := ⟨S.keep, S.gens, S.os⟩
theorem St.bs {K : Frag} {s₀ s : Shared} {L : Addr} {l nw} (S : St [] s₀ L l nw s) (B : Bs K s₀.heap) : Bs K s.heap := B.keeps S.keep.exact
/-- a state behind a call of which this frame was the caller -/
theorem St.kept {Fs : List Addr} {s₀ s s' : Shared} {L : Addr} {l nw} (S : St Fs s₀ L l nw s) (k : Kp (L :: Fs) s s') (hF : ∀ a ∈ Fs, a < s₀.heap.objs.size) : St Fs s₀ L l nw s' :=
  S.growF k.keep (fun a h => List.mem_cons.mp h) (fun p hp q => by
    obtain ⟨_, _, _, h1, h2⟩ := S.new p hp
    rcases List.mem_cons.mp q with e | q
    · exact h1 e
    · exact absurd (hF _ q) (Nat.not_lt.mpr h2)) k.gens k.os

section
variable {M : Model} {A : Around} {E : Value → Shared → Prop} {K : Frag} {Fs : List Addr} {s₀ s : Shared} {name : Str} {scope : Scope} {L a : Addr} {cd : Value} {l : List (Str × V)} {nw : List (Addr × Sh)} {x : Str} {p : Pos} {Q : Value → Shared → Prop}
theorem nmG {v : Value} (B : Bs K s₀.heap) (S : St Fs s₀ L l nw s) (e : nsIn K mainGlobals x = some (some v)) (h : Q v s)
    (hk : scope.kind = .function := by rfl) (hx : (envOf name scope L a cd).kindOf x = some .globalImplicit := by rfl) (hd : (x == ("__debug__" : Str)) = false := by decide) :
    wpAny M A (eval (.Name x p) (envOf name scope L a cd)) Q E s := by
  obtain ⟨_, _, mg, mb, T⟩ := B.T
  exact Name_function_global hk hx (loadGlobal_global (env := envOf name scope L a cd) (S.keep.ns T.g) (mg_of B.X T.g e) h) hd
theorem nmU {v : Value} (B : Bs K s₀.heap) (S : St Fs s₀ L l nw s) (e : nsIn K mainGlobals x = some none) (hv : bootBuiltins x = some v) (h : Q v s) (hn : x ≠ "__name__" := by decide)
    (hk : scope.kind = .function := by rfl) (hx : (envOf name scope L a cd).kindOf x = some .globalImplicit := by rfl) (hd : (x == ("__debug__" : Str)) = false := by decide) :
    wpAny M A (eval (.Name x p) (envOf name scope L a cd)) Q E s := by
  obtain ⟨_, _, mg, mb, T⟩ := B.T
  exact Name_function_global hk hx (loadGlobal_builtin (env := envOf name scope L a cd) (S.keep.ns T.g) (mg_none_of B.X T.g e) (S.keep.ns T.b) ((T.builtins x hn).trans hv) h) hd
end

/-! expressions, in clean contexts -/
section
variable {α : Type} {M : Model} {A : Around} {E : Value → Shared → Prop} {s : Shared} {env : Env}
theorem gPoint {Q : Unit → Shared → Prop} (h : Q () s) : wpG M A point Q E s := lift (wpAny_point h)
theorem gKeep {vs : List Value} {m : Sem α} {Q : α → Shared → Prop} (h : wpG M A m Q E s) : wpG M A (m.keep vs) Q E s := fun Γ p hΓ hC => by rw [Sem.wp_keep]; exact h Γ p hΓ hC
theorem gCompare1 {l op r pos} {Q : Value → Shared → Prop}
    (h : wpG M A (eval l env) (fun a s₁ => wpG M A (eval r env) (fun b s₂ => wpG M A (compareOp op a b) Q E s₂) E s₁) E s)
    (hm : behindInMarks op r = false := by with_unfolding_all rfl) : wpG M A (eval (.Compare l [op] [r] pos) env) Q E s := by
  rw [eval_Compare1, markedBehindIn_of_false hm]
  exact gBind (gMono h (fun a s₁ h₁ => gBind (gHolding (gMono h₁ (fun b s₂ h₂ => gBind (gStand (gOperate h₂))) fun _ _ x => x))) fun _ _ x => x)
theorem gTrueCompare1 {l op r pos whole} {Q : Bool → Shared → Prop}
    (h : wpG M A (eval l env) (fun a s₁ => wpG M A (eval r env) (fun b s₂ => wpG M A (compareOp op a b) (fun c s₃ => wpG M A (truthy c) Q E s₃) E s₂) E s₁) E s)
    (hm : behindInMarks op r = false := by with_unfolding_all rfl) : wpG M A (isTrue (.Compare l [op] [r] pos) env whole) Q E s := by
  rw [isTrue_Compare1, markedBehindIn_of_false hm]
  exact gBind (gMono h (fun a s₁ h₁ => gBind (gHolding (gMono h₁ (fun b s₂ h₂ => gBind (gStand (gBind (gOperate (gMono h₂ (fun c s₃ h₃ => gHolding h₃) fun _ _ x => x))))) fun _ _ x => x))) fun _ _ x => x)
theorem gTrueNot {x : PySem.Expr} {pos : Pos} {whole : Sem Value} {Q : Bool → Shared → Prop} (h : wpG M A (isTrue x env (eval x env)) (fun b s₁ => Q (!b) s₁) E s) :
    wpG M A (isTrue (.UnaryOp .Not x pos) env whole) Q E s := by
  rw [arm_isTrue_UnaryOp]; exact gBind (gMono h (fun b s₁ h₁ => gPure h₁) fun _ _ x => x)
theorem gTrueOr {values : List PySem.Expr} {pos : Pos} {whole : Sem Value} {Q : Bool → Shared → Prop} (h : wpG M A (allTrue .Or values env) Q E s) :
    wpG M A (isTrue (.BoolOp .Or values pos) env whole) Q E s := by rw [arm_isTrue_BoolOp]; exact h
theorem gOrNil {Q : Bool → Shared → Prop} (h : Q false s) : wpG M A (allTrue .Or [] env) Q E s := gPure h
theorem gOrCons {x : PySem.Expr} {rest : List PySem.Expr} {Q : Bool → Shared → Prop}
    (h : wpG M A (isTrue x env (eval x env)) (fun b s₁ => if b then Q true s₁ else wpG M A (allTrue .Or rest env) Q E s₁) E s) : wpG M A (allTrue .Or (x :: rest) env) Q E s := by
  rw [arm_allTrue_cons]
  refine gBind (gMono h (fun b s₁ h₁ => ?_) fun _ _ x => x)
  cases b
  · exact h₁
  · exact gPure h₁
theorem gIfExp {test body orelse : PySem.Expr} {pos : Pos} {Q : Value → Shared → Prop}
    (h : wpG M A (isTrue test env (eval test env)) (fun b s₁ => if b then wpG M A (eval body env) Q E s₁ else wpG M A (eval orelse env) Q E s₁) E s) : wpG M A (eval (.IfExp test body orelse pos) env) Q E s := by
  rw [arm_eval_IfExp]
  refine gBind (gMono h (fun b s₁ h₁ => ?_) fun _ _ x => x)
  cases b <;> exact h₁
theorem gReturn {e pos} {Q : Flow → Shared → Prop} (h : wpG M A (eval e env) (fun v => Q (.ret v)) E s) : wpG M A (exec (.Return (some e) pos) env) Q E s := by
  rw [exec_Return_some]; exact gBind (gStand (gBind (gMono h (fun v s' h' => gPure h') fun _ _ x => x)))

theorem gSplicedNil {Q : List Value → Shared → Prop} (h : Q [] s) : wpG M A (spliced []) Q E s := gPure h
theorem gSplicedCons {x : Sem Value} {rest : List (Bool × Sem Value)} {Q : List Value → Shared → Prop}
    (h : wpG M A x (fun v s₁ => wpG M A (spliced rest) (fun vs s₂ => Q (v :: vs) s₂) E s₁) E s) : wpG M A (spliced ((false, x) :: rest)) Q E s := by
  rw [spliced]
  refine gBind (gMono h (fun v s₁ h₁ => ?_) fun _ _ x => x)
  simp only [Bool.false_eq_true, if_false]
  exact gBind (gPure (gBind (gHolding (gMono h₁ (fun vs s₂ h₂ => gPure h₂) fun _ _ x => x))))
theorem gEvalArgs {f : Value} {args : List (Bool × Sem Value)} {Q : Args → Shared → Prop} (hplain : args.any (·.1) = false)
    (h : wpG M A (spliced args) (fun vs s' => Q ⟨vs, []⟩ s') E s) : wpG M A (evalArgs f true args []) Q E s := by
  have go : ∀ t : Sem Args, t = (spliced args >>= fun vs => holding (vs ++ []) (do
      let kw : List (Str × Value) := (([] : List (Option Str × Sem Value)).filterMap (·.1)).zip (← evalAll [])
      return ⟨← (pure vs : Sem (List Value)), kw⟩)) → wpG M A t Q E s := by
    intro t ht
    rw [ht]
    exact gBind (gMono h (fun vs s' h' => gHolding (gBind (gPure (gBind (gPure (gPure h')))))) fun _ _ x => x)
  refine go _ ?_
  cases args with
  | nil => rfl
  | cons p r =>
    obtain ⟨b, x⟩ := p
    cases b with
    | true => simp at hplain
    | false => rfl
theorem gCallWith {pos : Pos} {f : Value} {first : List Value} {args : List (Bool × Sem Value)} {Q : Value → Shared → Prop} (hplain : args.any (·.1) = false)
    (h : wpG M A (spliced args) (fun vs s₁ => wpG M A (keeperOf f) (fun _ s₂ => wpG M A (call f (first ++ vs)) Q E s₂) E s₁) E s) :
    wpG M A (callWith pos f first args []) Q E s := by
  unfold callWith
  refine gBind (gHolding (gEvalArgs hplain (gMono h (fun vs s₁ h₁ => gBind (gStand ?_)) fun _ _ x => x)))
  simp only [hplain, List.any_nil, Bool.or_false]
  refine gBind (gMono h₁ (fun k s₂ h₂ => ?_) fun _ _ x => x)
  have tail : ∀ {t : Sem Value}, wpG M A t Q E s₂ → wpG M A (t >>= fun r => holding [r] point >>= fun _ => pure r) Q E s₂ :=
    fun ht => gBind (gMono ht (fun r s₃ hr => gBind (gHolding (gPoint (gPure hr)))) fun _ _ x => x)
  cases k with
  | frame => dsimp only; split <;> first | exact tail h₂ | exact tail (by unfold callMarked; exact gKeep h₂)
  | boundFrame => dsimp only; split <;> first | exact tail h₂ | exact tail (by unfold callMarked; exact gKeep h₂)
  | machine => exact tail h₂
  | caller => exact tail (gOperate h₂)
theorem gKeeperPlain {f : Value} {Q : Keeper → Shared → Prop} (hf : ∀ a, f ≠ .ref a) (h : ∀ k, Q k s) : wpG M A (keeperOf f) Q E s := by
  have e : keeperOf f = pure .machine := by
    cases f with
    | ref a => exact absurd rfl (hf a)
    | _ => rfl
  rw [e]; exact gPure (h _)
theorem gKeeperFunc {a : Addr} {o : Obj} {fd : FuncData} {Q : Keeper → Shared → Prop} (ho : s.heap.get? a = some o) (hd : o.data = .func fd) (h : ∀ k, Q k s) : wpG M A (keeperOf (.ref a)) Q E s := by
  unfold keeperOf
  refine lift (wpAny_bind (wpAny_load ho ?_))
  rw [hd]; exact wpAny_pure (h _)
/-- a call by a name, of plain values -/
theorem gCallName {x : Str} {np pos : Pos} {args : List PySem.Expr} {Q : Value → Shared → Prop}
    (h : wpG M A (eval (.Name x np) env) (fun f s₁ => wpG M A (spliced (backTo pos (starEach args env))) (fun vs s₂ => wpG M A (keeperOf f) (fun _ s₃ => wpG M A (call f vs) Q E s₃) E s₂) E s₁) E s)
    (hplain : (backTo pos (starEach args env)).any (·.1) = false := by rfl) : wpG M A (eval (.Call (.Name x np) args [] pos) env) Q E s := by
  show wpG M A (do callWith pos (← eval (.Name x np) env) [] (backTo pos (starEach args env)) (backToKw pos (keywordEach [] env))) Q E s
  exact gBind (gMono h (fun f s₁ h₁ => gCallWith hplain h₁) fun _ _ x => x)
end

section
variable {prog : Program} {w : World} {A : Around} {R : Result → Shared → Prop} {Fs : List Addr} {s : Shared} {K : Frag}
/-- a call of a def with one parameter: the body, from a frame with that one name -/
theorem gEnter {name x : Str} {params : Arguments} {body : List Stmt} {scope : Scope} {pm cd doc v : Value} {u : V} {a : Addr} {o : Obj}
    (B : Bs K s.heap) (ho : s.heap.get? a = some o) (hdata : o.data = .func (docDef name params body scope pm cd doc)) (hcd : s.heap.CodeRec cd name) (hu : u.Is v)
    (h : ∀ L s₁, St Fs s L [(x, u)] [] s₁ → wpG (model prog w) (A.deeper (envOf name scope L a cd)) (execs body (envOf name scope L a cd))
        (fun f s' => R (.ok (.ret (match f with | .ret v => v | _ => .none))) s')
        (fun e s' => wpAny (model prog w) (A.deeper (envOf name scope L a cd)) (leaving (envOf name scope L a cd) e) (fun _ s'' => R (.error e) s'') (fun e' s'' => R (.error e') s'') s') s₁)
    (hroom : A.depth < recursionLimit) (hbind : bindArgs (docDef name params body scope pm cd doc) ⟨[v], []⟩ = pure [(x, v)] := by rfl) (hloc : scope.names.lookup x = some .local := by rfl)
    (hco : scope.isCoroutine = false := by rfl) (hgen : scope.isGenerator = false := by rfl) (hk : scope.kind = .function := by rfl) (hcell : ∀ x ∈ scope.names, x.2 ≠ .cell := by decide) :
    codeG (model prog w) A (.call (.ref a) ⟨[v], []⟩) R s := by
  refine codeG_call_function hroom ho hdata hco hgen rfl hcd ?_
  rw [hbind]
  refine wpAny_pure (wpAny_newFunctionEnv hcell (fun y hy => ?_) (fun h₁ hns hsb => ⟨B.lim.fresh _ hsb, ?_⟩) hk)
  · rw [List.mem_singleton.mp hy]; exact hloc
  show codeG _ _ (.func body (envOf name scope s.heap.objs.size a cd)) _ _
  refine codeG_func (h s.heap.objs.size _ ⟨⟨_, hns, fun y z hz => ?_⟩, Kh.of fun b o e => ?_, Nat.le_refl _, fun p hp => (nomatch hp), List.nodup_nil, rfl, rfl⟩)
  · rw [List.lookup_cons] at hz
    split at hz
    · rename_i q; cases hz; exact ⟨v, by rw [beq_iff_eq.mp q]; simp, hu⟩
    · cases hz
  · exact hsb.extBut b o (Nat.ne_of_lt (Heap.lt_size e)) (Heap.get?_push_of_some _ e)
end
end Mine
namespace Mine
open Sem (wp)

section
variable {prog : Program} {w : World} {A : Around} {E : Value → Shared → Prop} {Fs : List Addr} {s₀ s : Shared} {L : Addr} {l : List (Str × V)} {nw : List (Addr × Sh)} {Q : Value → Shared → Prop}
variable {a b : Int} {t u : Tok}
/-! ints -/
theorem aInt {M : Model} {env : Env} {i : Int} {k : Nat} {pos : Pos} (S : St Fs s₀ L l nw s) (h : ∀ t s', St Fs s₀ L l nw s' → Q (.int i t) s') : wpAny M A (eval (.Constant (.int i) k pos) env) Q E s := wpAny_Constant_int (h _ _ S.toks)
theorem aAdd (S : St Fs s₀ L l nw s) (h : ∀ t s', St Fs s₀ L l nw s' → Q (.int (a + b) t) s') : wpAny (model prog w) A (binaryOp .Add (.int a t) (.int b u)) Q E s := PyProof.Rows.add_int (h _ _ S.toks)
theorem aIAdd (S : St Fs s₀ L l nw s) (h : ∀ t s', St Fs s₀ L l nw s' → Q (.int (a + b) t) s') : wpAny (model prog w) A (inplaceOp .Add (.int a t) (.int b u)) Q E s := PyProof.Rows.iadd_int (h _ _ S.toks)
theorem aSub (S : St Fs s₀ L l nw s) (h : ∀ t s', St Fs s₀ L l nw s' → Q (.int (a - b) t) s') : wpAny (model prog w) A (binaryOp .Sub (.int a t) (.int b u)) Q E s := PyProof.Rows.sub_int (h _ _ S.toks)
theorem aMod (S : St Fs s₀ L l nw s) (hb : b ≠ 0) (h : ∀ t s', St Fs s₀ L l nw s' → Q (.int (a.fmod b) t) s') : wpAny (model prog w) A (binaryOp .Mod (.int a t) (.int b u)) Q E s := PyProof.Rows.mod_int' hb (h _ _ S.toks)
theorem aDiv (S : St Fs s₀ L l nw s) (hb : b ≠ 0) (hp : Builtin.divisionGoesByPylong a b = false) (h : ∀ t s', St Fs s₀ L l nw s' → Q (.int (a.fdiv b) t) s') : wpAny (model prog w) A (binaryOp .FloorDiv (.int a t) (.int b u)) Q E s :=
  PyProof.Rows.floordiv_int hb (h _ _ S.toks) (.inl hp)
theorem aNeg (S : St Fs s₀ L l nw s) (h : ∀ t s', St Fs s₀ L l nw s' → Q (.int (-a) t) s') : wpAny (model prog w) A (unaryOp .USub (.int a t)) Q E s := PyProof.Rows.neg_int (h _ _ S.toks)

/-! lists of ints -/
theorem aLen {x : Addr} {ns : List Int} (S : St Fs s₀ L l nw s) (hm : (x, Sh.ints ns) ∈ nw) (hf : ns.length ≤ 16777216) (h : ∀ t s', St Fs s₀ L l nw s' → Q (.int (ns.length : Nat) t) s') :
    wpAny (model prog w) A (call (.builtin "len") [.ref x]) Q E s := by
  obtain ⟨vs, hl, hi⟩ := S.isList hm
  exact len_ints_fit hl hi (by omega) (h _ _ S.toks)
theorem aNewList {M : Model} {vs : List Value} {ns : List Int} (S : St Fs s₀ L l nw s) (hi : IntsAre vs ns) (h : ∀ x s', St Fs s₀ L l ((x, .ints ns) :: nw) s' → Q (.ref x) s') (hz : ns.length ≤ 16777216 := by decide) :
    wpAny M A (newList vs) Q E s :=
  wpAny_newObj_type (h _ _ (S.push (x := .ints ns) ⟨vs, 0, rfl, hi⟩)) (by show vs.toArray.size ≤ sizeLine; rw [List.size_toArray, hi.length, sizeLine_eq]; exact hz)
theorem aCat {x y : Addr} {ns ms : List Int} (S : St Fs s₀ L l nw s) (hx : (x, Sh.ints ns) ∈ nw) (hy : (y, Sh.ints ms) ∈ nw) (hz : ns.length + ms.length ≤ 16777216)
    (h : ∀ z s', St Fs s₀ L l ((z, .ints (ns ++ ms)) :: nw) s' → Q (.ref z) s') : wpAny (model prog w) A (binaryOp .Add (.ref x) (.ref y)) Q E s := by
  obtain ⟨vs, n, hl, hi⟩ := S.ints hx
  obtain ⟨us, n', hl', hi'⟩ := S.ints hy
  refine PySem.P.add_list hl hl' (h _ _ (S.push (x := .ints (ns ++ ms)) (o := { cls := .type "list", data := .seq (vs.toArray ++ us.toArray) }) ⟨vs ++ us, 0, by simp, IntsAre.append hi hi'⟩)) (by simp [hi.length, hi'.length, sizeLine_eq]; exact hz)
theorem aRep {x : Addr} {v k : Int} {u : Tok} (S : St Fs s₀ L l nw s) (hx : (x, Sh.ints [v]) ∈ nw) (h0 : 0 ≤ k) (hk : k ≤ 16777216)
    (h : ∀ z s', St Fs s₀ L l ((z, .ints (List.replicate k.toNat v)) :: nw) s' → Q (.ref z) s') : wpAny (model prog w) A (binaryOp .Mult (.ref x) (.int k u)) Q E s := by
  obtain ⟨vs, n, hl, hi⟩ := S.ints hx
  obtain ⟨m, hm, _⟩ := S.ns
  obtain ⟨t, rfl⟩ : ∃ t, vs = [.int v t] := by cases hi with | cons _ t r => cases r; exact ⟨t, rfl⟩
  have e : ∀ (j : Nat) (acc : Array Value), List.foldl (fun x1 x2 => x1 ++ x2) acc (List.replicate j #[Value.int v t]) = acc ++ (List.replicate j (Value.int v t)).toArray := by
    intro j
    induction j with
    | zero => intro acc; simp
    | succ j ih => intro acc; rw [List.replicate_succ, List.foldl_cons, ih, List.replicate_succ, Array.append_assoc]; congr 1; exact List.append_toArray [Value.int v t] _
  have hI : IntsAre (List.replicate k.toNat (Value.int v t)) (List.replicate k.toNat v) := by
    generalize k.toNat = j
    induction j with
    | zero => exact .nil
    | succ j ih => exact .cons v t ih
  refine wpAny_binaryOp_repeat_ref (T := "list") (U := "int") (by decide) ⟨_, hl, rfl⟩ (fun s' => typeIs_int s' k u) noFill_list_mul F.fills_int_mul F.slot_int_rmul repeat_list F.slot_int_index.lookup
    (call_meets F.slot_int_rmul (typeIs_int s k u) F.entry_int_rmul (F.args_int_rmul_2 _ _) (int___rmul___int_list k u x _ n)
      ⟨hl, rfl, ⟨_, hl, rfl⟩, call_meets F.slot_list_mul ⟨_, hl, rfl⟩ F.entry_list_mul (F.args_list_mul_2 _ _)
        (AutoListH.list___mul___list_int_3 x _ n k u (by simp [Builtin.List.listFitsIndex]; omega) (by simp; omega) (by simp [Builtin.List.listTooLong, sizeLine]; omega))
        ⟨hl, h _ _ (S.push (x := .ints (List.replicate k.toNat v)) (o := { cls := .type "list", data := .seq _ }) ⟨_, 0, ?_, hI⟩)⟩⟩)
  rw [if_neg (by simp), e]; simp
theorem aIExt {x y : Addr} {ns ms : List Int} {nw' : List (Addr × Sh)} (S : St Fs s₀ L l nw s) (hx : Upd x (.ints ns) (.ints (ns ++ ms)) nw nw') (hy : (y, Sh.ints ms) ∈ nw) (hz : ns.length + ms.length ≤ 16777216)
    (h : ∀ s', St Fs s₀ L l nw' s' → Q (.ref x) s') : wpAny (model prog w) A (inplaceOp .Add (.ref x) (.ref y)) Q E s := by
  obtain ⟨vs, n, hl, hi⟩ := S.ints hx.mem
  obtain ⟨us, n', hl', hi'⟩ := S.ints hy
  have hT : s.TypeIs (.ref x) "list" := ⟨_, hl, rfl⟩
  have hT' : s.TypeIs (.ref y) "list" := ⟨_, hl', rfl⟩
  unfold inplaceOp
  refine wpAny_holding ?_
  have e1 : typeLookup (.type "list") (dunderI "add") = pure (some (.builtin "list.__iadd__")) := F.slot_list_iadd.lookup
  have e2 : isSeqSlot (some (.builtin "list.__iadd__")) = true := by decide +kernel
  have hfi : fillsInplaceSlot (.type "list") "add" (Operator.Add == .Add) = pure false := by
    unfold fillsInplaceSlot
    show (typeLookup (.type "list") (dunderI "add") >>= fun fi => pure (fi.isSome && !isSeqSlot fi)) = pure false
    rw [e1, pure_bind, e2]; rfl
  refine wpAny_bind (wpAny_typeOf hT (wpAny_bind (wpAny_of_eq hfi ?_)))
  show wpAny _ A (if false = true then _ else _) Q E s
  rw [if_neg Bool.false_ne_true]
  refine wpAny_bind (binaryOp1_none (nm := "add") hT hT' PySem.noFill_list_add ?_)
  refine wpAny_bind (wpAny_of_eq (PySem.seqSlot_of e1 e2) ?_)
  refine wpAny_bind (wpAny_rule ?_)
  have hlen : vs.length = ns.length := hi.length
  have hlen' : us.length = ms.length := hi'.length
  have mt := AutoSeq1.list___iadd___list_list_0 x vs.toArray n y us.toArray n' (by simp [Builtin.List.listTooLong, sizeLine_eq]; omega) (by simp [sizeLine_eq]; omega) (by simp [sizeLine_eq]; omega)
  refine call_meets F.slot_list_iadd hT F.entry_list_iadd (F.args_list_iadd_2 _ _) mt ⟨hl, hl', ?_⟩
  refine h _ (S.upd hx (Heap.SameBut.update ..).extBut (Heap.get?_update_self _ hl ?_) ?_)
  · rfl
  · exact ⟨vs ++ us, _, by simp [Obj.mapSeq]; rfl, IntsAre.append hi hi'⟩
theorem aNeL {x y : Addr} {ns ms : List Int} (S : St Fs s₀ L l nw s) (hx : (x, Sh.ints ns) ∈ nw) (hy : (y, Sh.ints ms) ∈ nw) (hu : A.units + 64 < cLine) (h : Q (.bool (!decide (ns = ms))) s) :
    wpAny (model prog w) A (compareOp .NotEq (.ref x) (.ref y)) Q E s := by
  obtain ⟨vs, hl, hi⟩ := S.isList hx
  obtain ⟨us, hl', hi'⟩ := S.isList hy
  exact ne_intsK hl hi hl' hi' hu h
end
end Mine
namespace Mine
open Sem (wp)

/-! cuts -/
def pk {α : Type} (xs : List α) (lo hi : Option Int) : List α :=
  (sliceRange (sliceBounds lo hi none xs.length).1 (sliceBounds lo hi none xs.length).2.1 (sliceBounds lo hi none xs.length).2.2).filterMap (xs[·]?)
theorem pk_run {α : Type} (xs : List α) (a b : Nat) : (sliceRange (a : Int) (b : Int) 1).filterMap (xs[·]?) = (xs.take b).drop a := by
  rw [sliceRange_one]
  have h := pick_run xs.toArray a (b - a)
  simp only [List.getElem?_toArray] at h
  rw [h, List.drop_take]
theorem pk_ab {α : Type} (xs : List α) {a b : Int} (ha : 0 ≤ a) (hb : 0 ≤ b) : pk xs (some a) (some b) = (xs.take b.toNat).drop a.toNat := by
  have e : sliceBounds (some a) (some b) none xs.length = (((min a.toNat xs.length : Nat) : Int), ((min b.toNat xs.length : Nat) : Int), 1) := by
    simp only [sliceBounds, Option.getD_none, show ¬ a < 0 by omega, show ¬ b < 0 by omega, if_false, show (1 : Int) > 0 by decide, if_true]
    congr 1
    · omega
    · congr 1; omega
  unfold pk
  rw [e]
  simp only [pk_run]
  have e2 : xs.take (min b.toNat xs.length) = xs.take b.toNat := by
    by_cases hq : b.toNat ≤ xs.length
    · rw [Nat.min_eq_left hq]
    · rw [Nat.min_eq_right (by omega), List.take_length, List.take_of_length_le (by omega)]
  rw [e2]
  by_cases h : a.toNat ≤ xs.length
  · rw [Nat.min_eq_left h]
  · rw [Nat.min_eq_right (by omega), List.drop_eq_nil_of_le (by rw [List.length_take]; omega), List.drop_eq_nil_of_le (by rw [List.length_take]; omega)]
theorem pk_to {α : Type} (xs : List α) {b : Int} (hb : 0 ≤ b) : pk xs none (some b) = xs.take b.toNat := by
  have h := pk_ab xs (a := 0) (Int.le_refl 0) hb
  have e : pk xs (some 0) (some b) = pk xs none (some b) := by
    unfold pk
    congr 2 <;> simp [sliceBounds]
  rw [← e, h]; simp
theorem pk_from {α : Type} (xs : List α) {a : Int} (ha : 0 ≤ a) : pk xs (some a) none = xs.drop a.toNat := by
  have h := pk_ab xs (a := a) (b := (xs.length : Int)) ha (by omega)
  have e : pk xs (some a) (some (xs.length : Int)) = pk xs (some a) none := by
    have q : sliceBounds (some a) (some (xs.length : Int)) none xs.length = sliceBounds (some a) none none xs.length := by
      simp only [sliceBounds, Option.getD_none, show ¬ (xs.length : Int) < 0 by omega, if_false, show (1 : Int) > 0 by decide, if_true]
      congr 2; omega
    unfold pk
    rw [q]
  rw [← e, h]; simp
theorem pk_most {α : Type} (xs : List α) : pk xs none (some (-1)) = xs.dropLast := by
  have e : sliceBounds none (some (-1)) none xs.length = (((0 : Nat) : Int), ((xs.length - 1 : Nat) : Int), 1) := by
    simp only [sliceBounds, Option.getD_none, show (-1 : Int) < 0 by decide, if_true, show (1 : Int) > 0 by decide]
    congr 2; omega
  unfold pk
  rw [e]
  simp only [pk_run]
  rw [List.drop_zero, List.dropLast_eq_take]
theorem pk_ints {vs : List Value} {ns : List Int} (hi : IntsAre vs ns) (lo hi' : Option Int) : IntsAre (pk vs lo hi') (pk ns lo hi') := by
  unfold pk
  rw [hi.length]
  generalize sliceRange _ _ _ = js
  induction js with
  | nil => exact .nil
  | cons j r ih =>
    rw [List.filterMap_cons, List.filterMap_cons]
    cases h : vs[j]? with
    | none =>
      have : ns[j]? = none := by rw [List.getElem?_eq_none_iff] at h ⊢; rw [← hi.length]; exact h
      rw [this]; exact ih
    | some v =>
      obtain ⟨n, t, rfl, hn⟩ := IntsAre.at hi j v h
      rw [hn]; exact .cons n t ih
theorem pk_length {α : Type} (xs : List α) (lo hi : Option Int) : (pk xs lo hi).length ≤ xs.length := by
  unfold pk
  refine Nat.le_trans (List.length_filterMap_le _ _) (sliceRange_length_le _ _ _ _ (fun hc => ?_) fun hc => ?_)
  · simp only [sliceBounds] at hc ⊢
    simp only [hc, if_true]
    constructor
    · cases lo with
      | none => simp
      | some i => dsimp only; omega
    · cases hi with
      | none => simp
      | some i => dsimp only; omega
  · simp only [sliceBounds, Option.getD_none] at hc
    exact absurd (by decide) hc

section
variable {prog : Program} {w : World} {A : Around} {E : Value → Shared → Prop} {Fs : List Addr} {s₀ s : Shared} {L : Addr} {l : List (Str × V)} {nw : List (Addr × Sh)} {Q : Value → Shared → Prop} {env : Env}
def slObj (vl vu : Value) : Obj := { cls := .type "slice", data := .fields #[vl, vu, .none] }
def Cut (prog : Program) (w : World) (A : Around) (E : Value → Shared → Prop) (o vl vu : Value) (Q : Value → Shared → Prop) (s : Shared) : Prop :=
  ∃ T id, typeLookup (.type T) "__getitem__" = pure (some (.builtin id)) ∧ ({ s with heap := s.heap.push (slObj vl vu) } : Shared).TypeIs o T ∧
    wpAny (model prog w) A (getItem o (.ref s.heap.objs.size)) Q E { s with heap := s.heap.push (slObj vl vu) }
theorem aCut {value : PySem.Expr} {lower upper : Option PySem.Expr} {p pos : Pos}
    (h : wpAny (model prog w) A (eval value env) (fun o s₁ => wpAny (model prog w) A (evalPart lower env) (fun vl s₂ => wpAny (model prog w) A (evalPart upper env) (fun vu s₃ => Cut prog w A E o vl vu Q s₃) E s₂) E s₁) E s) :
    wpAny (model prog w) A (eval (.Subscript value (.Slice lower upper none p) pos) env) Q E s := by
  refine Subscript_ (wpAny_mono h (fun o s₁ h₁ => wpAny_Slice (wpAny_mono h₁ (fun vl s₂ h₂ => wpAny_mono h₂ (fun vu s₃ h₃ => ?_) fun _ _ e => e) fun _ _ e => e)) fun _ _ e => e)
  obtain ⟨T, id, hl, hT, hg⟩ := h₃
  rw [evalPart_none]
  exact wpAny_pure (tail_any hT hl hg rfl)
theorem cutList {x : Addr} {ns : List Int} {vl vu : Value} {lo hi : Option Int} (S : St Fs s₀ L l nw s) (hm : (x, Sh.ints ns) ∈ nw) (pl : IsPart vl lo) (pu : IsPart vu hi) (hz : ns.length ≤ 16777216)
    (h : ∀ z s', St Fs s₀ L l ((z, .ints (pk ns lo hi)) :: nw) s' → Q (.ref z) s') : Cut prog w A E (.ref x) vl vu Q s := by
  obtain ⟨vs, hl, hi'⟩ := S.isList hm
  have S' : St Fs s₀ L l nw { s with heap := s.heap.push (slObj vl vu) } := S.pushed
  refine ⟨"list", _, list_getitem_lookup, (hl.push _).typeIs, wpAny_getItem_list_slice (lo := lo) (hi := hi) (st := none) (hl.push _) (Heap.IsSliceOf.new ..) pl pu .none (by simp) ?_ (by rw [List.size_toArray, hi'.length, sizeLine_eq]; exact hz)⟩
  have e : slicePick vs.toArray lo hi none = (pk vs lo hi).toArray := by
    unfold slicePick pk
    simp only [List.size_toArray, List.getElem?_toArray]
  rw [e]
  exact h _ _ (S'.push (x := .ints (pk ns lo hi)) ⟨pk vs lo hi, 0, rfl, pk_ints hi' lo hi⟩)

/-! items -/
theorem idxList {value slice : PySem.Expr} {x : Addr} {ns : List Int} {k : Int} {u : Tok} (S : St Fs s₀ L l nw s) (hm : (x, Sh.ints ns) ∈ nw) (h0 : 0 ≤ k) (h1 : k < ns.length) (hf : ns.length ≤ 16777216)
    (h : ∀ t, Q (.int (ns.getD k.toNat 0) t) s) (hs : subscripted slice false (.ref x) (.int k u) = operate [.ref x, .int k u] (getItem (.ref x) (.int k u)) := by with_unfolding_all rfl) :
    wpAny (model prog w) A (subscriptTail value slice (.ref x) (.int k u)) Q E s := by
  obtain ⟨vs, hl, hi⟩ := S.isList hm
  obtain ⟨t, hx⟩ := hi.get k.toNat _ (ints_getD h0 h1)
  exact tail_any hl.typeIs slot_list_getitem.lookup (wpAny_getItem_list hl h0 (by omega) (by simpa using hx) (h t)) hs
theorem lastList {value slice : PySem.Expr} {x : Addr} {ns : List Int} {u : Tok} (S : St Fs s₀ L l nw s) (hm : (x, Sh.ints ns) ∈ nw) (h1 : 0 < ns.length) (hf : ns.length ≤ 16777216)
    (h : ∀ t, Q (.int (ns.getLastD 0) t) s) (hs : subscripted slice false (.ref x) (.int (-1) u) = operate [.ref x, .int (-1) u] (getItem (.ref x) (.int (-1) u)) := by with_unfolding_all rfl) :
    wpAny (model prog w) A (subscriptTail value slice (.ref x) (.int (-1) u)) Q E s := by
  obtain ⟨vs, hl, hi⟩ := S.isList hm
  have hsz : vs.toArray.size = ns.length := by simp [hi.length]
  obtain ⟨t, hx⟩ := hi.get ((-1 : Int) + ns.length).toNat _ (ints_getD (k := (-1 : Int) + ns.length) (by omega) (by omega))
  refine tail_any hl.typeIs slot_list_getitem.lookup (wpAny_getItem_list_neg hl (by decide) (by rw [hsz]; omega) (by decide) (x := .int (ns.getD ((-1 : Int) + ns.length).toNat 0) t) (by rw [hsz]; simpa using hx) ?_) hs
  have e : ns.getD ((-1 : Int) + ns.length).toNat 0 = ns.getLastD 0 := by
    rw [show ((-1 : Int) + ns.length).toNat = ns.length - 1 by omega, List.getLastD_eq_getLast?, List.getLast?_eq_getElem?, List.getD_eq_getElem?_getD]
  rw [e]; exact h t
theorem setLast {x : Addr} {ns : List Int} {v : Int} {u t : Tok} {nw' : List (Addr × Sh)} {Q : Unit → Shared → Prop} (S : St Fs s₀ L l nw s) (hx : Upd x (.ints ns) (.ints (ns.dropLast ++ [v])) nw nw') (h1 : 0 < ns.length) (hf : ns.length ≤ 16777216)
    (h : ∀ s', St Fs s₀ L l nw' s' → Q () s') : wpAny (model prog w) A (setItem (.ref x) (.int (-1) u) (.int v t)) Q E s := by
  obtain ⟨vs, n, ho, hi⟩ := S.ints hx.mem
  have hT : s.TypeIs (.ref x) "list" := ⟨_, ho, rfl⟩
  have hlen : vs.length = ns.length := hi.length
  unfold setItem
  refine wpAny_holding ?_
  refine wpAny_bind (wpAny_sequenceKey hT (by decide) ?_)
  refine wpAny_bind (wpAny_callSpecial?_slot (name := Str.ofString "__setitem__") hT slot_list_setitem (wpAny_call_entry slot_list_setitem hT entry_list_setitem ?_ (args_list_setitem _ _ _)))
  show wpAny _ _ (Builtin.List.listSubscript? (.int (-1) u) >>= _) _ _ s
  refine wpAny_bind (wpAny_listSubscript_int (fitsIndex_neg (by decide) (by decide)) ?_)
  show wpAny _ _ ((Builtin.List.listItems (.ref x) >>= fun xs => pure ((seqIndex? (Int.negSucc 0) xs.size).bind fun i => xs[i]?.map (i, ·))) >>= _) _ _ s
  refine wpAny_bind (wpAny_bind ?_)
  show wpAny _ _ (seqItems? (.ref x) >>= _) _ _ s
  refine wpAny_bind (wpAny_seqItems ho rfl (wpAny_pure (wpAny_pure ?_)))
  have hj : ns.length - 1 < vs.toArray.size := by simp; omega
  rw [show seqIndex? (Int.negSucc 0) vs.toArray.size = some (ns.length - 1) from (seqIndex_neg (by decide) (by simp; omega)).trans (by congr 1; simp; omega)]
  simp only [Option.bind_some, Array.getElem?_eq_getElem hj, Option.map_some]
  show wpAny _ _ (setSeqItemAt x (ns.length - 1) (.int v t) >>= _) _ _ s
  refine wpAny_bind (wpAny_setSeqItemAt ho rfl ?_)
  have fin : Q () { s with heap := s.heap.update x (Obj.mapSeq (·.setIfInBounds (ns.length - 1) (.int v t))) } := by
    refine h _ (S.upd hx (Heap.SameBut.update ..).extBut (Heap.get?_update_self _ ho rfl) ?_)
    refine ⟨vs.dropLast ++ [.int v t], n, ?_, ?_⟩
    · simp only [Obj.mapSeq, Array.size_setIfInBounds, beq_self_eq_true, if_true]
      congr 2
      apply Array.ext'
      rw [Array.toList_setIfInBounds]
      show vs.set (ns.length - 1) _ = vs.dropLast ++ [_]
      rw [← hlen] at h1 ⊢
      clear hj ho hT S hx h hi hlen
      rcases List.eq_nil_or_concat vs with rfl | ⟨r, y, rfl⟩
      · simp at h1
      · simp
    · have : IntsAre vs.dropLast ns.dropLast := by
        clear hj ho hT S hx h h1 hf hlen
        induction hi with
        | nil => exact .nil
        | cons m t' r ih =>
          cases r with
          | nil => exact .nil
          | cons m' t'' r' => exact .cons m t' ih
      exact IntsAre.append this (.cons v t .nil)
  first
    | exact wpAny_bind (wpAny_pure (wpAny_pure ⟨.none, rfl, wpAny_pure fin⟩))
    | exact wpAny_pure ⟨.none, rfl, wpAny_pure fin⟩
end
end Mine
namespace Mine
open Sem (wp)

namespace Ba
theorem owner : Manifest.owners.lookup (String.ofList ['y', 'a', 'r', 'r', 'a', 'e', 't', 'y', 'b'].reverse) = some Manifest.sig_bytearray := by kernel_rfl
theorem slot_append : Slot "bytearray" "append" "bytearray.append" :=
  .of (owner := "bytearray") (n := "append") (by rw [typeLookup_type, builtinLookup_eq_fast]; kernel_rfl) (by decide +kernel) (by decide +kernel) (by decide +kernel)
    (by first | exact .inl (by decide +kernel) | exact .inr (by decide +kernel)) (by rw [isSubtype_type]; kernel_rfl)
theorem entry_append : entryFor table "bytearray.append" = some Builtin.«bytearray.append» := entryFor_of_tree (by kernel_rfl)
theorem args_append (a b : Value) : argsOk "bytearray.append" ⟨[a, b], []⟩ := by unfold argsOk; kernel_rfl
theorem slot_iadd : Slot "bytearray" (dunderI "add") "bytearray.__iadd__" :=
  .of (owner := "bytearray") (n := "__iadd__") (by rw [typeLookup_type, builtinLookup_eq_fast]; kernel_rfl) (by decide +kernel) (by decide +kernel) (by decide +kernel)
    (by first | exact .inl (by decide +kernel) | exact .inr (by decide +kernel)) (by rw [isSubtype_type]; kernel_rfl)
theorem entry_iadd : entryFor table "bytearray.__iadd__" = some Builtin.«bytearray.__iadd__» := entryFor_of_tree (by kernel_rfl)
theorem args_iadd (a b : Value) : argsOk "bytearray.__iadd__" ⟨[a, b], []⟩ := by unfold argsOk; kernel_rfl
theorem slot_getitem : Slot "bytearray" "__getitem__" "bytearray.__getitem__" :=
  .of (owner := "bytearray") (n := "__getitem__") (by rw [typeLookup_type, builtinLookup_eq_fast]; kernel_rfl) (by decide +kernel) (by decide +kernel) (by decide +kernel)
    (by first | exact .inl (by decide +kernel) | exact .inr (by decide +kernel)) (by rw [isSubtype_type]; kernel_rfl)
theorem entry_getitem : entryFor table "bytearray.__getitem__" = some Builtin.«bytearray.__getitem__» := entryFor_of_tree (by kernel_rfl)
theorem args_getitem (a b : Value) : argsOk "bytearray.__getitem__" ⟨[a, b], []⟩ := by unfold argsOk; kernel_rfl
theorem slot_iter : Slot "bytearray" "__iter__" "bytearray.__iter__" :=
  .of (owner := "bytearray") (n := "__iter__") (by rw [typeLookup_type, builtinLookup_eq_fast]; kernel_rfl) (by decide +kernel) (by decide +kernel) (by decide +kernel)
    (by first | exact .inl (by decide +kernel) | exact .inr (by decide +kernel)) (by rw [isSubtype_type]; kernel_rfl)
theorem entry_iter : entryFor table "bytearray.__iter__" = some Builtin.«bytearray.__iter__» := entryFor_of_tree (by kernel_rfl)
theorem args_iter (a : Value) : argsOk "bytearray.__iter__" ⟨[a], []⟩ := by unfold argsOk; kernel_rfl
theorem slot_next : Slot "bytearray_iterator" "__next__" "bytearray_iterator.__next__" :=
  .of (owner := "bytearray_iterator") (n := "__next__") (by rw [typeLookup_type, builtinLookup_eq_fast]; kernel_rfl) (by decide +kernel) (by decide +kernel) (by decide +kernel)
    (by first | exact .inl (by decide +kernel) | exact .inr (by decide +kernel)) (by rw [isSubtype_type]; kernel_rfl)
theorem entry_next : entryFor table "bytearray_iterator.__next__" = some Builtin.«bytearray_iterator.__next__» := entryFor_of_tree (by kernel_rfl)
theorem args_next (a : Value) : argsOk "bytearray_iterator.__next__" ⟨[a], []⟩ := by unfold argsOk; kernel_rfl
theorem attrs : PlainAttrs "bytearray" :=
  ⟨⟨"bytearray.__getattribute__", by rw [typeLookup_type, builtinLookup_eq_fast]; kernel_rfl, by decide +kernel⟩, by rw [typeLookup_type, builtinLookup_eq_fast]; kernel_rfl⟩
theorem append_desc : typeOf (.builtin "bytearray.append") = pure (.type "method_descriptor") := by kernel_rfl
theorem seq_iadd : isSeqSlot (some (.builtin "bytearray.__iadd__")) = true := by decide +kernel
theorem lk_add : typeLookup (.type "bytearray") (dunder "add") = pure (some (.builtin "bytearray.__add__")) := by rw [typeLookup_type, builtinLookup_eq_fast]; kernel_rfl
theorem lk_radd : typeLookup (.type "bytearray") (dunderR "add") = pure none := by rw [typeLookup_type, builtinLookup_eq_fast]; kernel_rfl
theorem noFill : fillsNumberSlot (.type "bytearray") "add" = pure false := PySem.fillsNumberSlot_seq (id := "bytearray.__add__") (r := none) lk_add (by decide +kernel) lk_radd rfl
theorem lk_addB : typeLookup (.type "bytes") (dunder "add") = pure (some (.builtin "bytes.__add__")) := by rw [typeLookup_type, builtinLookup_eq_fast]; kernel_rfl
theorem lk_raddB : typeLookup (.type "bytes") (dunderR "add") = pure none := by rw [typeLookup_type, builtinLookup_eq_fast]; kernel_rfl
theorem noFillB : fillsNumberSlot (.type "bytes") "add" = pure false := PySem.fillsNumberSlot_seq (id := "bytes.__add__") (r := none) lk_addB (by decide +kernel) lk_raddB rfl
theorem lk_buf : typeLookup (.type "bytearray") "__buffer__" = pure (some (.builtin "bytearray.__buffer__")) := by rw [typeLookup_type, builtinLookup_eq_fast]; kernel_rfl
theorem lk_bufB : typeLookup (.type "bytes") "__buffer__" = pure (some (.builtin "bytes.__buffer__")) := by rw [typeLookup_type, builtinLookup_eq_fast]; kernel_rfl
theorem lk_rel : typeLookup (.type "bytearray") "__release_buffer__" = pure (some (.builtin "bytearray.__release_buffer__")) := by rw [typeLookup_type, builtinLookup_eq_fast]; kernel_rfl
theorem lk_relB : typeLookup (.type "bytes") "__release_buffer__" = pure none := by rw [typeLookup_type, builtinLookup_eq_fast]; kernel_rfl
theorem sub : isSubtype (.type "bytearray") (.type "bytearray") = pure true := by rw [isSubtype_type]; kernel_rfl
theorem subB : isSubtype (.type "bytes") (.type "bytes") = pure true := by rw [isSubtype_type]; kernel_rfl
theorem hold_append (x : Args) : holder (.builtin "bytearray.append" x) = false := by show Builtin.Bytes.decodersThatHold.contains "bytearray.append" = false; decide +kernel
theorem hold_iadd (x : Args) : holder (.builtin "bytearray.__iadd__" x) = false := by show Builtin.Bytes.decodersThatHold.contains "bytearray.__iadd__" = false; decide +kernel
end Ba

def baObj (b : List UInt8) : Obj := { cls := .type "bytearray", data := .bytearray b.toArray 0 }
/-- a row of octets: a bytes, or a bytearray that stands -/
inductive Pay (h : Heap) : Value → List UInt8 → Prop
  | bytes (b : List UInt8) (t : Tok) : Pay h (.bytes b.toArray t) b
  | barr {a : Addr} {b : List UInt8} : h.get? a = some (baObj b) → Pay h (.ref a) b
theorem Pay.keeps {h h' : Heap} {v : Value} {b : List UInt8} (P : Pay h v b) (hk : ∀ b o, h.get? b = some o → h'.get? b = some o) : Pay h' v b := by
  cases P with
  | bytes => exact .bytes ..
  | barr e => exact .barr (hk _ _ e)
theorem Pay.of {Fs : List Addr} {s₀ s : Shared} {L : Addr} {l : List (Str × V)} {nw : List (Addr × Sh)} {v : Value} {b : List UInt8} (P : Pay s₀.heap v b) (S : St Fs s₀ L l nw s) (hv : ∀ a ∈ Fs, v ≠ .ref a) : Pay s.heap v b := by
  cases P with
  | bytes => exact .bytes ..
  | barr e => exact .barr (S.keep.1 _ _ e fun q => hv _ q rfl)

/-! no memory is lent -/
theorem guard_no {id : String} {x : Args} (h : (Code.builtin id x).isGuard = false) (hk : guardIds.contains id = true) : False := by
  have h' : guardIds.contains id = false := h
  rw [hk] at h'; cases h'
theorem holder_no {id : String} {x : Args} {c : Bool} (h : holder (.builtin id x) = false) (hm : (c && Builtin.Bytes.decodersThatHold.contains id) = true) : False := by
  have h' : Builtin.Bytes.decodersThatHold.contains id = false := h
  rw [h', Bool.and_false] at hm; cases hm
theorem gExported {M : Model} {A : Around} {E : Value → Shared → Prop} {s : Shared} {v : Value} {Q : Bool → Shared → Prop} (hg : A.guards = some []) (h : Q false s) : wpG M A (Builtin.Bytes.exported v) Q E s := fun Γ p hΓ hC => by
  have g := hΓ.2.2.2.1 [] hg
  have hc : ∀ x ∈ (Γ.code, p) :: Γ.below, x.1.isGuard = false ∧ holder x.1 = false := by
    intro x hx
    rcases List.mem_cons.mp hx with rfl | hx
    · refine ⟨?_, hC.1⟩
      have := List.append_eq_nil_iff.mp g
      cases hq : Γ.code.isGuard with
      | false => rfl
      | true => exact absurd this.1 (by simp [Code.guards, hq])
    · refine ⟨?_, hC.2 x hx⟩
      have := (List.append_eq_nil_iff.mp g).2
      cases hq : x.1.isGuard with
      | false => rfl
      | true => exact absurd this (List.ne_nil_of_mem (List.mem_filter.mpr ⟨List.mem_map_of_mem hx, hq⟩))
  show Q (((Γ.code, p) :: Γ.below).any _) s
  rw [List.any_eq_false.mpr fun x hx => ?_]
  · exact h
  · obtain ⟨c, q⟩ := x
    obtain ⟨h1, h2⟩ := hc _ hx
    dsimp only at h1 h2
    intro hm
    split at hm
    all_goals first
      | cases hm
      | (rename_i e; injection e with e1 e2; subst e1; exact (guard_no h1 (by decide +kernel)).elim)
      | (rename_i e; injection e with e1 e2; subst e1; exact (holder_no h2 hm).elim)
end Mine
namespace Mine
open Sem (wp)

section
variable {M : Model} {A : Around} {E : Value → Shared → Prop} {s : Shared}
theorem gCheckResize {a : Addr} {b : List UInt8} {Q : Unit → Shared → Prop} (hg : A.guards = some []) (ho : s.heap.get? a = some (baObj b)) (h : Q () s) : wpG M A (Builtin.Bytes.checkResize (.ref a)) Q E s := by
  unfold Builtin.Bytes.checkResize
  refine gBind ?_
  show wpG M A (Builtin.Bytes.exported (.ref a) >>= fun x => _) _ E s
  refine gBind (gExported hg ?_)
  show wpG M A (Builtin.Bytes.exportsOf (.ref a) >>= fun n => _) _ E s
  refine gBind ?_
  show wpG M A (load a >>= _) _ E s
  exact gBind (lift (wpAny_load ho (lift (wpAny_pure (lift (wpAny_pure (lift (wpAny_pure h))))))))
theorem write_ba {a : Addr} {b c : List UInt8} {f : Array UInt8 → Array UInt8} {Q : Unit → Shared → Prop} (ho : s.heap.get? a = some (baObj b)) (hf : f b.toArray = c.toArray) (hz : c.length ≤ 16777216)
    (h : ∀ h', Heap.SameBut a s.heap h' → h'.get? a = some (baObj c) → Q () { s with heap := h' }) : wpAny M A (Builtin.Bytes.write (.ref a) f) Q E s := by
  show wpAny M A (updateBytearray a f) Q E s
  unfold updateBytearray
  refine wpAny_bind (wpAny_load ho ?_)
  show wpAny _ _ (update a (Obj.mapBytearray f) >>= fun _ => lookBehind a) _ _ _
  refine wpAny_bind (wpAny_update ho ?_)
  have h2 : (s.heap.update a (Obj.mapBytearray f)).get? a = some (baObj c) := by
    rw [Heap.get?_update_self (Obj.mapBytearray f) ho rfl]
    show some ({ cls := _, data := .bytearray (f b.toArray) 0 } : Obj) = _
    rw [hf]; rfl
  refine wpAny_lookBehind h2 ?_ (h _ (Heap.SameBut.update ..) h2)
  show (if c.toArray.size > sizeLine then some "bytearray:memory" else none) = none
  rw [if_neg]; rw [List.size_toArray, sizeLine_eq]; omega
theorem byteVal {c : Int} {t : Tok} {Q : UInt8 → Shared → Prop} (h0 : 0 ≤ c) (h1 : c < 256) (h : Q c.toNat.toUInt8 s) : wpAny M A (Builtin.Bytes.byteValue (.int c t)) Q E s := by
  unfold Builtin.Bytes.byteValue
  refine wpAny_bind (wpAny_of_eq (a := c) rfl ?_)
  refine bm_if_false ?_ (wpAny_pure h)
  simp only [Bool.or_eq_false_iff, decide_eq_false_iff_not]; omega
end

section
variable {prog : Program} {w : World} {A : Around} {E : Value → Shared → Prop} {Fs : List Addr} {s₀ s : Shared} {L : Addr} {l : List (Str × V)} {nw nw' : List (Addr × Sh)}
theorem gCallSlot {T : String} {name : Str} {id : String} {b : Builtin} {self : Value} {rest : List Value} {Q : Value → Shared → Prop} (h : Slot T name id) (hT : s.TypeIs self T) (hb : entryFor table id = some b)
    (hh : holder (.builtin id ⟨self :: rest, []⟩) = false) (ha : argsOk id ⟨self :: rest, []⟩)
    (hc : wpG (model prog w) A.in1 (b ⟨self :: rest, []⟩) (fun fin s' => ∃ v, fin = .done (.ret v) ∧ Q v s') E s) : wpG (model prog w) A (call (.builtin id) (self :: rest)) Q E s := by
  refine gCall (codeG_of_tree ?_)
  show wpG _ A.in1 (do checkBuiltinCall id ⟨self :: rest, []⟩; again (.builtin id ⟨self :: rest, []⟩)) _ _ s
  refine gBind (lift (h.check _ _ _ _ _ _ _ _ hT ha (gPure ⟨plainId_quiet h.plain _, hh, codeG_of_tree ?_⟩)))
  rw [Around.under_plainId h.plain]
  show wpG _ _ (match entryFor table id with | some b => b ⟨self :: rest, []⟩ | none => unsupported ((withoutEnding? id "#data").getD id)) _ _ s
  rw [hb]
  exact gMono hc (fun fin s' ⟨v, e, hv⟩ => e ▸ hv) fun _ _ x => x

theorem St.baT {a : Addr} {b : List UInt8} (S : St Fs s₀ L l nw s) (hm : (a, Sh.barr b) ∈ nw) : s.TypeIs (.ref a) "bytearray" := ⟨_, S.barr hm, rfl⟩

theorem gAppend {a : Addr} {b : List UInt8} {c : Int} {t : Tok} {Q : Value → Shared → Prop} (hg : A.guards = some []) (S : St Fs s₀ L l nw s) (u : Upd a (.barr b) (.barr (b ++ [c.toNat.toUInt8])) nw nw')
    (h0 : 0 ≤ c) (h1 : c < 256) (hz : b.length < 16777216) (h : ∀ s', St Fs s₀ L l nw' s' → Q .none s') : wpG (model prog w) A (call (.builtin "bytearray.append") [.ref a, .int c t]) Q E s := by
  refine gCallSlot Ba.slot_append (S.baT u.mem) Ba.entry_append (Ba.hold_append _) (Ba.args_append _ _) ?_
  unfold Builtin.«bytearray.append»
  refine gBind (lift (wpAny_of_eq (a := (.ref a, .int c t)) rfl ?_))
  refine gBind (lift (byteVal h0 h1 ?_))
  refine gBind (gCheckResize hg (S.barr u.mem) ?_)
  refine gBind (lift (write_ba (c := b ++ [c.toNat.toUInt8]) (S.barr u.mem) (by simp) (by simp; omega) fun h' hs hn => ?_))
  exact gPure ⟨_, rfl, h _ (S.upd u hs.extBut hn rfl)⟩

theorem starEach_one (e : PySem.Expr) (env : Env) (pos : Pos) (h : starEach [e] env = [(false, eval e env)]) : backTo pos (starEach [e] env) = [(false, eval e env)] := by rw [h]; rfl

/-- x.append(e), x a bytearray of the call's own -/
theorem gAppendE {name x : Str} {scope : Scope} {f : Addr} {cd : Value} {np apos pos : Pos} {e : PySem.Expr} {a : Addr} {Q : Value → Shared → Prop} (hg : A.guards = some []) (S : St Fs s₀ L l nw s) (hx : l.lookup x = some (.val (.ref a)))
    {b₀ : List UInt8} (hm : (a, Sh.barr b₀) ∈ nw)
    (h : wpAny (model prog w) A (eval e (envOf name scope L f cd)) (fun v s₁ => ∃ c t b l₁ nw₁ nw₂, v = .int c t ∧ St Fs s₀ L l₁ nw₁ s₁ ∧ Upd a (.barr b) (.barr (b ++ [c.toNat.toUInt8])) nw₁ nw₂ ∧ 0 ≤ c ∧ c < 256 ∧ b.length < 16777216 ∧
      ∀ s', St Fs s₀ L l₁ nw₂ s' → Q .none s') E s)
    (hline : (apos.endLine == pos.line) = true := by rfl) (he : starEach [e] (envOf name scope L f cd) = [(false, eval e (envOf name scope L f cd))] := by rfl)
    (hbase : attributeBase (.Name x np) "append" (envOf name scope L f cd) (eval (.Name x np) (envOf name scope L f cd)) = eval (.Name x np) (envOf name scope L f cd) := by rfl)
    (hk : scope.kind = .function := by rfl) (hl : (envOf name scope L f cd).kindOf x = some .local := by rfl) (hd : (x == ("__debug__" : Str)) = false := by decide) :
    wpG (model prog w) A (eval (.Call (.Attribute (.Name x np) "append" apos) [e] [] pos) (envOf name scope L f cd)) Q E s := by
  rw [arm_eval_Call, hbase]
  refine gBind (lift (nmV S hx ?_ hk hl hd))
  refine gBind (gStand ?_)
  have hb := starEach_one e (envOf name scope L f cd) pos he
  rw [hb]
  have hform : methodCallForm ([e].length + ([] : List Keyword).length) [(false, eval e (envOf name scope L f cd))] (backToKw pos (keywordEach [] (envOf name scope L f cd))) = true := rfl
  have hpos : methodCallPos true (.Name x np) (envOf name scope L f cd) apos pos = pure pos := by unfold methodCallPos; simp [hline]
  unfold methodCall
  rw [hform]
  refine gBind (gHolding (lift (getMethod_builtin (S.baT hm) Ba.attrs Ba.slot_append Ba.append_desc (fun z hz => ?_) ?_)))
  · cases hz; exact ⟨_, S.barr hm, rfl⟩
  refine gBind (lift (wpAny_of_eq hpos ?_))
  refine gCallWith rfl (gSplicedCons (lift (wpAny_mono h (fun v s₁ h₁ => ?_) fun _ _ x => x)))
  obtain ⟨c, t, b, l₁, nw₁, nw₂, rfl, S₁, u, h0, h1, hz, hq⟩ := h₁
  exact gSplicedNil (gKeeperPlain (fun _ q => nomatch q) fun _ => gAppend hg S₁ u h0 h1 hz hq)
end
end Mine
namespace Mine
open Sem (wp)

section
variable {M : Model} {A : Around} {E : Value → Shared → Prop} {s : Shared}
theorem bufB {id : String} {b : Array UInt8} {t : Tok} {fl : Bool} {Q : Option (Array UInt8) → Shared → Prop} (h : Q (some b) s) : wpAny M A (Builtin.Bytes.buffer? id (.bytes b t) fl) Q E s := by
  have hT : s.TypeIs (.bytes b t) "bytes" := rfl
  have own : ∀ {Q : Bool → Shared → Prop}, Q true s → wpAny M A (Builtin.Bytes.slotIsOwn (.bytes b t) "__buffer__") Q E s := fun hq => by
    unfold Builtin.Bytes.slotIsOwn
    refine wpAny_bind (wpAny_specialOf hT Ba.lk_bufB ?_)
    refine bm_if_false (by decide +kernel) ?_
    rw [show ("bytes.__buffer__".dropRight ("__buffer__".length + 1)) = "bytes" by decide +kernel]
    exact wpAny_isInstance hT Ba.subB hq
  unfold Builtin.Bytes.buffer?
  refine wpAny_bind (wpAny_specialOf hT Ba.lk_bufB ?_)
  refine wpAny_bind (own ?_)
  refine bm_if_false rfl ?_
  refine wpAny_bind (wpAny_specialOf hT Ba.lk_bufB ?_)
  refine wpAny_bind ?_
  unfold Builtin.Bytes.ownRelease Builtin.Bytes.slotIsOwn
  refine wpAny_bind (wpAny_bind (wpAny_specialOf hT Ba.lk_relB (wpAny_pure (wpAny_pure ?_))))
  refine bm_if_false rfl ?_
  exact wpAny_pure h
theorem bufA {id : String} {a : Addr} {b : List UInt8} {fl : Bool} {Q : Option (Array UInt8) → Shared → Prop} (ho : s.heap.get? a = some (baObj b)) (h : Q (some b.toArray) s) : wpAny M A (Builtin.Bytes.buffer? id (.ref a) fl) Q E s := by
  have hT : s.TypeIs (.ref a) "bytearray" := ⟨_, ho, rfl⟩
  have own : ∀ {Q : Bool → Shared → Prop}, Q true s → wpAny M A (Builtin.Bytes.slotIsOwn (.ref a) "__buffer__") Q E s := fun hq => by
    unfold Builtin.Bytes.slotIsOwn
    refine wpAny_bind (wpAny_specialOf hT Ba.lk_buf ?_)
    refine bm_if_false (by decide +kernel) ?_
    rw [show ("bytearray.__buffer__".dropRight ("__buffer__".length + 1)) = "bytearray" by decide +kernel]
    exact wpAny_isInstance hT Ba.sub hq
  have own2 : ∀ {Q : Bool → Shared → Prop}, Q true s → wpAny M A (Builtin.Bytes.slotIsOwn (.ref a) "__release_buffer__") Q E s := fun hq => by
    unfold Builtin.Bytes.slotIsOwn
    refine wpAny_bind (wpAny_specialOf hT Ba.lk_rel ?_)
    refine bm_if_false (by decide +kernel) ?_
    rw [show ("bytearray.__release_buffer__".dropRight ("__release_buffer__".length + 1)) = "bytearray" by decide +kernel]
    exact wpAny_isInstance hT Ba.sub hq
  unfold Builtin.Bytes.buffer?
  refine wpAny_bind (wpAny_specialOf hT Ba.lk_buf ?_)
  refine wpAny_bind (own ?_)
  refine bm_if_false rfl ?_
  refine wpAny_bind (wpAny_specialOf hT Ba.lk_buf ?_)
  refine wpAny_bind ?_
  unfold Builtin.Bytes.ownRelease
  refine wpAny_bind (own2 (wpAny_pure ?_))
  refine bm_if_false rfl ?_
  refine wpAny_bind ?_
  unfold Builtin.Bytes.payload
  refine wpAny_bind ?_
  show wpAny _ _ (load a >>= _) _ _ _
  exact wpAny_bind (wpAny_load ho (wpAny_pure (wpAny_pure (wpAny_pure h))))
theorem bufP {id : String} {v : Value} {b : List UInt8} {fl : Bool} {Q : Option (Array UInt8) → Shared → Prop} (P : Pay s.heap v b) (h : Q (some b.toArray) s) : wpAny M A (Builtin.Bytes.buffer? id v fl) Q E s := by
  cases P with
  | bytes => exact bufB h
  | barr ho => exact bufA ho h
theorem takeP {id : String} {v : Value} {b : List UInt8} {fl : Int} {Q : Option (Array UInt8 × Option Value) → Shared → Prop} (P : Pay s.heap v b) (h : Q (some (b.toArray, none)) s) :
    wpAny M A (Builtin.Bytes.takeBufferQuiet? id v fl) Q E s := by
  unfold Builtin.Bytes.takeBufferQuiet?
  refine wpAny_bind (wpAny_attempt ?_)
  unfold Builtin.Bytes.takeBuffer?
  cases P with
  | bytes b t =>
    have hT : s.TypeIs (.bytes b.toArray t) "bytes" := rfl
    refine wpAny_bind (wpAny_specialOf hT Ba.lk_bufB ?_)
    refine wpAny_bind ?_
    unfold Builtin.Bytes.slotIsOwn
    refine wpAny_bind (wpAny_specialOf hT Ba.lk_bufB ?_)
    refine bm_if_false (by decide +kernel) ?_
    rw [show ("bytes.__buffer__".dropRight ("__buffer__".length + 1)) = "bytes" by decide +kernel]
    refine wpAny_isInstance hT Ba.subB ?_
    refine bm_if_false rfl ?_
    refine wpAny_bind (wpAny_specialOf hT Ba.lk_bufB ?_)
    exact wpAny_bind (bufB (wpAny_pure (wpAny_pure h)))
  | @barr a b ho =>
    have hT : s.TypeIs (.ref a) "bytearray" := ⟨_, ho, rfl⟩
    refine wpAny_bind (wpAny_specialOf hT Ba.lk_buf ?_)
    refine wpAny_bind ?_
    unfold Builtin.Bytes.slotIsOwn
    refine wpAny_bind (wpAny_specialOf hT Ba.lk_buf ?_)
    refine bm_if_false (by decide +kernel) ?_
    rw [show ("bytearray.__buffer__".dropRight ("__buffer__".length + 1)) = "bytearray" by decide +kernel]
    refine wpAny_isInstance hT Ba.sub ?_
    refine bm_if_false rfl ?_
    refine wpAny_bind (wpAny_specialOf hT Ba.lk_buf ?_)
    exact wpAny_bind (bufA ho (wpAny_pure (wpAny_pure h)))
theorem noNum {a b : Value} {T U : String} {Q : Option Value → Shared → Prop} (ha : s.TypeIs a T) (hb : s.TypeIs b U) (h1 : fillsNumberSlot (.type T) "add" = pure false) (h2 : fillsNumberSlot (.type U) "add" = pure false) (h : Q none s) :
    wpAny M A (binaryOp1 "add" a b) Q E s := by
  simp only [binaryOp1]
  refine wpAny_bind (wpAny_typeOf ha (wpAny_bind (wpAny_typeOf hb (wpAny_bind (wpAny_of_eq h1 ?_)))))
  by_cases hc : (Value.type T == Value.type U) = true
  · rw [if_pos hc]
    simp only [pure_bind, Bool.false_and, Bool.false_eq_true, if_false]
    exact wpAny_pure h
  · rw [if_neg hc]
    refine wpAny_bind (wpAny_of_eq h2 ?_)
    simp only [pure_bind, Bool.false_and, Bool.false_eq_true, if_false]
    exact wpAny_pure h
end

section
variable {prog : Program} {w : World} {A : Around} {E : Value → Shared → Prop} {Fs : List Addr} {s₀ s : Shared} {L : Addr} {l : List (Str × V)} {nw nw' : List (Addr × Sh)}
theorem gIadd {a : Addr} {b c : List UInt8} {v : Value} {Q : Value → Shared → Prop} (hg : A.guards = some []) (S : St Fs s₀ L l nw s) (u : Upd a (.barr b) (.barr (b ++ c)) nw nw') (P : Pay s.heap v c) (hv : v ≠ .ref a)
    (hz : b.length + c.length ≤ 16777216) (h : ∀ s', St Fs s₀ L l nw' s' → Q (.ref a) s') : wpG (model prog w) A (inplaceOp .Add (.ref a) v) Q E s := by
  have hT := S.baT u.mem
  have e1 : typeLookup (.type "bytearray") (dunderI "add") = pure (some (.builtin "bytearray.__iadd__")) := Ba.slot_iadd.lookup
  have hfi : fillsInplaceSlot (.type "bytearray") "add" (Operator.Add == .Add) = pure false := by
    unfold fillsInplaceSlot
    show (typeLookup (.type "bytearray") (dunderI "add") >>= fun fi => pure (fi.isSome && !isSeqSlot fi)) = pure false
    rw [e1, pure_bind, Ba.seq_iadd]; rfl
  have num : ∀ {Q : Option Value → Shared → Prop}, Q none s → wpAny (model prog w) A (binaryOp1 "add" (.ref a) v) Q E s := fun hq => by
    cases P with
    | bytes b t => exact noNum hT (show s.TypeIs (.bytes b.toArray t) "bytes" from rfl) Ba.noFill Ba.noFillB hq
    | @barr z _ ho => exact noNum hT (show s.TypeIs (.ref z) "bytearray" from ⟨_, ho, rfl⟩) Ba.noFill Ba.noFill hq
  unfold inplaceOp
  refine gHolding (gBind (lift (wpAny_typeOf hT (gBind (lift (wpAny_of_eq hfi ?_))))))
  show wpG _ A (if false = true then _ else _) Q E s
  rw [if_neg Bool.false_ne_true]
  refine gBind (lift (num ?_))
  refine gBind (lift (wpAny_of_eq (PySem.seqSlot_of e1 Ba.seq_iadd) ?_))
  refine gBind (lift (wpAny_rule ?_))
  refine gCallSlot Ba.slot_iadd hT Ba.entry_iadd (Ba.hold_iadd _) (Ba.args_iadd _ _) ?_
  unfold Builtin.«bytearray.__iadd__»
  refine gBind (lift (wpAny_of_eq (a := (.ref a, [v])) rfl ?_))
  refine gBind (lift (takeP P ?_))
  show wpG _ _ (Builtin.Bytes.thenGiveBack none _) _ _ s
  have hns : Builtin.Bytes.sameRef (.ref a) v = false := by
    cases v with
    | ref z => exact beq_eq_false_iff_ne.mpr fun q => hv (by rw [q])
    | _ => rfl
  have fin : wpG (model prog w) A.in1 (do
      if Builtin.Bytes.tooLong ((← Builtin.Bytes.payload (.ref a)).size + c.toArray.size) then unsupported "bytearray.__iadd__:memory"
      Builtin.Bytes.write (.ref a) (· ++ c.toArray)
      ret (.ref a)) (fun fin s' => ∃ v, fin = .done (.ret v) ∧ Q v s') E s := by
    refine gBind ?_
    unfold Builtin.Bytes.payload
    refine gBind ?_
    show wpG _ _ (load a >>= _) _ _ _
    refine gBind (lift (wpAny_load (S.barr u.mem) (lift (wpAny_pure (lift (wpAny_pure ?_))))))
    have ht : Builtin.Bytes.tooLong (b.toArray.size + c.toArray.size) = false := by
      simp only [Builtin.Bytes.tooLong, List.size_toArray, sizeLine_eq, decide_eq_false_iff_not]; omega
    dsimp only
    rw [ht]
    refine gBind (lift (write_ba (c := b ++ c) (S.barr u.mem) (by simp) (by simp; omega) fun h' hs hn => ?_))
    exact gPure ⟨_, rfl, h _ (S.upd u hs.extBut hn rfl)⟩
  unfold Builtin.Bytes.thenGiveBack
  dsimp only
  cases he : c.toArray.isEmpty with
  | true => exact fin
  | false =>
    simp only [Bool.not_false, if_true, hns, Bool.false_eq_true, if_false]
    exact gBind (gCheckResize hg (S.barr u.mem) fin)
end
end Mine
namespace Mine
open Sem (wp)

theorem isSub_stop : isSubtype (.type "StopIteration") (.type "StopIteration") = pure true := by rw [isSubtype_type]; kernel_rfl

section
variable {prog : Program} {w : World} {A : Around} {E : Value → Shared → Prop} {Fs : List Addr} {s₀ s : Shared} {L : Addr} {l : List (Str × V)} {nw nw' : List (Addr × Sh)} {v : Value} {b : List UInt8}

theorem payIter {Q : Value → Shared → Prop} (S : St Fs s₀ L l nw s) (P : Pay s.heap v b) (h : ∀ it s', St Fs s₀ L l ((it, .piter v 0) :: nw) s' → Q (.ref it) s') : wpAny (model prog w) A (pyIter v) Q E s := by
  cases P with
  | bytes b t => exact KBw.pyIter_bytes (h _ _ (S.push (x := .piter (.bytes b.toArray t) 0) (o := { cls := .type "bytes_iterator", data := .fields #[.bytes b.toArray t, .int 0 0] }) ⟨rfl, rfl⟩))
  | @barr a b ho =>
    have hT : s.TypeIs (.ref a) "bytearray" := ⟨_, ho, rfl⟩
    refine wpAny_pyIter_slot hT Ba.slot_iter (wpAny_call_entry Ba.slot_iter hT Ba.entry_iter ?_ (Ba.args_iter _))
    show wpAny _ _ (do ret (← newFields "bytearray_iterator" [.ref a, rawInt 0])) _ _ s
    exact wpAny_bind (wpAny_newObj_type (wpAny_pure ⟨_, rfl, "bytearray_iterator", _, ⟨_, Heap.get?_push_size _ rfl, rfl⟩, Ba.slot_next.lookup, h _ _ (S.push (x := .piter (.ref a) 0) (o := { cls := .type "bytearray_iterator", data := .fields #[.ref a, .int 0 0] }) ⟨rfl, rfl⟩)⟩))

theorem payNext {Q : Option Value → Shared → Prop} {it : Addr} {i : Nat} {c : UInt8} (S : St Fs s₀ L l nw s) (P : Pay s.heap v b) (u : Upd it (.piter v i) (.piter v (i + 1)) nw nw') (hc : b[i]? = some c)
    (h : ∀ t s', St Fs s₀ L l nw' s' → Q (some (.int (c.toNat : Int) t)) s') : wpAny (model prog w) A (pyNext (.ref it)) Q E s := by
  obtain ⟨o, ho, ⟨hcl, hd⟩, _⟩ := S.new _ u.mem
  cases P with
  | bytes b t =>
    refine KBw.next_item (b := b.toArray) (t := t) (i := i) ⟨o, ho, hcl, hd⟩ (by simpa using hc) fun h' ⟨o', ho', hc', hd'⟩ hs => ?_
    exact h _ _ (S.upd u hs.extBut ho' ⟨hc', hd'⟩)
  | @barr a b hb =>
    have hT : s.TypeIs (.ref it) "bytearray_iterator" := ⟨o, ho, hcl⟩
    unfold pyNext
    refine wpAny_bind (wpAny_attempt (wpAny_callSpecial?_slot (name := Str.ofString "__next__") hT Ba.slot_next (wpAny_call_entry Ba.slot_next hT Ba.entry_next ?_ (Ba.args_next _))))
    show wpAny _ _ (field (.ref it) 0 >>= _) _ _ s
    refine wpAny_bind (wpAny_field ho hd (x := .ref a) rfl ?_)
    show wpAny _ _ (load a >>= _) _ _ s
    refine wpAny_bind (wpAny_load hb ?_)
    show wpAny _ _ (field (.ref it) 1 >>= _) _ _ s
    refine wpAny_bind (wpAny_field ho hd (x := .int i 0) rfl ?_)
    have e : b.toArray[(i : Int).toNat]? = some c := by simpa using hc
    simp only [e]
    refine wpAny_bind (wpAny_setField ho hd (by simp) (wpAny_bind (wpAny_mkInt (wpAny_pure ⟨_, rfl, wpAny_pure (h _ _ (S.upd u (Heap.SameBut.update ..).extBut (Heap.get?_update_self _ ho (Obj.isFreed_of_fields (Obj.data_mapFields hd _))) ⟨(Obj.cls_mapFields ..).trans hcl, ?_⟩))⟩))))
    rw [Obj.data_mapFields hd]; simp [rawInt]

theorem payEnd {Q : Option Value → Shared → Prop} {it : Addr} {i : Nat} (hh : A.handled = none) (S : St Fs s₀ L l ((it, .piter v i) :: nw) s) (P : Pay s.heap v b) (hc : b[i]? = none)
    (h : ∀ s', St Fs s₀ L l nw s' → Q none s') : wpAny (model prog w) A (pyNext (.ref it)) Q E s := by
  obtain ⟨o, ho, ⟨hcl, hd⟩, _⟩ := S.new _ (.head _)
  cases P with
  | bytes b t =>
    exact KBw.next_end (b := b.toArray) (t := t) (i := i) hh ⟨o, ho, hcl, hd⟩ (by simpa using hc) fun h' hs => h _ (S.forget hs)
  | @barr a b hb =>
    have hT : s.TypeIs (.ref it) "bytearray_iterator" := ⟨o, ho, hcl⟩
    unfold pyNext
    refine wpAny_bind (wpAny_attempt (wpAny_callSpecial?_slot (name := Str.ofString "__next__") hT Ba.slot_next (wpAny_call_entry Ba.slot_next hT Ba.entry_next ?_ (Ba.args_next _))))
    show wpAny _ _ (field (.ref it) 0 >>= _) _ _ s
    refine wpAny_bind (wpAny_field ho hd (x := .ref a) rfl ?_)
    show wpAny _ _ (load a >>= _) _ _ s
    refine wpAny_bind (wpAny_load hb ?_)
    show wpAny _ _ (field (.ref it) 1 >>= _) _ _ s
    refine wpAny_bind (wpAny_field ho hd (x := .int i 0) rfl ?_)
    have e : b.toArray[(i : Int).toNat]? = none := by simpa using hc
    simp only [e]
    refine wpAny_bind (wpAny_rule (wpAny_bind (wpAny_setField ho hd (by simp) (wpAny_bind (wpAny_letGo ?_)))))
    show wpAny _ _ (newExc (.type "StopIteration") [] >>= _) _ _ _
    refine wpAny_bind ?_
    simp only [newExc, newTuple]
    refine wpAny_bind (wpAny_newObj_type ?_ (by size_fits))
    refine wpAny_bind (m := firstArgMember _ _) (wpAny_of_eq (a := Value.none) (by first | rfl | (simp only [firstArgMember]; rfl)) ?_)
    refine wpAny_newObj_type ?_ (by size_fits)
    simp only [raiseNew]
    refine wpAny_bind (wpAny_handled ?_)
    rw [show A.in1.handled = none from hh]
    refine wpAny_bind (wpAny_pure (wpAny_throw ?_))
    refine wpAny_bind (wpAny_isInstance (T := "StopIteration") (b := true) ⟨_, Heap.get?_push_size _ rfl, rfl⟩ isSub_stop ?_)
    exact wpAny_pure (h _ (S.forget (((Heap.SameBut.update ..).extBut.push _).push _)))

/-! cuts of octets -/
theorem part {M : Model} {A : Around} {E : Value → Shared → Prop} {s : Shared} {u : Value} {k : Option Int} {Q : Value → Shared → Prop} (hv : IsPart u k) (h : Q (rawPart k) s) :
    wpAny M A (do
      if u == .none then return .none
      if (← specialOf u "__index__").isNone then
        rule "bytes.slice.part-no-index"; raiseError "TypeError" "slice indices must be integers or None or have an __index__ method"
      return rawInt (← asIndex u)) Q E s := by
  cases hv with
  | none => exact wpAny_pure h
  | int i t =>
    refine bm_if_false rfl ?_
    refine wpAny_bind (wpAny_specialOf (T := "int") (typeIs_int s i t) int_index ?_)
    exact wpAny_bind (wpAny_of_eq (a := i) rfl (wpAny_pure h))
theorem slParts {M : Model} {A : Around} {E : Value → Shared → Prop} {s : Shared} {sl : Addr} {vl vu : Value} {lo hi : Option Int} {Q : Value × Value × Value → Shared → Prop} (hs : s.heap.get? sl = some (slObj vl vu)) (pl : IsPart vl lo) (pu : IsPart vu hi)
    (h : Q (rawPart lo, rawPart hi, .none) s) : wpAny M A (Builtin.Bytes.sliceParts (.ref sl)) Q E s := by
  unfold Builtin.Bytes.sliceParts
  refine wpAny_bind (wpAny_field hs rfl (x := .none) rfl (wpAny_bind (part .none ?_)))
  refine bm_if_false rfl ?_
  refine wpAny_bind (wpAny_field hs rfl (x := vl) rfl (wpAny_bind (part pl ?_)))
  exact wpAny_bind (wpAny_field hs rfl (x := vu) rfl (wpAny_bind (part pu (wpAny_pure h))))
theorem noIdx {M : Model} {A : Around} {E : Value → Shared → Prop} {s : Shared} {sl : Addr} {vl vu : Value} {Q : Option Int → Shared → Prop} (hs : s.heap.get? sl = some (slObj vl vu)) (h : Q none s) : wpAny M A (Builtin.Bytes.subscript? (.ref sl)) Q E s := by
  have hT : s.TypeIs (.ref sl) "slice" := ⟨_, hs, rfl⟩
  unfold Builtin.Bytes.subscript?
  exact wpAny_bind (wpAny_specialOf hT slice_no_index (wpAny_pure h))
theorem sliced_pk (b : List UInt8) (lo hi : Option Int) : Builtin.Bytes.sliced b.toArray (sliceBounds lo hi none b.toArray.size).1 (sliceBounds lo hi none b.toArray.size).2.1 (sliceBounds lo hi none b.toArray.size).2.2 = (pk b lo hi).toArray := by
  unfold Builtin.Bytes.sliced pk
  simp only [List.size_toArray, List.getElem?_toArray]

theorem cutPay {Q : Value → Shared → Prop} {vl vu : Value} {lo hi : Option Int} (S : St Fs s₀ L l nw s) (P : Pay s.heap v b) (pl : IsPart vl lo) (pu : IsPart vu hi) (hz : b.length ≤ 16777216)
    (h : ∀ v' s', St Fs s₀ L l nw s' → Pay s'.heap v' (pk b lo hi) → (∀ p ∈ nw, v' ≠ .ref p.1) → Q v' s') : Cut prog w A E v vl vu Q s := by
  have S' : St Fs s₀ L l nw { s with heap := s.heap.push (slObj vl vu) } := S.pushed
  have hsl : ({ s with heap := s.heap.push (slObj vl vu) } : Shared).heap.get? s.heap.objs.size = some (slObj vl vu) := Heap.get?_push_size _ rfl
  have hTs : ({ s with heap := s.heap.push (slObj vl vu) } : Shared).TypeIs (.ref s.heap.objs.size) "slice" := ⟨_, hsl, rfl⟩
  cases P with
  | bytes b t =>
    refine ⟨"bytes", _, FB.slot_bytes_getitem.lookup, rfl, ?_⟩
    have hT : ({ s with heap := s.heap.push (slObj vl vu) } : Shared).TypeIs (.bytes b.toArray t) "bytes" := rfl
    refine PyProof.Rows.getItem_slot hT (by decide) FB.slot_bytes_getitem (wpAny_call_entry FB.slot_bytes_getitem hT FB.entry_bytes_getitem ?_ (FB.args_bytes_getitem_2 _ _))
    unfold Builtin.«bytes.__getitem__»
    refine wpAny_bind (wpAny_of_eq (a := (.bytes b.toArray t, [.ref s.heap.objs.size])) rfl ?_)
    refine wpAny_bind (wpAny_of_eq (a := b.toArray) rfl ?_)
    refine wpAny_bind (noIdx hsl ?_)
    refine wpAny_bind (wpAny_typeOf hTs ?_)
    refine bm_if_false (by decide) ?_
    refine wpAny_bind (slParts hsl pl pu ?_)
    refine wpAny_bind (wpAny_of_eq (sliceIndices_raw lo hi none b.toArray.size (by simp)) ?_)
    have last : wpAny (model prog w) A.in1 (do ret (← mkBytes (Builtin.Bytes.sliced b.toArray (sliceBounds lo hi none b.toArray.size).1 (sliceBounds lo hi none b.toArray.size).2.1 (sliceBounds lo hi none b.toArray.size).2.2)))
        (fun fin s' => ∃ v, fin = .done (.ret v) ∧ Q v s') E { s with heap := s.heap.push (slObj vl vu) } := by
      rw [sliced_pk]
      refine wpAny_bind (wpAny_mkBytes (wpAny_pure ⟨_, rfl, h _ _ S'.toks (.bytes ..) (fun _ _ e => nomatch e)⟩) ?_)
      rw [List.size_toArray, sizeLine_eq]; exact Nat.le_trans (pk_length b lo hi) hz
    dsimp only
    by_cases hw : ((sliceBounds lo hi none b.toArray.size).1 == 0 && (sliceBounds lo hi none b.toArray.size).2.2 == 1 && (sliceBounds lo hi none b.toArray.size).2.1 == (b.toArray.size : Int) && !b.toArray.isEmpty) = true
    · have e : pk b lo hi = b := by
        simp only [Bool.and_eq_true, beq_iff_eq, List.size_toArray] at hw
        unfold pk
        rw [hw.1.1.1, hw.1.1.2, hw.1.2]
        have := pk_run b 0 b.length
        simpa using this
      refine bm_if_true hw ?_
      refine wpAny_bind (wpAny_typeOf hT ?_)
      refine bm_if_true rfl ?_
      refine wpAny_bind (wpAny_rule ?_)
      refine wpAny_pure ⟨_, rfl, h _ _ S' ?_ (fun _ _ e => nomatch e)⟩
      rw [e]; exact .bytes ..
    · exact bm_if_false (by simpa using hw) last
  | @barr a b ho =>
    have ho' : ({ s with heap := s.heap.push (slObj vl vu) } : Shared).heap.get? a = some (baObj b) := Heap.get?_push_of_some _ ho
    have hT : ({ s with heap := s.heap.push (slObj vl vu) } : Shared).TypeIs (.ref a) "bytearray" := ⟨_, ho', rfl⟩
    refine ⟨"bytearray", _, Ba.slot_getitem.lookup, hT, ?_⟩
    refine PyProof.Rows.getItem_slot hT (by decide) Ba.slot_getitem (wpAny_call_entry Ba.slot_getitem hT Ba.entry_getitem ?_ (Ba.args_getitem _ _))
    unfold Builtin.«bytearray.__getitem__»
    refine wpAny_bind (wpAny_of_eq (a := (.ref a, [.ref s.heap.objs.size])) rfl ?_)
    refine wpAny_bind (noIdx hsl ?_)
    refine wpAny_bind (wpAny_typeOf hTs ?_)
    refine bm_if_false (by decide) ?_
    refine wpAny_bind (slParts hsl pl pu ?_)
    refine wpAny_bind ?_
    unfold Builtin.Bytes.payload
    refine wpAny_bind ?_
    show wpAny _ _ (load a >>= _) _ _ _
    refine wpAny_bind (wpAny_load ho' (wpAny_pure (wpAny_pure ?_)))
    refine wpAny_bind (wpAny_of_eq (sliceIndices_raw lo hi none b.toArray.size (by simp)) ?_)
    dsimp only
    rw [sliced_pk]
    refine wpAny_bind ?_
    unfold Builtin.Bytes.newBytearray
    refine wpAny_newObj_type (wpAny_pure ⟨_, rfl, h _ _ S'.pushed (.barr (Heap.get?_push_size _ rfl)) fun p hp e => ?_⟩) ?_
    · obtain ⟨o, q, _⟩ := S'.new p hp
      rw [← Value.ref.inj e] at q
      exact absurd (Heap.lt_size q) (Nat.lt_irrefl _)
    · show (pk b lo hi).toArray.size ≤ sizeLine
      rw [List.size_toArray, sizeLine_eq]; exact Nat.le_trans (pk_length b lo hi) hz
end
end Mine
namespace Mine
open Sem (wp)

namespace Ba
theorem slot_self : Slot "bytearray_iterator" "__iter__" "bytearray_iterator.__iter__" :=
  .of (owner := "bytearray_iterator") (n := "__iter__") (by rw [typeLookup_type, builtinLookup_eq_fast]; kernel_rfl) (by decide +kernel) (by decide +kernel) (by decide +kernel)
    (by first | exact .inl (by decide +kernel) | exact .inr (by decide +kernel)) (by rw [isSubtype_type]; kernel_rfl)
theorem entry_self : entryFor table "bytearray_iterator.__iter__" = some Builtin.«dict_keyiterator.__iter__» := entryFor_alias (id' := "dict_keyiterator.__iter__") (by kernel_rfl) rfl (by decide +kernel) (by kernel_rfl)
theorem args_self (a : Value) : argsOk "bytearray_iterator.__iter__" ⟨[a], []⟩ := by unfold argsOk; kernel_rfl
theorem lk_len : typeLookup (.type "bytearray") "__len__" = pure (some (.builtin "bytearray.__len__")) := by rw [typeLookup_type, builtinLookup_eq_fast]; kernel_rfl
theorem split_len : splitId "bytearray.__len__" = some ("bytearray", "__len__") := by decide +kernel
theorem split_lenB : splitId "bytes.__len__" = some ("bytes", "__len__") := by decide +kernel
end Ba
def BaIter (h : Heap) (it a : Addr) (b : List UInt8) (i : Nat) : Prop := (∃ o, h.get? it = some o ∧ o.cls = .type "bytearray_iterator" ∧ o.data = .fields #[.ref a, .int i 0]) ∧ h.get? a = some (baObj b)

theorem baWalks {prog : Program} {w : World} {A : Around} (hh : A.handled = none) (I a : Addr) (hne : a ≠ I) (b : List UInt8) :
    Walks prog w A I [I, a] [I] b.length (fun i v => ∃ c u, b[i]? = some c ∧ v = .int (c.toNat : Int) u) (fun i h => BaIter h I a b i) where
  sub := fun _ hb => by simp at hb; simp [hb]
  frame := fun _ _ _ st hk => let ⟨⟨o, ho, r⟩, hb⟩ := st; ⟨⟨o, hk I (by simp) o ho, r⟩, hk a (by simp) _ hb⟩
  item := fun i s Q E hi st hQ => by
    obtain ⟨⟨o, ho, hcl, hd⟩, hb⟩ := st
    have hT : s.TypeIs (.ref I) "bytearray_iterator" := ⟨o, ho, hcl⟩
    unfold pyNext
    refine wpAny_bind (wpAny_attempt (wpAny_callSpecial?_slot (name := Str.ofString "__next__") hT Ba.slot_next (wpAny_call_entry Ba.slot_next hT Ba.entry_next ?_ (Ba.args_next _))))
    show wpAny _ _ (field (.ref I) 0 >>= _) _ _ s
    refine wpAny_bind (wpAny_field ho hd (x := .ref a) rfl ?_)
    show wpAny _ _ (load a >>= _) _ _ s
    refine wpAny_bind (wpAny_load hb ?_)
    show wpAny _ _ (field (.ref I) 1 >>= _) _ _ s
    refine wpAny_bind (wpAny_field ho hd (x := .int i 0) rfl ?_)
    have e : b.toArray[(i : Int).toNat]? = some b[i] := by simp [hi]
    simp only [e]
    refine wpAny_bind (wpAny_setField ho hd (by simp) (wpAny_bind (wpAny_mkInt (wpAny_pure ⟨_, rfl, wpAny_pure (hQ _ _ _ ⟨b[i], _, by simp [hi], rfl⟩ ⟨⟨_, Heap.get?_update_self _ ho (Obj.isFreed_of_fields (Obj.data_mapFields hd _)), (Obj.cls_mapFields ..).trans hcl, ?_⟩, ?_⟩ ?_)⟩))))
    · rw [Obj.data_mapFields hd]; simp [rawInt]
    · exact (Heap.get?_update_other _ _ (Ne.symm hne)).trans hb
    · exact fun z oz hz q => (Heap.SameBut.update ..).extBut z oz (fun q' => hz (by simp [q'])) q
  done := fun s Q E st hQ => by
    obtain ⟨⟨o, ho, hcl, hd⟩, hb⟩ := st
    have hT : s.TypeIs (.ref I) "bytearray_iterator" := ⟨o, ho, hcl⟩
    unfold pyNext
    refine wpAny_bind (wpAny_attempt (wpAny_callSpecial?_slot (name := Str.ofString "__next__") hT Ba.slot_next (wpAny_call_entry Ba.slot_next hT Ba.entry_next ?_ (Ba.args_next _))))
    show wpAny _ _ (field (.ref I) 0 >>= _) _ _ s
    refine wpAny_bind (wpAny_field ho hd (x := .ref a) rfl ?_)
    show wpAny _ _ (load a >>= _) _ _ s
    refine wpAny_bind (wpAny_load hb ?_)
    show wpAny _ _ (field (.ref I) 1 >>= _) _ _ s
    refine wpAny_bind (wpAny_field ho hd (x := .int b.length 0) rfl ?_)
    have e : b.toArray[(b.length : Int).toNat]? = none := by simp
    simp only [e]
    refine wpAny_bind (wpAny_rule (wpAny_bind (wpAny_setField ho hd (by simp) (wpAny_bind (wpAny_letGo ?_)))))
    show wpAny _ _ (newExc (.type "StopIteration") [] >>= _) _ _ _
    refine wpAny_bind ?_
    simp only [newExc, newTuple]
    refine wpAny_bind (wpAny_newObj_type ?_ (by size_fits))
    refine wpAny_bind (m := firstArgMember _ _) (wpAny_of_eq (a := Value.none) (by first | rfl | (simp only [firstArgMember]; rfl)) ?_)
    refine wpAny_newObj_type ?_ (by size_fits)
    simp only [raiseNew]
    refine wpAny_bind (wpAny_handled ?_)
    rw [show A.in1.handled = none from hh]
    refine wpAny_bind (wpAny_pure (wpAny_throw ?_))
    refine wpAny_bind (wpAny_isInstance (T := "StopIteration") (b := true) ⟨_, Heap.get?_push_size _ rfl, rfl⟩ isSub_stop ?_)
    exact wpAny_pure (hQ _ s.toks fun z oz hz q => (((Heap.SameBut.update ..).extBut.push _).push _) z oz (fun q' => hz (by simp [q'])) q)
  self := fun i s Q E st hQ => by
    obtain ⟨⟨o, ho, hcl, hd⟩, hb⟩ := st
    have hT : s.TypeIs (.ref I) "bytearray_iterator" := ⟨o, ho, hcl⟩
    refine wpAny_pyIter_slot hT Ba.slot_self (wpAny_call_entry Ba.slot_self hT Ba.entry_self ?_ (Ba.args_self _))
    show wpAny _ _ (ret (.ref I)) _ _ s
    exact wpAny_pure ⟨_, rfl, "bytearray_iterator", _, hT, Ba.slot_next.lookup, hQ⟩

theorem ints_of_items {b : List UInt8} {acc : Array Value} (h : ItemsOf (fun i v => ∃ c u, b[i]? = some c ∧ v = .int (c.toNat : Int) u) acc b.length) : IntsAre acc.toList (b.map fun c => (c.toNat : Int)) := by
  obtain ⟨hl, h⟩ := h
  obtain ⟨vs⟩ := acc
  simp only [List.size_toArray, List.getElem?_toArray] at hl h
  induction vs generalizing b with
  | nil => cases b with
    | nil => exact .nil
    | cons c r => simp at hl
  | cons v vs ih => cases b with
    | nil => simp at hl
    | cons c r =>
      obtain ⟨c', u, h1, rfl⟩ := h 0 v rfl
      cases h1
      exact .cons _ _ (ih (by simpa using hl) fun j v hj => by simpa using h (j + 1) v (by simpa using hj))

section
variable {prog : Program} {w : World} {A : Around} {E : Value → Shared → Prop} {Fs : List Addr} {s₀ s : Shared} {L : Addr} {l : List (Str × V)} {nw nw' : List (Addr × Sh)} {v : Value} {b : List UInt8}
theorem extPay {R : Result → Shared → Prop} (hh : A.handled = none) (P : Pay s.heap v b) (S : Addr) (hvS : v ≠ .ref S) (res : Value) (c₀ : Nat) (hS : s.heap.get? S = some { cls := .type "list", data := .seq #[] c₀ }) (hn : b.length ≤ 16777216)
    (hR : ∀ h' tk acc' c', (∀ b o, b ≠ S → s.heap.get? b = some o → h'.get? b = some o) → h'.get? S = some { cls := .type "list", dict := none, data := .seq acc' c', slots := #[] } →
      IntsAre acc'.toList (b.map fun c => (c.toNat : Int)) → R (.ok (.ret res)) { s with heap := h', toks := tk }) :
    wpAny (model prog w) A.in1 (Builtin.List.listExtendWith (.ref S) v res)
      (fun fin s' => match fin with | .done f => R (.ok f) s' | .again c' => c'.quiet = true ∧ codeAny (model prog w) A c' R s') (fun e s' => R (.error e) s') s := by
  have hSI : S ≠ s.heap.objs.size := Nat.ne_of_lt (Heap.lt_size hS)
  unfold Builtin.List.listExtendWith
  cases P with
  | bytes b t =>
    refine wpAny_bind (wpAny_typeOf (T := "bytes") (v := .bytes b.toArray t) rfl ?_)
    have h1 : Builtin.List.listSameRef (.ref S) (.bytes b.toArray t) = false := rfl
    have h2 : (Value.type "bytes" == Value.type "list") = false := by decide
    have h3 : (Value.type "bytes" == Value.type "tuple") = false := by decide
    simp only [h1, h2, h3, Bool.or_false, Bool.false_eq_true, if_false]
    refine wpAny_bind (KBw.pyIter_bytes ?_)
    refine wpAny_bind (wpAny_holding ?_)
    unfold Builtin.List.listLengthHint
    refine wpAny_bind (wpAny_specialOf (T := "bytes") (v := .bytes b.toArray t) rfl FB.slot_bytes_len.lookup ?_)
    dsimp only
    rw [Ba.split_lenB]
    dsimp only
    refine wpAny_bind (wpAny_isInstance (T := "bytes") (v := .bytes b.toArray t) (b := true) rfl Ba.subB ?_)
    refine bm_if_false rfl ?_
    refine bm_if_true (by decide +kernel) ?_
    refine wpAny_bind (wpAny_typeOf (T := "bytes") (v := .bytes b.toArray t) rfl ?_)
    refine wpAny_pure ?_
    rw [if_neg (by decide)]
    have W := KBw.walks (prog := prog) (w := w) (A := A.in1) hh s.heap.objs.size b.toArray t
    refine wpAny_pure ⟨plainId_quiet F.plain_extend_loop _, codeAny_extend_loopS W.toS (by simp [sizeLine_eq]; exact hn) _ (fun hm => hSI (List.mem_singleton.mp hm)) _ b.toArray.size 0 _ _ _ rfl (Nat.zero_le _)
      ⟨_, Heap.get?_push_size _ rfl, rfl, rfl⟩ (Heap.get?_push_of_some _ hS) (ItemsOf.nil _) fun s' acc' c' hm hS' hacc => ?_⟩
    rw [Moved.eq_with hm]
    refine hR s'.heap s'.toks acc' c' (fun z ob hb e => hm.heap z ob (fun hmem => ?_) (Heap.get?_push_of_some _ e)) hS' (ints_of_items (by simpa using hacc))
    rcases List.mem_cons.mp hmem with e' | hmem
    · exact hb e'
    · exact absurd (Heap.lt_size e) (by rw [List.mem_singleton.mp hmem]; exact Nat.lt_irrefl _)
  | @barr a b ho =>
    have hT : s.TypeIs (.ref a) "bytearray" := ⟨_, ho, rfl⟩
    have haI : a ≠ s.heap.objs.size := Nat.ne_of_lt (Heap.lt_size ho)
    refine wpAny_bind (wpAny_typeOf hT ?_)
    have h1 : Builtin.List.listSameRef (.ref S) (.ref a) = false := beq_eq_false_iff_ne.mpr fun q => hvS (by rw [q])
    have h2 : (Value.type "bytearray" == Value.type "list") = false := by decide
    have h3 : (Value.type "bytearray" == Value.type "tuple") = false := by decide
    simp only [h1, h2, h3, Bool.or_false, Bool.false_eq_true, if_false]
    have it : ∀ {Q : Value → Shared → Prop}, Q (.ref s.heap.objs.size) { s with heap := s.heap.push { cls := .type "bytearray_iterator", data := .fields #[.ref a, .int 0 0] } } → wpAny (model prog w) A.in1 (pyIter (.ref a)) Q (fun e s' => R (.error e) s') s := fun hq => by
      refine wpAny_pyIter_slot hT Ba.slot_iter (wpAny_call_entry Ba.slot_iter hT Ba.entry_iter ?_ (Ba.args_iter _))
      show wpAny _ _ (do ret (← newFields "bytearray_iterator" [.ref a, rawInt 0])) _ _ s
      exact wpAny_bind (wpAny_newObj_type (wpAny_pure ⟨_, rfl, "bytearray_iterator", _, ⟨_, Heap.get?_push_size _ rfl, rfl⟩, Ba.slot_next.lookup, hq⟩))
    refine wpAny_bind (it ?_)
    have hT' : ({ s with heap := s.heap.push { cls := .type "bytearray_iterator", data := .fields #[.ref a, .int 0 0] } } : Shared).TypeIs (.ref a) "bytearray" := ⟨_, Heap.get?_push_of_some _ ho, rfl⟩
    refine wpAny_bind (wpAny_holding ?_)
    unfold Builtin.List.listLengthHint
    refine wpAny_bind (wpAny_specialOf hT' Ba.lk_len ?_)
    dsimp only
    rw [Ba.split_len]
    dsimp only
    refine wpAny_bind (wpAny_isInstance hT' Ba.sub ?_)
    refine bm_if_false rfl ?_
    refine bm_if_true (by decide +kernel) ?_
    refine wpAny_bind (wpAny_typeOf hT' ?_)
    refine wpAny_pure ?_
    rw [if_neg (by decide)]
    have W := baWalks (prog := prog) (w := w) (A := A.in1) hh s.heap.objs.size a haI b
    refine wpAny_pure ⟨plainId_quiet F.plain_extend_loop _, codeAny_extend_loopS W.toS (by rw [sizeLine_eq]; exact hn) _ (fun hm => ?_) _ b.length 0 _ _ _ rfl (Nat.zero_le _)
      ⟨⟨_, Heap.get?_push_size _ rfl, rfl, rfl⟩, Heap.get?_push_of_some _ ho⟩ (Heap.get?_push_of_some _ hS) (ItemsOf.nil _) fun s' acc' c' hm hS' hacc => ?_⟩
    · rcases List.mem_cons.mp hm with e | hm
      · exact hSI e
      · exact hvS (by rw [List.mem_singleton.mp hm])
    rw [Moved.eq_with hm]
    refine hR s'.heap s'.toks acc' c' (fun z ob hb e => hm.heap z ob (fun hmem => ?_) (Heap.get?_push_of_some _ e)) hS' (ints_of_items hacc)
    rcases List.mem_cons.mp hmem with e' | hmem
    · exact hb e'
    · exact absurd (Heap.lt_size e) (by rw [List.mem_singleton.mp hmem]; exact Nat.lt_irrefl _)

theorem aListOf {Q : Value → Shared → Prop} (hh : A.handled = none) (S : St Fs s₀ L l nw s) (P : Pay s.heap v b) (hn : b.length ≤ 16777216)
    (h : ∀ z s', St Fs s₀ L l ((z, .ints (b.map fun c => (c.toNat : Int))) :: nw) s' → Q (.ref z) s') : wpAny (model prog w) A (call (.type "list") [v]) Q E s := by
  refine callType_codes (Q₁ := fun obj s₁ => obj = .ref s.heap.objs.size ∧ s₁ = { s with heap := s.heap.push { cls := .type "list", data := .seq #[] } }) F.called_list (F.typeCall_list_1 _) F.entry_list_init
    (code_list_new _ ⟨rfl, rfl⟩) fun obj s₁ h₁ => ?_
  obtain ⟨rfl, rfl⟩ := h₁
  have hS : (s.heap.push { cls := .type "list", data := .seq #[] }).get? s.heap.objs.size = some { cls := .type "list", data := .seq #[] } := Heap.get?_push_size _ rfl
  have hvS : v ≠ .ref s.heap.objs.size := fun e => by
    cases P with
    | bytes => cases e
    | barr ho => rw [Value.ref.inj e] at ho; exact absurd (Heap.lt_size ho) (Nat.lt_irrefl _)
  refine ⟨⟨_, hS, rfl⟩, F.args_list_init_2 _ _, ?_⟩
  show wpAny _ _ (do let old ← Builtin.List.listItems (.ref s.heap.objs.size); Builtin.List.listUpdate (.ref s.heap.objs.size) (fun _ => #[]); letGo old.toList.reverse; Builtin.List.listExtendWith (.ref s.heap.objs.size) v .none) _ _ _
  refine wpAny_bind ?_
  unfold Builtin.List.listItems
  refine wpAny_bind (wpAny_seqItems hS rfl (wpAny_pure ?_))
  show wpAny _ _ (updateSeq s.heap.objs.size (fun _ => #[]) >>= fun _ => letGo (#[] : Array Value).toList.reverse >>= fun _ => Builtin.List.listExtendWith (.ref s.heap.objs.size) v .none) _ _ _
  refine wpAny_bind (wpAny_updateSeq hS rfl ?_)
  have hS₂ := Heap.get?_update_self (Obj.mapSeq (fun _ => (#[] : Array Value))) hS rfl
  have oth : ∀ z o, s.heap.get? z = some o → ((s.heap.push { cls := .type "list", data := .seq #[] }).update s.heap.objs.size (Obj.mapSeq (fun _ => (#[] : Array Value)))).get? z = some o :=
    fun z o e => (Heap.get?_update_other _ _ (Nat.ne_of_gt (Heap.lt_size e))).trans (Heap.get?_push_of_some _ e)
  refine wpAny_bind (wpAny_letGo ?_)
  refine extPay (A := A.in1) hh (P.keeps oth) _ hvS .none _ hS₂ hn fun h' tk acc' c' hk hS' hI => ⟨rfl, ?_⟩
  exact h _ _ (S.add (x := .ints (b.map fun c => (c.toNat : Int))) (Nat.le_refl _) (fun z o e => hk z o (Nat.ne_of_lt (Heap.lt_size e)) (oth z o e)) hS' ⟨acc'.toList, c', by simp, hI⟩)
end
end Mine
namespace Mine
open Sem (wp)

namespace Ba
theorem mro : mroOf (.type "bytearray") = pure [.type "bytearray", .type "object"] := by rw [mroOf_type]; kernel_rfl
theorem lk_new : typeLookup (.type "bytearray") "__new__" = pure (some (.builtin "bytearray.__new__")) := by rw [typeLookup_type, builtinLookup_eq_fast]; kernel_rfl
theorem slot_init : Slot "bytearray" "__init__" "bytearray.__init__" :=
  .of (owner := "bytearray") (n := "__init__") (by rw [typeLookup_type, builtinLookup_eq_fast]; kernel_rfl) (by decide +kernel) (by decide +kernel) (by decide +kernel)
    (by first | exact .inl (by decide +kernel) | exact .inr (by decide +kernel)) (by rw [isSubtype_type]; kernel_rfl)
theorem called : TypeCalled "bytearray" "bytearray.__new__" "bytearray.__init__" :=
  ⟨by decide +kernel, by decide +kernel, ⟨_, _, mro⟩, madeBy_type mro lk_new (by decide +kernel), by decide +kernel, sub, slot_init⟩
theorem tc0 : checkTypeCall "bytearray" ⟨[], []⟩ = pure () := by kernel_rfl
theorem tc1 (a : Value) : checkTypeCall "bytearray" ⟨[a], []⟩ = pure () := by kernel_rfl
theorem nc0 : checkBuiltinCall "bytearray.__new__" ⟨[.type "bytearray"], []⟩ = pure () := by kernel_rfl
theorem nc1 (a : Value) : checkBuiltinCall "bytearray.__new__" ⟨[.type "bytearray", a], []⟩ = pure () := by kernel_rfl
theorem entry_new : entryFor table "bytearray.__new__" = some Builtin.«list.__new__» := entryFor_alias (id' := "list.__new__") (by kernel_rfl) (by first | rfl | decide +kernel) (by decide +kernel) (by kernel_rfl)
theorem entry_init : entryFor table "bytearray.__init__" = some Builtin.«bytearray.__init__» := entryFor_of_tree (by kernel_rfl)
theorem plain_new : plainId "bytearray.__new__" = true := by decide +kernel
theorem args_init0 (a : Value) : argsOk "bytearray.__init__" ⟨[a], []⟩ := by unfold argsOk; kernel_rfl
theorem args_init1 (a b : Value) : argsOk "bytearray.__init__" ⟨[a, b], []⟩ := by unfold argsOk; kernel_rfl
set_option maxHeartbeats 4000000 in
theorem owner_new : ("bytearray.__new__".splitOn ".__new__").headD "" = "bytearray" := by simp +decide [String.splitOn, String.splitOnAux]
theorem bind0 : Builtin.Bytes.bindOptional "bytearray.__init__" "bytearray" ["source", "encoding", "errors"] [] [] = pure [none, none, none] := by kernel_rfl
theorem bind1 (v : Value) : Builtin.Bytes.bindOptional "bytearray.__init__" "bytearray" ["source", "encoding", "errors"] [v] [] = pure [some v, none, none] := by kernel_rfl
theorem hold_init (x : Args) : holder (.builtin "bytearray.__init__" x) = false := by show Builtin.Bytes.decodersThatHold.contains "bytearray.__init__" = false; decide +kernel
theorem hold_type (x : Args) : holder (.builtin "type.__call__" x) = false := by show Builtin.Bytes.decodersThatHold.contains "type.__call__" = false; decide +kernel
theorem no_bytes : typeLookup (.type "bytearray") "__bytes__" = pure none := by rw [typeLookup_type, builtinLookup_eq_fast]; kernel_rfl
theorem noIndex : typeLookup (.type "bytearray") "__index__" = pure none := by rw [typeLookup_type, builtinLookup_eq_fast]; kernel_rfl
end Ba

section
variable {prog : Program} {w : World} {A : Around} {E : Value → Shared → Prop} {Fs : List Addr} {s₀ s : Shared} {L : Addr} {l : List (Str × V)} {nw nw' : List (Addr × Sh)} {v : Value} {b : List UInt8}

theorem codeBaNew {as : List Value} (hck : checkBuiltinCall "bytearray.__new__" ⟨.type "bytearray" :: as, []⟩ = pure ()) {Q₁ : Value → Shared → Prop}
    (h : Q₁ (.ref s.heap.objs.size) { s with heap := s.heap.push (baObj []) }) :
    codeAny (model prog w) A (.call (.builtin "bytearray.__new__") ⟨.type "bytearray" :: as, []⟩) (wants Q₁ E) s := by
  refine codeAny_of_tree ?_
  show wpAny _ A.in1 (do checkBuiltinCall "bytearray.__new__" ⟨.type "bytearray" :: as, []⟩; again (.builtin "bytearray.__new__" ⟨.type "bytearray" :: as, []⟩)) _ _ s
  refine wpAny_bind (wpAny_of_eq hck (wpAny_pure ⟨plainId_quiet Ba.plain_new _, codeAny_builtin_stack Ba.entry_new rfl fun p st => ?_⟩))
  rw [Around.under_plainId Ba.plain_new _]
  have hsub := Ba.sub
  have hown := Ba.owner_new
  obtain ⟨hp, g, d, tk, os⟩ := s
  simp only [hown]
  wp_walk
  exact h

theorem codeG_builtin {R : Result → Shared → Prop} {id : String} {args : Args} {b : Builtin} (hb : entryFor table id = some b)
    (h : wpG (model prog w) (A.under (.builtin id args)) (b args) (fun fin s' => match fin with | .done f => R (.ok f) s' | .again c' => c'.quiet = true ∧ holder c' = false ∧ codeG (model prog w) A c' R s') (fun e s' => R (.error e) s') s) :
    codeG (model prog w) A (.builtin id args) R s := by
  refine codeG_of_tree ?_
  show wpG _ _ (match entryFor table id with | some b => b args | none => unsupported ((withoutEnding? id "#data").getD id)) _ _ s
  rw [hb]; exact h
theorem gCallType {T newId initId : String} {Bi : Builtin} {args : List Value} {Q Q₁ : Value → Shared → Prop} (ft : TypeCalled T newId initId)
    (hct : checkTypeCall T ⟨args, []⟩ = pure ()) (entryI : entryFor table initId = some Bi) (hhi : ∀ x, holder (.builtin initId x) = false)
    (hnew : codeAny (model prog w) A.in1 (.call (.builtin newId) ⟨.type T :: args, []⟩) (wants Q₁ E) s)
    (hnext : ∀ obj s₁, Q₁ obj s₁ → s₁.TypeIs obj T ∧ argsOk initId ⟨obj :: args, []⟩ ∧
      wpG (model prog w) A.in1.in1 (Bi ⟨obj :: args, []⟩) (fun fin s' => fin = .done (.ret .none) ∧ Q obj s') E s₁) :
    wpG (model prog w) A (call (.type T) args) Q E s := by
  obtain ⟨c, tl, hmro⟩ := ft.mro
  refine gCall (codeG_of_tree ?_)
  show wpG _ _ (callAny (.type T) _) _ _ _
  refine gPure ⟨Code.quiet_builtin _ (by decide +kernel), Ba.hold_type _, codeG_builtin F.entry_type_call ?_⟩
  rw [Around.under_plain (weight_type_call_type T args []) rfl]
  unfold Builtin.«type.__call__»
  simp only [ft.notType, Bool.false_eq_true, if_false, ft.canCreate]
  refine gBind (lift (wpAny_of_eq hct ?_))
  refine gBind (lift (wpAny_of_eq hmro ?_))
  simp only [List.isEmpty_cons, Bool.false_eq_true, if_false]
  refine gBind (lift (wpAny_of_eq ft.made ?_))
  refine gBind (gPure (gBind (gHolding (gCall (codeLift (codeAny_mono hnew fun r s₁ hr => ?_))))))
  cases r with
  | error e => exact hr
  | ok fl =>
    cases fl with
    | ret obj =>
      obtain ⟨hT, hok, hsi⟩ := hnext _ _ hr
      show wpG _ _ (isInstance obj (.type T) >>= _) _ _ s₁
      refine gBind (lift (wpAny_isInstance hT ft.sub ?_))
      simp only [Bool.not_true, Bool.false_eq_true, if_false]
      refine gBind (gHolding ?_)
      show wpG _ _ (callSpecial? obj "__init__" args []) _ _ s₁
      unfold callSpecial?
      refine gBind (lift (wpAny_specialOf hT ft.init.lookup ?_))
      refine gHolding (gBind (lift (wpAny_of_eq (ft.init.bind obj) ?_)))
      refine gBind (gCallSlot ft.init hT entryI (hhi _) hok (gMono hsi (fun fin s' ⟨e, hq⟩ => ⟨.none, e, gPure ?_⟩) fun _ _ x => x))
      exact gPure hq
    | _ => exact hr.elim

theorem ownRel {M : Model} {a : Addr} {Q : Bool → Shared → Prop} (hT : s.TypeIs (.ref a) "bytearray") (h : Q false s) : wpAny M A (Builtin.Bytes.ownRelease (.ref a)) Q E s := by
  unfold Builtin.Bytes.ownRelease Builtin.Bytes.slotIsOwn
  refine wpAny_bind (wpAny_bind (wpAny_specialOf hT Ba.lk_rel ?_))
  refine bm_if_false (by decide +kernel) ?_
  rw [show ("bytearray.__release_buffer__".dropRight ("__release_buffer__".length + 1)) = "bytearray" by decide +kernel]
  exact wpAny_isInstance hT Ba.sub (wpAny_pure h)

theorem gNotHeld {M : Model} {a : Addr} {Q : Bool → Shared → Prop} (hg : A.guards = some []) (ho : s.heap.get? a = some (baObj b)) (h : Q false s) :
    wpG M A (Builtin.Bytes.exported (.ref a) <||> (do return (← Builtin.Bytes.exportsOf (.ref a)) > 0)) Q E s := by
  show wpG M A (Builtin.Bytes.exported (.ref a) >>= fun x => _) _ E s
  refine gBind (gExported hg ?_)
  show wpG M A (Builtin.Bytes.exportsOf (.ref a) >>= fun n => _) _ E s
  refine gBind ?_
  show wpG M A (load a >>= _) _ E s
  exact gBind (lift (wpAny_load ho (lift (wpAny_pure (lift (wpAny_pure h))))))

theorem gNewBa0 {Q : Value → Shared → Prop} (hg : A.guards = some []) (S : St Fs s₀ L l nw s) (h : ∀ z s', St Fs s₀ L l ((z, .barr []) :: nw) s' → Q (.ref z) s') : wpG (model prog w) A (call (.type "bytearray") []) Q E s := by
  refine gCallType (Q₁ := fun obj s₁ => obj = .ref s.heap.objs.size ∧ s₁ = { s with heap := s.heap.push (baObj []) }) Ba.called Ba.tc0 Ba.entry_init Ba.hold_init (codeBaNew Ba.nc0 ⟨rfl, rfl⟩) fun obj s₁ h₁ => ?_
  obtain ⟨rfl, rfl⟩ := h₁
  have hS : (s.heap.push (baObj [])).get? s.heap.objs.size = some (baObj []) := Heap.get?_push_size _ rfl
  refine ⟨⟨_, hS, rfl⟩, Ba.args_init0 _, ?_⟩
  unfold Builtin.«bytearray.__init__»
  refine gBind (lift (ownRel ⟨_, hS, rfl⟩ ?_))
  simp only [Bool.false_eq_true, if_false]
  refine gBind (lift (wpAny_of_eq Ba.bind0 ?_))
  refine gBind (lift (wpAny_of_eq (a := ()) rfl ?_))
  refine gBind (lift (wpAny_of_eq (a := ()) rfl ?_))
  refine gBind (gNotHeld hg hS ?_)
  simp only [Bool.false_eq_true, if_false]
  refine gBind (lift (write_ba (c := []) hS rfl (by decide) fun h' hs hn => ?_))
  refine lift (wpAny_of_eq (a := .done (.ret .none)) rfl ⟨rfl, h _ _ (S.add (x := .barr []) (Nat.le_refl _) (fun z o e => ?_) hn rfl)⟩)
  exact hs.extBut z o (Nat.ne_of_lt (Heap.lt_size e)) (Heap.get?_push_of_some _ e)
end
end Mine
namespace Mine
open Sem (wp)

def toB (ns : List Int) : List UInt8 := ns.map fun n => n.toNat.toUInt8
def InB (ns : List Int) : Prop := ∀ n ∈ ns, 0 ≤ n ∧ n < 256

theorem tw_all {p : Value → Bool} {vs : List Value} {ns : List Int} (hp : ∀ n t, 0 ≤ n → n < 256 → p (.int n t) = true) (hi : IntsAre vs ns) (hr : InB ns) : vs.takeWhile p = vs := by
  induction hi with
  | nil => rfl
  | cons n t r ih =>
    have hn := hr n (.head _)
    rw [List.takeWhile_cons_of_pos (hp n t hn.1 hn.2), ih fun m hm => hr m (.tail _ hm)]
theorem fm_all {f : Value → Option UInt8} {vs : List Value} {ns : List Int} (hf : ∀ n t, f (.int n t) = some n.toNat.toUInt8) (hi : IntsAre vs ns) : vs.filterMap f = toB ns := by
  induction hi with
  | nil => rfl
  | cons n t r ih => rw [List.filterMap_cons, hf, ih]; rfl

section
variable {prog : Program} {w : World} {A : Around} {E : Value → Shared → Prop} {Fs : List Addr} {s₀ s : Shared} {L : Addr} {l : List (Str × V)} {nw nw' : List (Addr × Sh)} {v : Value} {b : List UInt8}

theorem gNewBaL {Q : Value → Shared → Prop} {x : Addr} {ns : List Int} (hg : A.guards = some []) (S : St Fs s₀ L l nw s) (hm : (x, Sh.ints ns) ∈ nw) (hr : InB ns) (hz : ns.length ≤ 16777216)
    (h : ∀ z s', St Fs s₀ L l ((z, .barr (toB ns)) :: nw) s' → Q (.ref z) s') : wpG (model prog w) A (call (.type "bytearray") [.ref x]) Q E s := by
  obtain ⟨vs, k, hx, hi⟩ := S.ints hm
  refine gCallType (Q₁ := fun obj s₁ => obj = .ref s.heap.objs.size ∧ s₁ = { s with heap := s.heap.push (baObj []) }) Ba.called (Ba.tc1 _) Ba.entry_init Ba.hold_init (codeBaNew (Ba.nc1 _) ⟨rfl, rfl⟩) fun obj s₁ h₁ => ?_
  obtain ⟨rfl, rfl⟩ := h₁
  have hS : (s.heap.push (baObj [])).get? s.heap.objs.size = some (baObj []) := Heap.get?_push_size _ rfl
  refine ⟨⟨_, hS, rfl⟩, Ba.args_init1 _ _, ?_⟩
  unfold Builtin.«bytearray.__init__»
  refine gBind (lift (ownRel ⟨_, hS, rfl⟩ ?_))
  simp only [Bool.false_eq_true, if_false]
  refine gBind (lift (wpAny_of_eq (Ba.bind1 _) ?_))
  refine gBind (lift (wpAny_of_eq (a := ()) rfl ?_))
  refine gBind (lift (wpAny_of_eq (a := ()) rfl ?_))
  refine gBind (gNotHeld hg hS ?_)
  simp only [Bool.false_eq_true, if_false]
  refine gBind (lift (write_ba (c := []) hS rfl (by decide) fun h' hs hn => ?_))
  have hx' : h'.get? x = some { cls := .type "list", data := .seq vs.toArray k } := hs.extBut x _ (Nat.ne_of_lt (Heap.lt_size hx)) (Heap.get?_push_of_some _ hx)
  have hT : ({ s with heap := h' } : Shared).TypeIs (.ref x) "list" := ⟨_, hx', rfl⟩
  refine lift ?_
  refine wpAny_bind ?_
  show wpAny _ _ (load x >>= _) _ _ _
  refine wpAny_bind (wpAny_load hx' (wpAny_pure ?_))
  refine bm_if_false rfl ?_
  refine wpAny_bind (wpAny_of_eq (a := ()) rfl ?_)
  refine wpAny_bind (wpAny_specialOf hT F.bm_no_index ?_)
  refine bm_if_false rfl ?_
  refine wpAny_bind ?_
  unfold Builtin.Bytes.buffer?
  refine wpAny_bind (wpAny_specialOf hT F.bm_no_buffer ?_)
  refine wpAny_bind (wpAny_specialOf hT F.bm_no_buffer ?_)
  refine wpAny_pure ?_
  refine wpAny_bind (wpAny_typeOf hT ?_)
  refine bm_if_true rfl ?_
  refine wpAny_bind (wpAny_seqItems hx' rfl ?_)
  have e1 : vs.toArray[vs.length]? = none := by simp
  dsimp only
  rw [tw_all (p := _) ?hp hi hr, fm_all (f := _) ?hf hi, e1]
  case hp => intro n t h0 h1; simp; omega
  case hf => intro n t; rfl
  refine wpAny_bind (wpAny_rule (wpAny_bind (write_ba (c := toB ns) hn rfl (by simpa [toB] using hz) fun h'' hs' hn' => ?_)))
  refine wpAny_pure ⟨rfl, h _ _ (S.add (x := .barr (toB ns)) (Nat.le_refl _) (fun z o e => ?_) hn' rfl)⟩
  have hne := Nat.ne_of_lt (Heap.lt_size e)
  exact hs'.extBut z o hne (hs.extBut z o hne (Heap.get?_push_of_some _ e))

/-- bytes(x), x a bytearray -/
theorem aBytesBa {Q : Value → Shared → Prop} {x : Addr} (S : St Fs s₀ L l nw s) (hm : (x, Sh.barr b) ∈ nw) (hz : b.length ≤ 16777216) (h : ∀ t s', St Fs s₀ L l nw s' → Q (.bytes b.toArray t) s') :
    wpAny (model prog w) A (call (.type "bytes") [.ref x]) Q E s := by
  have ho : s.heap.get? x = some (baObj b) := S.barr hm
  have hT : s.TypeIs (.ref x) "bytearray" := ⟨_, ho, rfl⟩
  refine callType_codes (Q₁ := fun obj s₁ => s₁.TypeIs obj "bytes" ∧ Q obj s₁) F.bm_called (F.bm_typeCall _) F.entry_object_init ?_ fun obj s₁ h₁ => ⟨h₁.1, F.args_object_init_2 obj _, object_init_meets F.bm_called.init.lookup F.bm_called.made (by decide) prog w A.in1 _ s₁ ⟨h₁.1, rfl, h₁.2⟩⟩
  refine codeAny_of_tree ?_
  show wpAny _ _ (do checkBuiltinCall "bytes.__new__" ⟨[.type "bytes", .ref x], []⟩; again (.builtin "bytes.__new__" ⟨[.type "bytes", .ref x], []⟩)) _ _ s
  refine wpAny_bind (wpAny_of_eq (F.bm_newCall _) (wpAny_pure ⟨plainId_quiet F.bm_plain _, codeAny_builtin F.bm_entry ?_⟩))
  rw [Around.under_plainId F.bm_plain _]
  unfold Builtin.«bytes.__new__»
  refine wpAny_bind (wpAny_of_eq (a := true) rfl ?_)
  refine bm_if_false rfl ?_
  refine wpAny_bind (wpAny_of_eq F.bm_sub ?_)
  refine bm_if_false rfl ?_
  refine wpAny_bind (wpAny_of_eq (F.bm_bind _) ?_)
  refine wpAny_bind (wpAny_of_eq (a := ()) rfl ?_)
  refine wpAny_bind (wpAny_of_eq (a := ()) rfl ?_)
  refine bm_if_false rfl ?_
  refine wpAny_bind (wpAny_specialOf hT Ba.no_bytes ?_)
  refine wpAny_bind (wpAny_bind ?_)
  show wpAny _ _ (load x >>= _) _ _ _
  refine wpAny_bind (wpAny_load ho (wpAny_pure (wpAny_pure ?_)))
  refine bm_if_false rfl ?_
  refine wpAny_bind (wpAny_specialOf hT Ba.noIndex ?_)
  refine bm_if_true rfl ?_
  have fin : wpAny (model prog w) A.in1.in1 (do
      let y ← mkBytes b.toArray
      if (Value.type "bytes" == Value.type "bytes") = true then ret y else unsupported "")
      (fun fin s' => match fin with | .done f => wants (fun obj s₁ => s₁.TypeIs obj "bytes" ∧ Q obj s₁) E (.ok f) s' | .again c' => c'.quiet = true ∧ codeAny (model prog w) A.in1 c' (wants (fun obj s₁ => s₁.TypeIs obj "bytes" ∧ Q obj s₁) E) s') (fun e s' => wants (fun obj s₁ => s₁.TypeIs obj "bytes" ∧ Q obj s₁) E (.error e) s') s := by
    refine wpAny_bind (wpAny_mkBytes ?_ (by rw [List.size_toArray, sizeLine_eq]; exact hz))
    exact bm_if_true (by decide) (wpAny_pure ⟨PySem.W.typeIs_bytes _ _ _, h _ _ S.toks⟩)
  first
    | (refine wpAny_bind (bufA ho ?_)
       refine wpAny_bind (wpAny_rule ?_)
       refine wpAny_bind (wpAny_mkBytes ?_ (by rw [List.size_toArray, sizeLine_eq]; exact hz))
       refine bm_if_true (by decide) ?_
       exact wpAny_pure ⟨PySem.W.typeIs_bytes _ _ _, h _ _ S.toks⟩)
    | (refine wpAny_bind ?_
       refine wpAny_bind (bufA ho ?_)
       refine wpAny_bind (wpAny_rule ?_)
       refine wpAny_bind (wpAny_mkBytes ?_ (by rw [List.size_toArray, sizeLine_eq]; exact hz))
       refine bm_if_true (by decide) ?_
       exact wpAny_pure ⟨PySem.W.typeIs_bytes _ _ _, h _ _ S.toks⟩)

/-- bytes(x), x a list of ints -/
theorem aBytesL {Q : Value → Shared → Prop} {x : Addr} {ns : List Int} (hh : A.handled = none) (S : St Fs s₀ L l nw s) (hm : (x, Sh.ints ns) ∈ nw) (hr : InB ns) (hz : ns.length ≤ 16777216) (h : ∀ t s', St Fs s₀ L l nw s' → Q (.bytes (toB ns).toArray t) s') :
    wpAny (model prog w) A (call (.type "bytes") [.ref x]) Q E s := by
  obtain ⟨vs, hl, hi⟩ := S.isList hm
  exact call_bytes_ints hl hi hr (by rw [hi.length, sizeLine_eq]; exact hz) hh fun h' t k hk => h _ _ (S.grow hk)
end
end Mine
namespace Mine
open Sem (wp)

namespace Ba
theorem slot_ga : Slot "bytearray" "__getattribute__" "bytearray.__getattribute__" :=
  .of (owner := "bytearray") (n := "__getattribute__") (by rw [typeLookup_type, builtinLookup_eq_fast]; kernel_rfl) (by decide +kernel) (by decide +kernel) (by decide +kernel)
    (by first | exact .inl (by decide +kernel) | exact .inr (by decide +kernel)) (by rw [isSubtype_type]; kernel_rfl)
theorem args_ga (a b : Value) : argsOk "bytearray.__getattribute__" ⟨[a, b], []⟩ := by unfold argsOk; kernel_rfl
theorem entry_ga : entryFor table "bytearray.__getattribute__" = some Builtin.«object.__getattribute__» :=
  entryFor_alias (id' := "object.__getattribute__") (by kernel_rfl) (by first | rfl | decide +kernel) (by decide +kernel) (by kernel_rfl)
theorem lk_class : typeLookup (.type "bytearray") "__class__" = pure (some (.builtin "object.__class__")) := by rw [typeLookup_type, builtinLookup_eq_fast]; kernel_rfl
theorem sub_owner : isSubtype (.type "bytearray") (.type (".".intercalate ("object.__class__".cutAt '.').dropLast)) = pure true := by
  rw [F.owner_object_class, isSubtype_type]; kernel_rfl
end Ba
section
variable {prog : Program} {w : World} {A : Around} {E : Value → Shared → Prop} {h : Heap} {g : Array GenState} {d : Drawn} {t : Nat} {os : OsState} {a : Addr} {o : Obj}
theorem cls_get {R : Result → Shared → Prop} (hx : h.get? a = some o) (hc : o.cls = .type "bytearray") (hq : R (.ok (.ret (.type "bytearray"))) ⟨h, g, d, t, os⟩) :
    codeAny (model prog w) A (.call (.builtin "getset_descriptor.__get__") ⟨[.builtin "object.__class__", .ref a, .type "bytearray"], []⟩) R ⟨h, g, d, t, os⟩ := by
  have hT : (⟨h, g, d, t, os⟩ : Shared).TypeIs (.ref a) "bytearray" := ⟨_, hx, hc⟩
  have hT5 : (⟨h, g, d, t, os⟩ : Shared).TypeIs (.builtin "object.__class__") "getset_descriptor" := F.typeOf_object_class
  have f8 := Ba.sub_owner
  refine codeAny_call_builtin F.slot_gs_get.plain F.entry_gs_get (F.slot_gs_get.check _ _ _ _ _ _ _ _ hT5 (F.args_gs_get _ _ _) ?_)
  repeat (any_goals (first | assumption | wp_step))
  refine ⟨Code.quiet_builtin _ (by decide +kernel), codeAny_builtin F.entry_object_class ?_⟩
  repeat (any_goals (first | assumption | wp_step))
theorem cls_entry {tk : Tok} {Q : Fin → Shared → Prop} (hx : h.get? a = some o) (hc : o.cls = .type "bytearray") (hq : Q (.done (.ret (.type "bytearray"))) ⟨h, g, d, t, os⟩) :
    wpAny (model prog w) A (Builtin.«object.__getattribute__» ⟨[.ref a, .str "__class__" tk], []⟩) Q E ⟨h, g, d, t, os⟩ := by
  have hT : (⟨h, g, d, t, os⟩ : Shared).TypeIs (.ref a) "bytearray" := ⟨_, hx, hc⟩
  have hT5 : (⟨h, g, d, t, os⟩ : Shared).TypeIs (.builtin "object.__class__") "getset_descriptor" := F.typeOf_object_class
  have f4 := Ba.lk_class
  have f5 := F.typeOf_object_class
  have f6 := F.slot_gs_get.lookup
  have f7 := F.slot_gs_set.lookup
  repeat (any_goals (first | assumption | wp_step))
  refine cls_get hx hc ?_
  repeat (any_goals (first | assumption | wp_step))
theorem cls_by {tk : Tok} {Q : Value → Shared → Prop} (hx : h.get? a = some o) (hc : o.cls = .type "bytearray") (hq : Q (.type "bytearray") ⟨h, g, d, t, os⟩) : wpAny (model prog w) A (getAttrBy (.ref a) (.str "__class__" tk) false) Q E ⟨h, g, d, t, os⟩ := by
  have hT : (⟨h, g, d, t, os⟩ : Shared).TypeIs (.ref a) "bytearray" := ⟨_, hx, hc⟩
  have f2 := Ba.slot_ga.lookup
  have f3 := Ba.slot_ga.bind (.ref a)
  repeat (any_goals (first | assumption | wp_step))
  refine codeAny_call_builtin Ba.slot_ga.plain Ba.entry_ga (Ba.slot_ga.check _ _ _ _ _ _ _ _ hT (Ba.args_ga _ _) (cls_entry hx hc ?_))
  repeat (any_goals (first | assumption | wp_step))
theorem cls_attr {Q : Option Value → Shared → Prop} (hx : h.get? a = some o) (hc : o.cls = .type "bytearray") (hq : Q (some (.type "bytearray")) ⟨h, g, d, t + 1, os⟩) : wpAny (model prog w) A (getAttr? (.ref a) "__class__") Q E ⟨h, g, d, t, os⟩ := by
  unfold getAttr? getAttrBy?
  repeat (any_goals (first | assumption | with_reducible apply cls_by hx hc | wp_step))
theorem isi_nested {T : String} {dep : Int} {tk : Tok} {Q : Fin → Shared → Prop} (hx : h.get? a = some o) (hc : o.cls = .type "bytearray") (hne : (Value.type "bytearray" == Value.type T) = false) (hty : typeOf (.type T) = pure (.type "type"))
    (hsub : isSubtype (.type "bytearray") (.type T) = pure false) (hq : Q (.done (.ret (.bool false))) ⟨h, g, d, t + 1, os⟩) :
    wpAny (model prog w) A (Builtin.«isinstance.nested» ⟨[.ref a, .type T, .int dep tk], []⟩) Q E ⟨h, g, d, t, os⟩ := by
  have hT : (⟨h, g, d, t, os⟩ : Shared).TypeIs (.ref a) "bytearray" := ⟨_, hx, hc⟩
  repeat (any_goals (first | assumption | with_reducible apply cls_attr hx hc | wp_step))
theorem isi_ba {T : String} (hne : (Value.type "bytearray" == Value.type T) = false) (hty : typeOf (.type T) = pure (.type "type")) (hsub : isSubtype (.type "bytearray") (.type T) = pure false) :
    Meets (Builtin.«isinstance» ⟨[.ref a, .type T], []⟩) (fun _ R s => (∃ o, s.heap.get? a = some o ∧ o.cls = .type "bytearray") ∧ R (.ok (.ret (.bool false))) { s with toks := s.toks + 1 }) :=
  fun _ _ _ _ s hs => by
    obtain ⟨h, g, d, t, os⟩ := s
    obtain ⟨⟨o, hx, hc⟩, hq⟩ := hs
    exact isinstance_outer (isi_nested hx hc hne hty hsub hq)
theorem isi_bytes {n : Array UInt8} {u : Tok} {T : String} (hne : (Value.type "bytes" == Value.type T) = false) (hty : typeOf (.type T) = pure (.type "type")) (hsub : isSubtype (.type "bytes") (.type T) = pure false) :
    Meets (Builtin.«isinstance» ⟨[.bytes n u, .type T], []⟩) (fun _ R s => R (.ok (.ret (.bool false))) { s with toks := s.toks + 1 }) :=
  fun _ _ _ _ s hs => by
    obtain ⟨h, g, d, t, os⟩ := s
    exact isinstance_outer (isinstance_nested_false_bytes hne hty hsub hs)
end

section
variable {prog : Program} {w : World} {A : Around} {E : Value → Shared → Prop} {Fs : List Addr} {s₀ s : Shared} {L : Addr} {l : List (Str × V)} {nw nw' : List (Addr × Sh)} {v : Value} {b : List UInt8}
theorem isStrPay {Q : Value → Shared → Prop} (S : St Fs s₀ L l nw s) (P : Pay s.heap v b) (h : ∀ s', St Fs s₀ L l nw s' → Q (.bool false) s') : wpAny (model prog w) A (call (.builtin "isinstance") [v, .type "str"]) Q E s := by
  cases P with
  | bytes b t => exact call_isinstance (isi_bytes (by decide +kernel) F.isi_meta_str F.sub_bytes_str) (h _ S.toks)
  | @barr a b ho => exact call_isinstance (isi_ba (by decide +kernel) F.isi_meta_str F.sub_bytearray_str) ⟨⟨_, ho, rfl⟩, h _ S.toks⟩
theorem isBytes {Q : Value → Shared → Prop} {c : Array UInt8} {t : Tok} (h : Q (.bool true) s) : wpAny (model prog w) A (call (.builtin "isinstance") [.bytes c t, .type "bytes"]) Q E s :=
  call_isinstance (isinstance_true (Tx := "bytes") F.isi_meta_bytes F.sub_bytes_bytes) ⟨rfl, h⟩
end
end Mine
namespace Mine
open Sem (wp)

theorem last_idx {b : List UInt8} {c : UInt8} (h : b.getLast? = some c) : (seqIndex? (-1) b.toArray.size).bind (b.toArray[·]?) = some c := by
  have hb : b ≠ [] := fun e => by subst e; cases h
  have hl : 0 < b.length := List.length_pos_iff.mpr hb
  rw [show seqIndex? (-1) b.toArray.size = some (b.length - 1) from (seqIndex_neg (by decide) (by simp; omega)).trans (by congr 1; simp; omega)]
  simp only [Option.bind_some, List.getElem?_toArray]
  rw [← List.getLast?_eq_getElem?]; exact h
theorem no_last : (seqIndex? (-1) ([] : List UInt8).toArray.size).bind (([] : List UInt8).toArray[·]?) = none := by decide

section
variable {M : Model} {A : Around} {E : Value → Shared → Prop} {s : Shared}
theorem subscr {k : Int} {u : Tok} {Q : Option Int → Shared → Prop} (hf : Builtin.Bytes.fitsIndex k = true) (h : Q (some k) s) : wpAny M A (Builtin.Bytes.subscript? (.int k u)) Q E s := by
  unfold Builtin.Bytes.subscript?
  refine wpAny_bind (wpAny_specialOf (typeIs_int s k u) F.slot_int_index.lookup ?_)
  refine bm_if_false rfl ?_
  refine wpAny_bind (wpAny_of_eq (a := k) rfl ?_)
  refine bm_if_false (by rw [hf]; rfl) (wpAny_pure h)
theorem payA {a : Addr} {b : List UInt8} {Q : Array UInt8 → Shared → Prop} (ho : s.heap.get? a = some (baObj b)) (h : Q b.toArray s) : wpAny M A (Builtin.Bytes.payload (.ref a)) Q E s := by
  unfold Builtin.Bytes.payload
  refine wpAny_bind ?_
  show wpAny _ _ (load a >>= _) _ _ _
  exact wpAny_bind (wpAny_load ho (wpAny_pure (wpAny_pure h)))
end

section
variable {prog : Program} {w : World} {A : Around} {E : Value → Shared → Prop} {Fs : List Addr} {s₀ s : Shared} {L : Addr} {l : List (Str × V)} {nw nw' : List (Addr × Sh)} {v : Value} {b : List UInt8}
theorem lastPay {value slice : PySem.Expr} {c : UInt8} {u : Tok} {Q : Value → Shared → Prop} (S : St Fs s₀ L l nw s) (P : Pay s.heap v b) (hc : b.getLast? = some c) (h : ∀ t s', St Fs s₀ L l nw s' → Q (.int (c.toNat : Int) t) s')
    (hs : subscripted slice false v (.int (-1) u) = operate [v, .int (-1) u] (getItem v (.int (-1) u)) := by with_unfolding_all rfl) :
    wpAny (model prog w) A (subscriptTail value slice v (.int (-1) u)) Q E s := by
  cases P with
  | bytes b t =>
    refine tail_any (T := "bytes") rfl FB.slot_bytes_getitem.lookup ?_ hs
    exact getItem_gives (typeIs_bytes s _ t) (by decide) FB.slot_bytes_getitem FB.entry_bytes_getitem (FB.args_bytes_getitem_2 _ _) (gives_bytes_getitem _ (-1) t u c (by decide) (last_idx hc)) (h _ _ S.toks)
  | @barr a b ho =>
    have hT : s.TypeIs (.ref a) "bytearray" := ⟨_, ho, rfl⟩
    refine tail_any hT Ba.slot_getitem.lookup ?_ hs
    refine PyProof.Rows.getItem_slot hT (by decide) Ba.slot_getitem (wpAny_call_entry Ba.slot_getitem hT Ba.entry_getitem ?_ (Ba.args_getitem _ _))
    unfold Builtin.«bytearray.__getitem__»
    refine wpAny_bind (wpAny_of_eq (a := (.ref a, [.int (-1) u])) rfl ?_)
    refine wpAny_bind (subscr (by decide) ?_)
    refine wpAny_bind (payA ho ?_)
    rw [last_idx hc]
    exact wpAny_bind (wpAny_mkInt (wpAny_pure ⟨_, rfl, h _ _ S.toks⟩))
theorem noLastPay {value slice : PySem.Expr} {u : Tok} {Q : Value → Shared → Prop} (hA : A.handled = none) (P : Pay s.heap v []) (hE : ∀ h' tk e, Heap.NewExc s.heap h' e "IndexError" → E (.ref e) { s with heap := h', toks := tk })
    (hs : subscripted slice false v (.int (-1) u) = operate [v, .int (-1) u] (getItem v (.int (-1) u)) := by with_unfolding_all rfl) :
    wpAny (model prog w) A (subscriptTail value slice v (.int (-1) u)) Q E s := by
  cases P with
  | bytes b t =>
    refine tail_any (T := "bytes") rfl FB.slot_bytes_getitem.lookup ?_ hs
    have hT : s.TypeIs (.bytes ([] : List UInt8).toArray t) "bytes" := rfl
    refine PyProof.Rows.getItem_slot hT (by decide) FB.slot_bytes_getitem (wpAny_call_entry FB.slot_bytes_getitem hT FB.entry_bytes_getitem ?_ (FB.args_bytes_getitem_2 _ _))
    unfold Builtin.«bytes.__getitem__»
    refine wpAny_bind (wpAny_of_eq (a := (.bytes ([] : List UInt8).toArray t, [.int (-1) u])) rfl ?_)
    refine wpAny_bind (wpAny_of_eq (a := ([] : List UInt8).toArray) rfl ?_)
    refine wpAny_bind (subscr (by decide) ?_)
    dsimp only
    rw [no_last]
    first
      | exact wpAny_bind (wpAny_rule (by exact_raiseError plainExc_IndexError hA hE))
      | exact wpAny_bind (wpAny_rule (wpAny_bind (by exact_raiseError plainExc_IndexError hA hE)))
      | exact wpAny_bind (wpAny_bind (wpAny_rule (by exact_raiseError plainExc_IndexError hA hE)))
      | exact wpAny_rule (by exact_raiseError plainExc_IndexError hA hE)
  | @barr a b ho =>
    have hT : s.TypeIs (.ref a) "bytearray" := ⟨_, ho, rfl⟩
    refine tail_any hT Ba.slot_getitem.lookup ?_ hs
    refine PyProof.Rows.getItem_slot hT (by decide) Ba.slot_getitem (wpAny_call_entry Ba.slot_getitem hT Ba.entry_getitem ?_ (Ba.args_getitem _ _))
    unfold Builtin.«bytearray.__getitem__»
    refine wpAny_bind (wpAny_of_eq (a := (.ref a, [.int (-1) u])) rfl ?_)
    refine wpAny_bind (subscr (by decide) ?_)
    refine wpAny_bind (payA ho ?_)
    dsimp only
    rw [no_last]
    first
      | exact wpAny_bind (wpAny_rule (by exact_raiseError plainExc_IndexError hA hE))
      | exact wpAny_bind (wpAny_rule (wpAny_bind (by exact_raiseError plainExc_IndexError hA hE)))
      | exact wpAny_bind (wpAny_bind (wpAny_rule (by exact_raiseError plainExc_IndexError hA hE)))
      | exact wpAny_rule (by exact_raiseError plainExc_IndexError hA hE)
end
end Mine
namespace Mine
open Sem (wp)

/-! an exception on its way -/
/-- e is an exception that h₀ does not know; fl: not yet noted, or noted with this mark -/
def Exc (h₀ h : Heap) (e : Addr) (cls : Value) (fl : Option Value) : Prop :=
  h₀.get? e = none ∧ ∃ oe vs, h.get? e = some oe ∧ oe.cls = cls ∧ oe.data = .fields vs ∧ match fl with
    | none => vs[1]? = some .none
    | some f => ∃ T oT ts, vs[1]? = some (.ref T) ∧ T ≠ e ∧ h₀.get? T = none ∧ h.get? T = some oT ∧ oT.data = .fields ts ∧ ts[3]? = some f
def framesOf (l : List Env) : List Addr := l.filterMap (·.frame)
abbrev Frs (h : Heap) (l : List Env) : Prop := h.FunFrames {} l
theorem Frs.kh {Gs : List Addr} {h h' : Heap} {l : List Env} (x : Frs h l) (k : Kh Gs h h') : Frs h' l :=
  x.of_keeps fun b o e _ => let ⟨_, e'⟩ := k.2 b o e; ⟨_, e', rfl⟩
theorem Frs.off {h : Heap} {l : List Env} {e : Addr} {oe : Obj} {vs : Array Value} (x : Frs h l) (he : h.get? e = some oe) (hd : oe.data = .fields vs) : e ∉ framesOf l := fun hm => by
  obtain ⟨_, o, ho, hnf⟩ := Heap.FunFrames.mem x hm
  rw [he] at ho; cases ho; exact hnf vs hd

section
variable {M : Model} {A : Around} {E : Value → Shared → Prop} {s : Shared} {h₀ : Heap} {e L : Addr} {cls : Value} {env : Env} {outer : List Env}
theorem newMark {vs : Array Value} {oe : Obj} {head : Value} {hadNext : Bool} {Q : Unit → Shared → Prop} (hfr : A.frames = some (env :: outer)) (hl : Frs s.heap (env :: outer)) (hf : env.frame = some L)
    (k : Kh (framesOf (env :: outer)) h₀ s.heap) (hen : h₀.get? e = none) (he : s.heap.get? e = some oe) (hc : oe.cls = cls) (hd : oe.data = .fields vs) (hsz : 1 < vs.size)
    (h : ∀ h', Kh (framesOf (env :: outer)) h₀ h' → Exc h₀ h' e cls (some (rawInt L)) → Q () { s with heap := h' }) :
    wpAny M A (do let a ← frameOf env; let pl ← entryPlaceOf L hadNext; let b ← EntryCells.newEntry head a .none (rawInt L) .none pl; setField (.ref e) 1 b) Q E s := by
  have hene := hl.off he hd
  refine wpAny_bind (wpAny_frameOf_fun hfr hl hf fun h₁ hs₁ => ?_)
  refine wpAny_bind (wpAny_entryPlaceOf fun pl hpl => ?_)
  unfold EntryCells.newEntry newFields
  refine wpAny_bind (wpAny_newObj_type ?_ (hpl.sizeOk5 _ _ _ _ _))
  have he₁ : h₁.get? e = some oe := (hs₁.2.1 e hene).trans he
  have he₂ := Heap.get?_push_of_some (h := h₁) { cls := .type "traceback", dict := none, data := .fields ([head, .ref L, .none, rawInt L, .none] ++ (if pl.isEmpty then List.replicate 6 Value.none else pl)).toArray } he₁
  refine wpAny_setField he₂ hd hsz (h _ ?_ ?_)
  · have on : ∀ b o, b ≠ e → h₁.get? b = some o → ((h₁.push { cls := .type "traceback", dict := none, data := .fields ([head, .ref L, .none, rawInt L, .none] ++ (if pl.isEmpty then List.replicate 6 Value.none else pl)).toArray }).update e (Obj.mapFields (·.setIfInBounds 1 (Value.ref h₁.objs.size)))).get? b = some o :=
      fun b o hb q => (Heap.get?_update_other _ _ (Ne.symm hb)).trans (Heap.get?_push_of_some _ q)
    have ne : ∀ b o, h₀.get? b = some o → b ≠ e := fun b o q w => by rw [w, hen] at q; cases q
    refine ⟨fun b o q n => on b o (ne b o q) ((hs₁.2.1 b n).trans (k.1 b o q n)), fun b o q => ?_⟩
    obtain ⟨sl, q₁⟩ := k.2 b o q
    obtain ⟨sl₂, q₂⟩ := hs₁.2.2 b _ q₁
    exact ⟨sl₂, on b _ (ne b o q) q₂⟩
  · have hTe : h₁.objs.size ≠ e := Nat.ne_of_gt (Heap.lt_size he₁)
    refine ⟨hen, _, _, Heap.get?_update_self _ he₂ (Obj.isFreed_of_fields (Obj.data_mapFields hd _)), (Obj.cls_mapFields ..).trans hc, Obj.data_mapFields hd _, h₁.objs.size, _, _, by simp [hsz], hTe, ?_,
      (Heap.get?_update_other _ _ (Ne.symm hTe)).trans (Heap.get?_push_size h₁ rfl), rfl, by simp⟩
    rw [hs₁.1]
    cases q : h₀.get? s.heap.objs.size with
    | none => rfl
    | some o => obtain ⟨_, w⟩ := k.2 _ o q; exact absurd (Heap.lt_size w) (Nat.lt_irrefl _)
/-- the first note, or one of another frame -/
theorem noteNew {fl : Option Value} {Q : Unit → Shared → Prop} (hfr : A.frames = some (env :: outer)) (hl : Frs s.heap (env :: outer)) (hf : env.frame = some L)
    (k : Kh (framesOf (env :: outer)) h₀ s.heap) (x : Exc h₀ s.heap e cls fl) (hne : ∀ f, fl = some f → (f == rawInt L) = false)
    (h : ∀ h', Kh (framesOf (env :: outer)) h₀ h' → Exc h₀ h' e cls (some (rawInt L)) → Q () { s with heap := h' }) : wpAny M A (noteFrame (.ref e) env) Q E s := by
  obtain ⟨hen, oe, vs, he, hc, hd, hx⟩ := x
  unfold noteFrame
  simp only [hf]
  cases fl with
  | none =>
    refine wpAny_bind (wpAny_field he hd hx ?_)
    rw [if_neg (by decide)]
    exact newMark hfr hl hf k hen he hc hd (Array.getElem?_eq_some_iff.mp hx).1 h
  | some f =>
    obtain ⟨T, oT, ts, h1, hTe, hT0, hT, hdT, h3⟩ := hx
    refine wpAny_bind (wpAny_field he hd h1 ?_)
    rw [if_pos (show (Value.ref T != Value.none) = true from by simp)]
    refine wpAny_bind (wpAny_field hT hdT h3 ?_)
    rw [if_neg (by rw [hne f rfl]; exact Bool.false_ne_true)]
    refine wpAny_bind (wpAny_setField hT hdT (Array.getElem?_eq_some_iff.mp h3).1 ?_)
    have other : ∀ b, b ≠ T → (s.heap.update T (Obj.mapFields (·.setIfInBounds 3 Value.none))).get? b = s.heap.get? b := fun b hb => Heap.get?_update_other _ _ (Ne.symm hb)
    have ne : ∀ b o, h₀.get? b = some o → b ≠ T := fun b o q w => by rw [w, hT0] at q; cases q
    refine newMark (s := { s with heap := s.heap.update T (Obj.mapFields (·.setIfInBounds 3 Value.none)) }) hfr ?_ hf ⟨fun b o q n => (other b (ne b o q)).trans (k.1 b o q n), fun b o q => ?_⟩ hen ((other e (Ne.symm hTe)).trans he) hc hd (Array.getElem?_eq_some_iff.mp h1).1 h
    · exact hl.of_keeps fun b o hb hnf => ⟨o, (other b fun q => by rw [q, hT] at hb; cases hb; exact hnf ts hdT).trans hb, rfl⟩
    · obtain ⟨sl, w⟩ := k.2 b o q
      exact ⟨sl, (other b (ne b o q)).trans w⟩
theorem noteSame {Q : Unit → Shared → Prop} (hf : env.frame = some L) (x : Exc h₀ s.heap e cls (some (rawInt L))) (h : Q () s) : wpAny M A (noteFrame (.ref e) env) Q E s := by
  obtain ⟨hen, oe, vs, he, hc, hd, T, oT, ts, h1, hTe, hT0, hT, hdT, h3⟩ := x
  exact wpAny_noteFrame_inFlight hf he hd h1 hT hdT h3 h
theorem setFl {Gs : List Addr} {f : Value} {fr : Option Addr} {Q : Unit → Shared → Prop} (k : Kh Gs h₀ s.heap) (x : Exc h₀ s.heap e cls (some f))
    (h : ∀ h', Kh Gs h₀ h' → (∀ b o, s.heap.get? b = some o → (∀ vs, o.data ≠ .fields vs) → h'.get? b = some o) → Exc h₀ h' e cls (some (fr.elim .none fun f => rawInt f)) → Q () { s with heap := h' }) : wpAny M A (setFlight (.ref e) fr) Q E s := by
  obtain ⟨hen, oe, vs, he, hc, hd, T, oT, ts, h1, hTe, hT0, hT, hdT, h3⟩ := x
  unfold setFlight
  refine wpAny_bind (wpAny_field he hd h1 ?_)
  rw [if_pos (show (Value.ref T != Value.none) = true from by simp)]
  have hz := (Array.getElem?_eq_some_iff.mp h3).1
  refine wpAny_setField hT hdT hz (h _ ?_ ?_ ?_)
  · have other : ∀ b, b ≠ T → (s.heap.update T (Obj.mapFields (·.setIfInBounds 3 (fr.elim .none fun f => rawInt f)))).get? b = s.heap.get? b := fun b hb => Heap.get?_update_other _ _ (Ne.symm hb)
    have ne : ∀ b o, h₀.get? b = some o → b ≠ T := fun b o q w => by rw [w, hT0] at q; cases q
    refine ⟨fun b o q n => (other b (ne b o q)).trans (k.1 b o q n), fun b o q => ?_⟩
    obtain ⟨sl, w⟩ := k.2 b o q
    exact ⟨sl, (other b (ne b o q)).trans w⟩
  · intro b o q hnf
    exact (Heap.get?_update_other _ _ fun w => by rw [← w, hT] at q; cases q; exact hnf ts hdT).trans q
  · exact ⟨hen, oe, vs, (Heap.get?_update_other _ _ hTe).trans he, hc, hd, T, _, _, h1, hTe, hT0, Heap.get?_update_self _ hT (Obj.isFreed_of_fields (Obj.data_mapFields hdT _)), Obj.data_mapFields hdT _, by simp [hz]⟩
theorem Exc.type {f : Option Value} {X : String} (x : Exc h₀ s.heap e (.type X) f) : s.TypeIs (.ref e) X := by
  obtain ⟨_, oe, _, he, hc, _⟩ := x
  exact ⟨oe, he, hc⟩
end

theorem Exc.ofNew {h h' : Heap} {e : Addr} {X : String} (x : Heap.NewExc h h' e X) : Exc h h' e (.type X) none := by
  obtain ⟨_, hn, ob, t, h1, h2, h3⟩ := x
  exact ⟨hn, ob, _, h1, h2, h3, rfl⟩

theorem isi_index : isSubtype (.type "IndexError") (.type "BaseException") = pure true := by rw [isSubtype_type]; kernel_rfl
theorem isi_index_tup : isSubtype (.type ((Manifest.find? "IndexError").elim "type" fun x => x.metatype)) (.type "tuple") = pure false := by
  rw [show ((Manifest.find? "IndexError").elim "type" fun x => x.metatype) = "type" by decide +kernel, isSubtype_type]; kernel_rfl
theorem isi_index_self : isSubtype (.type "IndexError") (.type "IndexError") = pure true := by rw [isSubtype_type]; kernel_rfl

section
variable {prog : Program} {w : World} {A : Around} {E : Value → Shared → Prop} {Fs : List Addr} {s₀ s : Shared} {L f : Addr} {l : List (Str × V)} {nw : List (Addr × Sh)} {K : Frag} {name : Str} {scope : Scope} {cd : Value} {outer : List Env}
theorem St.frs (S : St Fs s₀ L l nw s) (hF : Frs s₀.heap outer) (hk : scope.kind = .function) : Frs s.heap (envOf name scope L f cd :: outer) := by
  obtain ⟨m, ⟨o, es, ep, ho, hd, _⟩, _⟩ := S.ns
  exact ⟨by show scope.kind ≠ .module; rw [hk]; nofun, ⟨L, o, rfl, rfl, ho, fun vs => by rw [hd]; nofun⟩, hF.kh S.keep⟩
/-- an IndexError, raised in this frame and caught by it -/
theorem caughtIndex {x : Str} {np pos : Pos} {b₀ : Stmt} {suite : List Stmt} {rest : List ExceptHandler} {Q : Flow → Shared → Prop} {h' : Heap} {tk : Nat} {e : Addr} (hA : A.frames = some outer) (hFs : framesOf outer = Fs) (hF : Frs s₀.heap outer)
    (hlo : ∀ a ∈ Fs, a < s₀.heap.objs.size) (B : Bs K s₀.heap) (S : St Fs s₀ L l nw s) (hx : Heap.NewExc s.heap h' e "IndexError") (e1 : nsIn K mainGlobals x = some none) (e2 : bootBuiltins x = some (.type "IndexError"))
    (k : ∀ s', St Fs s₀ L l nw s' → wpAny (model prog w) ((A.deeper (envOf name scope L f cd)).mark (some (.ref e))) (execs (b₀ :: suite) (envOf name scope L f cd)) Q (notedBy (model prog w) ((A.deeper (envOf name scope L f cd)).mark (some (.ref e))) (envOf name scope L f cd) (cameBackBy (model prog w) (A.deeper (envOf name scope L f cd)) (envOf name scope L f cd) E)) s')
    (hn : x ≠ "__name__" := by decide) (hk : scope.kind = .function := by rfl) (hx' : (envOf name scope L f cd).kindOf x = some .globalImplicit := by rfl) (hd : (x == ("__debug__" : Str)) = false := by decide) :
    wpAny (model prog w) (A.deeper (envOf name scope L f cd)) (noteFrame (.ref e) (envOf name scope L f cd)) (fun _ s₂ => wpAny (model prog w) (A.deeper (envOf name scope L f cd)) (setFlight (.ref e) none) (fun _ s₃ =>
      wpAny (model prog w) (A.deeper (envOf name scope L f cd)) (handleBy (.ref e) (envOf name scope L f cd) (.ExceptHandler (some (.Name x np)) none (b₀ :: suite) pos :: rest)) Q E s₃) E s₂) E { s with heap := h', toks := tk } := by
  have hfr : (A.deeper (envOf name scope L f cd)).frames = some (envOf name scope L f cd :: outer) := by show A.frames.map _ = _; rw [hA]; rfl
  have hGs : framesOf (envOf name scope L f cd :: outer) = L :: Fs := by show L :: framesOf outer = _; rw [hFs]
  have S' : St Fs s₀ L l nw { s with heap := h', toks := tk } := S.grow hx.keeps
  have back : ∀ s' : Shared, Kh (L :: Fs) s.heap s'.heap → s'.gens = s.gens → s'.os = s.os → St Fs s₀ L l nw s' := fun s' kk g o => S.kept ⟨kk, g, o⟩ hlo
  refine noteNew (h₀ := s.heap) (cls := .type "IndexError") hfr (S'.frs hF hk) rfl (Kh.of hx.keeps) (Exc.ofNew hx) (fun _ q => nomatch q) fun h₁ k₁ x₁ => ?_
  refine setFl k₁ x₁ fun h₂ k₂ _ x₂ => ?_
  rw [hGs] at k₂
  have S₂ : St Fs s₀ L l nw { s with heap := h₂, toks := tk } := back _ k₂ rfl rfl
  refine wpAny_handleBy_builtin (X := "IndexError") (T := "IndexError") (b := true) isi_index isi_index_tup isi_index_self (nmU B S₂ e1 e2 ⟨rfl, Exc.type x₂, ?_⟩ hn hk hx' hd)
  rw [if_pos rfl]
  refine setFl k₂ x₂ fun h₃ k₃ _ x₃ => ?_
  exact k _ (back _ k₃ rfl rfl)
end
end Mine
namespace Mine
open Sem (wp)
namespace Ba
theorem slot_in : Slot "bytes" "__contains__" "bytes.__contains__" :=
  .of (owner := "bytes") (n := "__contains__") (by rw [typeLookup_type, builtinLookup_eq_fast]; kernel_rfl) (by decide +kernel) (by decide +kernel) (by decide +kernel)
    (by first | exact .inl (by decide +kernel) | exact .inr (by decide +kernel)) (by rw [isSubtype_type]; kernel_rfl)
theorem entry_in : entryFor table "bytes.__contains__" = some Builtin.«bytes.__contains__» := entryFor_of_tree (by kernel_rfl)
theorem args_in (a b : Value) : argsOk "bytes.__contains__" ⟨[a, b], []⟩ := by unfold argsOk; kernel_rfl
end Ba
section
variable {prog : Program} {w : World} {A : Around} {E : Value → Shared → Prop} {Fs : List Addr} {s₀ s : Shared} {L : Addr} {l : List (Str × V)} {nw nw' : List (Addr × Sh)} {b : List UInt8} {t : Tok}
theorem cutBytes {Q : Value → Shared → Prop} {vl vu : Value} {lo hi : Option Int} (S : St Fs s₀ L l nw s) (pl : IsPart vl lo) (pu : IsPart vu hi) (hz : b.length ≤ 16777216)
    (h : ∀ t' s', St Fs s₀ L l nw s' → Q (.bytes (pk b lo hi).toArray t') s') : Cut prog w A E (.bytes b.toArray t) vl vu Q s := by
  have S' : St Fs s₀ L l nw { s with heap := s.heap.push (slObj vl vu) } := S.pushed
  have hsl : ({ s with heap := s.heap.push (slObj vl vu) } : Shared).heap.get? s.heap.objs.size = some (slObj vl vu) := Heap.get?_push_size _ rfl
  have hTs : ({ s with heap := s.heap.push (slObj vl vu) } : Shared).TypeIs (.ref s.heap.objs.size) "slice" := ⟨_, hsl, rfl⟩
  refine ⟨"bytes", _, FB.slot_bytes_getitem.lookup, rfl, ?_⟩
  have hT : ({ s with heap := s.heap.push (slObj vl vu) } : Shared).TypeIs (.bytes b.toArray t) "bytes" := rfl
  refine PyProof.Rows.getItem_slot hT (by decide) FB.slot_bytes_getitem (wpAny_call_entry FB.slot_bytes_getitem hT FB.entry_bytes_getitem ?_ (FB.args_bytes_getitem_2 _ _))
  unfold Builtin.«bytes.__getitem__»
  refine wpAny_bind (wpAny_of_eq (a := (.bytes b.toArray t, [.ref s.heap.objs.size])) rfl ?_)
  refine wpAny_bind (wpAny_of_eq (a := b.toArray) rfl ?_)
  refine wpAny_bind (noIdx hsl ?_)
  refine wpAny_bind (wpAny_typeOf hTs ?_)
  refine bm_if_false (by decide) ?_
  refine wpAny_bind (slParts hsl pl pu ?_)
  refine wpAny_bind (wpAny_of_eq (sliceIndices_raw lo hi none b.toArray.size (by simp)) ?_)
  have last : wpAny (model prog w) A.in1 (do ret (← mkBytes (Builtin.Bytes.sliced b.toArray (sliceBounds lo hi none b.toArray.size).1 (sliceBounds lo hi none b.toArray.size).2.1 (sliceBounds lo hi none b.toArray.size).2.2)))
      (fun fin s' => ∃ v, fin = .done (.ret v) ∧ Q v s') E { s with heap := s.heap.push (slObj vl vu) } := by
    rw [sliced_pk]
    refine wpAny_bind (wpAny_mkBytes (wpAny_pure ⟨_, rfl, h _ _ S'.toks⟩) ?_)
    rw [List.size_toArray, sizeLine_eq]; exact Nat.le_trans (pk_length b lo hi) hz
  dsimp only
  by_cases hw : ((sliceBounds lo hi none b.toArray.size).1 == 0 && (sliceBounds lo hi none b.toArray.size).2.2 == 1 && (sliceBounds lo hi none b.toArray.size).2.1 == (b.toArray.size : Int) && !b.toArray.isEmpty) = true
  · have e : pk b lo hi = b := by
      simp only [Bool.and_eq_true, beq_iff_eq, List.size_toArray] at hw
      unfold pk
      rw [hw.1.1.1, hw.1.1.2, hw.1.2]
      have := pk_run b 0 b.length
      simpa using this
    refine bm_if_true hw ?_
    refine wpAny_bind (wpAny_typeOf hT ?_)
    refine bm_if_true rfl ?_
    refine wpAny_bind (wpAny_rule ?_)
    have q := h t _ S'
    rw [e] at q
    exact wpAny_pure ⟨_, rfl, q⟩
  · exact bm_if_false (by simpa using hw) last
theorem zeroIn {Q : Value → Shared → Prop} {u : Tok} (h : Q (.bool (b.contains 0)) s) : wpAny (model prog w) A (compareOp .In (.int 0 u) (.bytes b.toArray t)) Q E s := by
  have hT : s.TypeIs (.bytes b.toArray t) "bytes" := rfl
  refine PyProof.Rows.In_slot hT Ba.slot_in (wpAny_call_entry Ba.slot_in hT Ba.entry_in ?_ (Ba.args_in _ _))
  unfold Builtin.«bytes.__contains__»
  refine wpAny_bind (wpAny_of_eq (a := (.bytes b.toArray t, [.int 0 u])) rfl ?_)
  refine wpAny_bind ?_
  unfold Builtin.Bytes.containsIn
  refine wpAny_bind (wpAny_of_eq (a := .ok 0) rfl ?_)
  refine wpAny_bind (bufB ?_)
  refine bm_if_false (by decide) ?_
  refine wpAny_pure (wpAny_pure ⟨_, rfl, wpAny_truthy_bool ?_⟩)
  have e : b.toArray.contains (0 : Int).toNat.toUInt8 = b.contains 0 := by simp
  rw [e]; exact h
theorem idxBytes {value slice : PySem.Expr} {k : Int} {u : Tok} {Q : Value → Shared → Prop} (S : St Fs s₀ L l nw s) (h0 : 0 ≤ k) (h1 : k < b.length) (hf : b.length ≤ 16777216) (h : ∀ t s', St Fs s₀ L l nw s' → Q (.int ((b.getD k.toNat 0).toNat : Nat) t) s')
    (hs : subscripted slice false (.bytes b.toArray t) (.int k u) = operate [.bytes b.toArray t, .int k u] (getItem (.bytes b.toArray t) (.int k u)) := by with_unfolding_all rfl) :
    wpAny (model prog w) A (subscriptTail value slice (.bytes b.toArray t) (.int k u)) Q E s :=
  tail_any (T := "bytes") rfl FB.slot_bytes_getitem.lookup (getItem_bytes (by omega) h0 h1 (h _ _ S.toks)) hs
theorem lenBytes {Q : Value → Shared → Prop} (S : St Fs s₀ L l nw s) (hf : b.length ≤ 16777216) (h : ∀ t s', St Fs s₀ L l nw s' → Q (.int (b.length : Nat) t) s') : wpAny (model prog w) A (call (.builtin "len") [.bytes b.toArray t]) Q E s :=
  len_bytes (by simp; omega) (by simpa using h _ _ S.toks)
end
end Mine
namespace Mine
open Sem (wp)

local macro_rules | `(tactic| walk_at "om") => `(tactic| first | omega | (show @Ne Nat _ _; omega) | (show @LT.lt Nat _ _ _; omega) | (show @LE.le Nat _ _ _; omega))
/-! the places of the noughts: a comprehension over enumerate -/
section
variable {Fs : List Addr} {s₀ s s' : Shared} {L : Addr} {l : List (Str × V)} {nw : List (Addr × Sh)}
theorem St.upd2 {a b : Addr} {x y x' y' : Sh} {oa ob : Obj} (S : St Fs s₀ L l ((a, x) :: (b, y) :: nw) s) (hk : ∀ z o, z ≠ a → z ≠ b → s.heap.get? z = some o → s'.heap.get? z = some o)
    (ha : s'.heap.get? a = some oa) (hx : x'.Is oa) (hb : s'.heap.get? b = some ob) (hy : y'.Is ob) (hg : s'.gens = s.gens := by rfl) (ho : s'.os = s.os := by rfl) : St Fs s₀ L l ((a, x') :: (b, y') :: nw) s' := by
  obtain ⟨⟨m, hm, b1⟩, c, d, e, f, g, i⟩ := S
  obtain ⟨_, _, _, haL, hA⟩ := e _ (.head _)
  obtain ⟨_, _, _, hbL, hB⟩ := e _ (.tail _ (.head _))
  simp only [List.map_cons, List.nodup_cons, List.mem_cons, not_or] at f
  have big : ∀ z, z < s₀.heap.objs.size → z ≠ a ∧ z ≠ b := fun z hz => ⟨Nat.ne_of_lt (Nat.lt_of_lt_of_le hz hA), Nat.ne_of_lt (Nat.lt_of_lt_of_le hz hB)⟩
  refine ⟨⟨m, hm.at fun o q => hk _ o (Ne.symm haL) (Ne.symm hbL) q, b1⟩, c.on fun z o lt q => hk z o (big z lt).1 (big z lt).2 q, d, fun p hp => ?_, by simp only [List.map_cons, List.nodup_cons, List.mem_cons, not_or]; exact f, hg.trans g, ho.trans i⟩
  rcases List.mem_cons.mp hp with rfl | hp
  · exact ⟨oa, ha, hx, haL, hA⟩
  rcases List.mem_cons.mp hp with rfl | hp
  · exact ⟨ob, hb, hy, hbL, hB⟩
  · obtain ⟨o', h1, h2⟩ := e p (.tail _ (.tail _ hp))
    exact ⟨o', hk _ _ (fun q => f.1.2 (q ▸ List.mem_map_of_mem hp)) (fun q => f.2.1 (q ▸ List.mem_map_of_mem hp)) h1, h2⟩
end

section
variable {M : Model} {A : Around} {E : Value → Shared → Prop} {Fs : List Addr} {s₀ s : Shared} {C : Addr} {l : List (Str × V)} {nw : List (Addr × Sh)} {x : Str} {p : Pos} {env : Env}
theorem nmE {i : Int} {Q : Value → Shared → Prop} (S : St Fs s₀ C l nw s) (hv : l.lookup x = some (.int i)) (h : ∀ t, Q (.int i t) s) (hC : env.locals = C := by rfl) (hk : env.scope.kind = .function := by rfl) (hl : env.kindOf x = some .local := by rfl)
    (hd : (x == ("__debug__" : Str)) = false := by decide) : wpAny M A (eval (.Name x p) env) Q E s := by
  subst hC
  obtain ⟨m, hm, b⟩ := S.ns
  obtain ⟨v, h1, t, rfl⟩ := b x _ hv
  exact wpAny_Name (wpAny_loadName_local hk hl hm h1 (h t)) hd
theorem stE {i : Int} {t : Tok} {Q : Unit → Shared → Prop} (S : St Fs s₀ C l nw s) (h : ∀ s', St Fs s₀ C ((x, .int i) :: l) nw s' → Q () s') (hC : env.locals = C := by rfl) (hk : env.scope.kind = .function := by rfl) (hl : env.kindOf x = some .local := by rfl) :
    wpAny M A (storeName env x (.int i t)) Q E s := by
  subst hC
  obtain ⟨⟨m, hm, b⟩, c, d, e, f, g, i'⟩ := S
  refine wpAny_storeName_local hl hm (fun h' hn hs => h _ ⟨⟨_, hn, fun y w hw => ?_⟩, c.on fun z o lt q => ?_, d, fun p hp => ?_, f, g, i'⟩) (by rw [hk]; rfl)
  · rw [List.lookup_cons] at hw
    split at hw
    · rename_i q; cases hw; rw [if_pos (beq_iff_eq.mp q)]; exact ⟨_, rfl, t, rfl⟩
    · rename_i q; rw [if_neg (beq_eq_false_iff_ne.mp q)]; exact b y w hw
  · exact (hs.2 z (Nat.ne_of_lt (Nat.lt_of_lt_of_le lt d))).trans q
  · obtain ⟨o, h1, h2, h3, h4⟩ := e p hp
    exact ⟨o, (hs.2 p.1 h3).trans h1, h2, h3, h4⟩
end

section
variable {prog : Program} {w : World} {A : Around} {E : Value → Shared → Prop} {R : Result → Shared → Prop} {Fs : List Addr} {s₀ s : Shared} {L : Addr} {l : List (Str × V)} {nw nw' : List (Addr × Sh)}
theorem aAppendL {x : Addr} {ns : List Int} {v : Int} {t : Tok} {Q : Value → Shared → Prop} (S : St Fs s₀ L l nw s) (u : Upd x (.ints ns) (.ints (ns ++ [v])) nw nw') (hz : ns.length ≤ 16777215) (h : ∀ s', St Fs s₀ L l nw' s' → Q .none s') :
    wpAny (model prog w) A (call (.builtin "list.append") [.ref x, .int v t]) Q E s := by
  obtain ⟨vs, n, ho, hi⟩ := S.ints u.mem
  have hlen : vs.length = ns.length := hi.length
  refine wpAny_call_entry slot_list_append ⟨_, ho, rfl⟩ entry_list_append ?_ (args_list_append _ _)
  show wpAny _ _ (updateSeq x (·.push (.int v t)) >>= fun _ => ret .none) _ _ s
  refine wpAny_bind (wpAny_updateSeq ho rfl (wpAny_pure ⟨.none, rfl, h _ ?_⟩) (by simp [sizeLine_eq]; omega) (by simp [sizeLine_eq]; omega))
  refine S.upd u (Heap.SameBut.update ..).extBut (Heap.get?_update_self _ ho rfl) ⟨vs ++ [.int v t], _, by simp [Obj.mapSeq]; rfl, IntsAre.append hi (.cons v t .nil)⟩

theorem compLoopT {elt target iter : PySem.Expr} {ifs : List PySem.Expr} {scope : Scope} {pos : Pos} {it acc : Value} {env : Env} (I : Nat → Shared → Prop)
    (turn : ∀ n s, I n s → wpAny (model prog w) A (pyNext it) (fun r s₁ => match r with
      | none => R (.ok .next) s₁
      | some v => wpAny (model prog w) A (letOwnedTupleGo target it v) (fun _ s₁' => wpAny (model prog w) A (assign target env v) (fun _ s₂ =>
          wpAny (model prog w) A (forIn ifs true fun c r => if r = true then do let ok ← isTrue c env (eval c env); pure (ForInStep.yield ok) else pure (ForInStep.yield r)) (fun ok s₃ =>
            if ok = true then wpAny (model prog w) A (eval elt env) (fun x s₄ =>
              wpAny (model prog w) A (call (.builtin "list.append") [acc, x]) (fun _ s₅ => ∃ m, m < n ∧ I m s₅) (notedBy (model prog w) A env fun e s' => R (.error e) s') s₄) (notedBy (model prog w) A env fun e s' => R (.error e) s') s₃
            else ∃ m, m < n ∧ I m s₃) (notedBy (model prog w) A env fun e s' => R (.error e) s') s₂) (notedBy (model prog w) A env fun e s' => R (.error e) s') s₁') (notedBy (model prog w) A env fun e s' => R (.error e) s') s₁) (notedBy (model prog w) A env fun e s' => R (.error e) s') s)
    (n : Nat) (h : I n s) :
    codeAny (model prog w) A (.compLoop (.ListComp elt [⟨target, iter, ifs, 0⟩] scope pos) 0 it acc env) R s := by
  refine codeAny_loop rfl I (fun n s hI => ?_) n h
  show wpAny _ A ((compTurn (.ListComp elt [⟨target, iter, ifs, 0⟩] scope pos) 0 it acc env).onRaise (fun x => do noteFrame x env; theTreesLotGoes x)) _ _ s
  refine wpAny_noted ?_
  rw [compTurn_list]
  refine wpAny_bind (wpAny_standAt (wpAny_bind (wpAny_mono (turn n s hI) (fun r s₁ h₁ => ?_) fun _ _ h' => h')))
  cases r with
  | none => exact wpAny_pure h₁
  | some v =>
    refine wpAny_bind (wpAny_mono h₁ (fun _ s₁' h₁' => ?_) fun _ _ h' => h')
    refine wpAny_bind (wpAny_mono h₁' (fun _ s₂ h₂ => wpAny_bind (wpAny_mono h₂ (fun ok s₃ h₃ => ?_) fun _ _ h' => h')) fun _ _ h' => h')
    cases ok with
    | false => exact wpAny_pure ⟨rfl, h₃⟩
    | true =>
      exact wpAny_bind (wpAny_bind (wpAny_mono h₃ (fun x s₄ h₄ => wpAny_bind (wpAny_mono h₄ (fun _ s₅ h₅ => wpAny_pure (wpAny_pure ⟨rfl, h₅⟩)) fun _ _ h' => h')) fun _ _ h' => h'))
end

/-- the places below i at which ns has a nought -/
def zerosTo (ns : List Int) (i : Nat) : List Int := ((List.range i).filter fun j => ns.getD j 0 == 0).map Int.ofNat
theorem zerosTo_succ (ns : List Int) (i : Nat) : zerosTo ns (i + 1) = if ns.getD i 0 = 0 then zerosTo ns i ++ [(i : Int)] else zerosTo ns i := by
  unfold zerosTo
  rw [List.range_succ, List.filter_append, List.map_append]
  by_cases h : ns.getD i 0 = 0
  · rw [if_pos h]; simp [List.getD_eq_getElem?_getD] at h ⊢; simp [h]
  · rw [if_neg h]; simp [List.getD_eq_getElem?_getD] at h ⊢; simp [h]
theorem zerosTo_length (ns : List Int) (i : Nat) : (zerosTo ns i).length ≤ i := by
  unfold zerosTo
  rw [List.length_map]
  exact Nat.le_trans (List.length_filter_le _ _) (by simp)

section
variable {prog : Program} {w : World} {A : Around} {E : Value → Shared → Prop} {Fs : List Addr} {s₀ s : Shared} {L : Addr} {l : List (Str × V)} {nw : List (Addr × Sh)} {env : Env}
abbrev enumObj (it : Addr) (i : Int) (old : Value) : Obj := { cls := .type "enumerate", dict := none, data := .fields #[.none, .bool false, .ref it, rawInt i, .none, old], slots := #[] }
theorem zerosComp {p1 p2 p3 p4 p5 p6 p7 pos : Pos} {k1 k2 : Nat} {iter : PySem.Expr} {scope : Scope} {x : Addr} {vs : List Value} {ns : List Int} {Q : Value → Shared → Prop} (hh : A.handled = none) (S : St Fs s₀ L l nw s)
    (hl : s.heap.IsList x vs.toArray) (hi : IntsAre vs ns) (hz : ns.length ≤ 16777215)
    (hs : scope = { kind := .function, names := [(Str.ofString ".0", .local), (Str.ofString "place", .local), (Str.ofString "octet", .local)], isGenerator := false, isCoroutine := false })
    (hit : ∀ Q' : Value → Shared → Prop, wpAny (model prog w) A (call (.type "enumerate") [.ref x]) Q' E s → wpAny (model prog w) A (eval iter env) Q' E s)
    (h : ∀ z s', St Fs s₀ L l ((z, .ints (zerosTo ns ns.length)) :: nw) s' → Q (.ref z) s') (hf : ∀ x, foldedSetIterable iter env x = pure x := by intro _; rfl) :
    wpAny (model prog w) A (eval (.ListComp (.Name (Str.ofString "place") p1) [⟨.Tuple [.Name (Str.ofString "place") p2, .Name (Str.ofString "octet") p3] k1 p4, iter, [.Compare (.Name (Str.ofString "octet") p5) [.Eq] [.Constant (.int 0) k2 p6] p7], 0⟩] scope pos) env) Q E s := by
  subst hs
  have hlen : vs.length = ns.length := hi.length
  refine wpAny_ListComp (by decide) rfl (by decide) (hit _ (call_enumerate_list hl fun h₁ he hit₁ hsz hk => ?_)) hf
  refine wpAny_pyIter_enum he (wpAny_newObj_type (hd := by size_fits) (wpAny_newFunctionEnv (by decide) (by intro y hy; simp at hy) (fun h₂ hns hsb => ?_) rfl))
  dsimp only at hns hsb ⊢
  generalize hH1 : h₁.push { cls := .type "list", dict := none, data := .seq ([] : List Value).toArray } = H1 at hns hsb ⊢
  have hC : H1.objs.size = s.heap.objs.size + 3 := by rw [← hH1, Heap.size_push, hsz]
  generalize hCC : H1.objs.size = C at hns hsb hC ⊢
  have up : ∀ (b : Nat) (o : Obj), b < s.heap.objs.size + 3 → H1.get? b = some o → h₂.get? b = some o := fun b o hb q => hsb.extBut b o (by walk_at "om") (Heap.get?_push_of_some _ q)
  have up1 : ∀ b o, h₁.get? b = some o → h₂.get? b = some o := fun b o q => up b o (by have := (show (_ : Nat) < _ from Heap.lt_size q); walk_at "om") (hH1 ▸ Heap.get?_push_of_some _ q)
  obtain ⟨oi, hoi, hic, hid⟩ := hit₁
  have T₀ : St [] s C [] [(s.heap.objs.size, .liter x 0), (s.heap.objs.size + 1, .obj (enumObj s.heap.objs.size 0 .none)), (s.heap.objs.size + 2, .ints [])] { s with heap := h₂ } := by
    refine ⟨⟨_, hns, fun _ _ q => nomatch q⟩, Kh.of fun b o q => up1 b o (hk b o q), by omega, fun p hp => ?_, by simp, rfl, rfl⟩
    rcases List.mem_cons.mp hp with rfl | hp
    · exact ⟨oi, up1 _ _ hoi, ⟨hic, hid⟩, by walk_at "om", Nat.le_refl _⟩
    rcases List.mem_cons.mp hp with rfl | hp
    · exact ⟨_, up1 _ _ he, rfl, by walk_at "om", Nat.le_succ _⟩
    rcases List.mem_cons.mp hp with rfl | hp
    · exact ⟨_, up _ _ (by walk_at "om") (by rw [← hH1, ← hsz]; exact Heap.get?_push_size _ rfl), ⟨[], 0, rfl, .nil⟩, by walk_at "om", by walk_at "om"⟩
    · cases hp
  rw [show h₁.objs.size = s.heap.objs.size + 2 from hsz]
  have fin : ∀ s', St [] s C [] [(s.heap.objs.size + 2, .ints (zerosTo ns ns.length))] s' → ∃ m, s'.heap.Ns C m ∧ ∀ h', Heap.SameBut C s'.heap h' → Q (.ref (s.heap.objs.size + 2)) { s' with heap := h' } := by
    intro s' S'
    obtain ⟨m, hm, _⟩ := S'.ns
    obtain ⟨o, ho, hio, hoC, hlo⟩ := S'.new _ (.head _)
    refine ⟨m, hm, fun h' hs' => h _ _ (S.add hlo (fun b o q => ?_) (o := o) ?_ hio S'.gens S'.os)⟩
    · exact (hs'.2 b (fun e => by have := (show (_ : Nat) < _ from Heap.lt_size q); have := (show (_ : Nat) ≤ _ from S'.above); subst e; walk_at "om")).trans (S'.keep.exact b o q)
    · exact (hs'.2 _ hoC).trans ho
  have loop : ∀ s₂ : Shared, s₂ = { s with heap := h₂ } → codeAny (model prog w) A (.compLoop (.ListComp (.Name (Str.ofString "place") p1) [⟨.Tuple [.Name (Str.ofString "place") p2, .Name (Str.ofString "octet") p3] k1 p4, iter, [.Compare (.Name (Str.ofString "octet") p5) [.Eq] [.Constant (.int 0) k2 p6] p7], 0⟩]
      { kind := .function, names := [(Str.ofString ".0", .local), (Str.ofString "place", .local), (Str.ofString "octet", .local)], isGenerator := false, isCoroutine := false } pos) 0 (.ref (s.heap.objs.size + 1)) (.ref (s.heap.objs.size + 2)) (compEnv { kind := .function, names := [(Str.ofString ".0", .local), (Str.ofString "place", .local), (Str.ofString "octet", .local)], isGenerator := false, isCoroutine := false } C env))
        (fun r s' => ∃ m, s'.heap.Ns C m ∧ ∀ h', Heap.SameBut C s'.heap h' →
          match r with | .ok _ => Q (.ref (s.heap.objs.size + 2)) { s' with heap := h' } | .error x => wpAny (model prog w) A (passOn "comprehension.variables-let-go" x (compEnv { kind := .function, names := [(Str.ofString ".0", .local), (Str.ofString "place", .local), (Str.ofString "octet", .local)], isGenerator := false, isCoroutine := false } C env)) Q E { s' with heap := h' }) s₂ := by
    rintro s₂ rfl
    refine compLoopT (fun n s' => ∃ i old, n = ns.length + 1 - i ∧ i ≤ ns.length ∧ St [] s C [] [(s.heap.objs.size, .liter x i), (s.heap.objs.size + 1, .obj (enumObj s.heap.objs.size i old)), (s.heap.objs.size + 2, .ints (zerosTo ns i))] s') ?_ (ns.length + 1) ⟨0, .none, rfl, Nat.zero_le _, T₀⟩
    rintro n s₃ ⟨i, old, rfl, hin, T⟩
    have he₃ := T.obj (.tail _ (.head _))
    obtain ⟨o3, ho3, ⟨hc3, hd3⟩, _⟩ := T.new _ (.head _)
    have hl₃ : s₃.heap.IsList x vs.toArray := hl.at fun o q => T.keep.exact _ o q
    have hit₃ : s₃.heap.IsListIter s.heap.objs.size x i := ⟨o3, ho3, hc3, hd3⟩
    by_cases hlt : i < ns.length
    · have hv : vs.toArray[i]? = some vs[i] := by simp
      obtain ⟨n, t, hvn, hn⟩ := IntsAre.at hi i vs[i] (by simp)
      refine wpAny_pyNext_enum_item he₃ hit₃ hl₃ hv (by walk_at "om") fun h' heo hit' htup hsz' hk' => ?_
      obtain ⟨o4, ho4, hc4, hd4⟩ := hit'
      have T₁ : St [] s C [] [(s.heap.objs.size, .liter x (i + 1)), (s.heap.objs.size + 1, .obj _), (s.heap.objs.size + 2, .ints (zerosTo ns i))] { s₃ with heap := h', toks := s₃.toks + 1 } :=
        T.upd2 (fun z o h1 h2 q => hk' z o h2 h1 q) ho4 ⟨hc4, hd4⟩ heo (y' := .obj _) rfl
      refine wpAny_letOwnedTupleGo_enum heo fun h₄ he₄ hs₄ => ?_
      have T₂ : St [] s C [] [(s.heap.objs.size, .liter x (i + 1)), (s.heap.objs.size + 1, .obj (enumObj s.heap.objs.size ((i + 1 : Nat) : Int) vs[i])), (s.heap.objs.size + 2, .ints (zerosTo ns i))] { s₃ with heap := h₄, toks := s₃.toks + 1 } :=
        T₁.upd (Upd.tail _ (Upd.head _)) hs₄.extBut he₄ (by rw [show ((i + 1 : Nat) : Int) = (i : Int) + 1 by omega]; rfl)
      have helt : (_ : Nat) < _ := Heap.lt_size he₃
      have htup₂ : h₄.IsTuple s₃.heap.objs.size #[.int i s₃.toks, vs[i]] := ⟨_, (hs₄.2 _ (by walk_at "om")).trans htup, rfl, _, rfl⟩
      refine wpAny_assign_Tuple hh htup₂ rfl rfl fun h₅ hx₅ => ?_
      have T₃ : St [] s C [] [(s.heap.objs.size, .liter x (i + 1)), (s.heap.objs.size + 1, .obj (enumObj s.heap.objs.size ((i + 1 : Nat) : Int) vs[i])), (s.heap.objs.size + 2, .ints (zerosTo ns i))] { s₃ with heap := h₅, toks := s₃.toks + 1 } :=
        T₂.grow fun b o q => hx₅ b o (Nat.ne_of_lt (Heap.lt_size q)) q
      rw [hvn] at T₃ ⊢
      show wpAny _ _ (do holding [.int n t] (assign (.Name (Str.ofString "place") p2) _ (.int i s₃.toks)); do holding [] (assign (.Name (Str.ofString "octet") p3) _ (.int n t)); pure ()) _ _ _
      refine wpAny_bind (wpAny_holding (wpAny_assign_Name (stE T₃ fun s₆ T₆ => ?_)))
      refine wpAny_bind (wpAny_holding (wpAny_assign_Name (stE T₆ fun s₇ T₇ => wpAny_pure ?_)))
      refine wpAny_tests_one (wpAny_isTrue_Compare1 (nmE T₇ (by rfl) fun t₁ => aInt T₇ fun t₂ s₈ T₈ => PyProof.Rows.eq_int (wpAny_truthy_bool ?_)))
      have hg : ns.getD i 0 = n := by rw [List.getD_eq_getElem?_getD, hn]; rfl
      by_cases hn0 : n = 0
      · rw [if_pos (by simp [hn0])]
        refine nmE T₈ (by rfl) fun t₃ => ?_
        refine aAppendL T₈ (Upd.tail _ (Upd.tail _ (Upd.head _))) (by have := zerosTo_length ns i; omega) fun s₉ T₉ => ⟨ns.length + 1 - (i + 1), by omega, i + 1, .int n t, rfl, hlt, ?_⟩
        rw [zerosTo_succ, hg, if_pos hn0]
        exact St.names T₉ (List.forall_mem_nil _)
      · rw [if_neg (by simp [hn0])]
        refine ⟨ns.length + 1 - (i + 1), by omega, i + 1, .int n t, rfl, hlt, ?_⟩
        rw [zerosTo_succ, hg, if_neg hn0]
        exact St.names T₈ (List.forall_mem_nil _)
    · obtain rfl : i = ns.length := by omega
      refine wpAny_pyNext_enum_end hh he₃ hit₃ hl₃ (by simp; omega) fun h' hx' => ?_
      exact fin _ ((T.forget hx').sub (List.Sublist.cons _ (List.Sublist.refl _)))
  exact codeAny_compStart_list (loop _ rfl) (wpAny_pyIter_enum (T₀.obj (.tail _ (.head _))) (loop _ rfl))
end
end Mine
namespace Mine
open Sem (wp)

/-! lists: made, walked, cut -/
section
variable {prog : Program} {w : World} {A : Around} {E : Value → Shared → Prop} {Fs : List Addr} {s₀ s : Shared} {L : Addr} {l : List (Str × V)} {nw nw' : List (Addr × Sh)}
theorem aList {M : Model} {env : Env} {elts : List PySem.Expr} {pos : Pos} {Q : Value → Shared → Prop}
    (h : wpAny M A (spliced (backTo pos (starEach elts env))) (fun vs s₁ => ∃ Fs s₀ L l nw ns, St Fs s₀ L l nw s₁ ∧ IntsAre vs ns ∧ vs.length ≤ 16777216 ∧ ∀ z s', St Fs s₀ L l ((z, .ints ns) :: nw) s' → Q (.ref z) s') E s) :
    wpAny M A (eval (.List elts pos) env) Q E s := by
  refine wpAny_List (wpAny_mono h (fun vs s₁ h₁ => ?_) fun _ _ x => x)
  obtain ⟨Fs, s₀, L, l, nw, ns, S, hi, hz, h₁⟩ := h₁
  exact ⟨by rw [sizeLine_eq]; exact hz, h₁ _ _ (S.push (x := .ints ns) ⟨vs, 0, rfl, hi⟩)⟩
theorem listIter {x : Addr} {ns : List Int} {Q : Value → Shared → Prop} (S : St Fs s₀ L l nw s) (hm : (x, Sh.ints ns) ∈ nw) (h : ∀ it s', St Fs s₀ L l ((it, .liter x 0) :: nw) s' → Q (.ref it) s') : wpAny (model prog w) A (pyIter (.ref x)) Q E s := by
  obtain ⟨vs, hl, hi⟩ := S.isList hm
  exact wpAny_pyIter_list hl (h _ _ (S.push (o := { cls := .type "list_iterator", data := .fields #[.ref x, .int 0 0] }) (x := .liter x 0) ⟨rfl, rfl⟩))
theorem listNext {x it : Addr} {ns : List Int} {i : Nat} {Q : Option Value → Shared → Prop} (S : St Fs s₀ L l nw s) (hm : (x, Sh.ints ns) ∈ nw) (u : Upd it (.liter x i) (.liter x (i + 1)) nw nw') (hi : i < ns.length)
    (h : ∀ t s', St Fs s₀ L l nw' s' → Q (some (.int (ns.getD i 0) t)) s') : wpAny (model prog w) A (pyNext (.ref it)) Q E s := by
  obtain ⟨vs, hl, hv⟩ := S.isList hm
  obtain ⟨o, ho, ⟨hc, hd⟩, _⟩ := S.new _ u.mem
  have hlen : vs.length = ns.length := hv.length
  obtain ⟨n, t, hvn, hn⟩ := IntsAre.at hv i vs[i] (by simp)
  refine wpAny_pyNext_list_item (x := .int n t) ⟨o, ho, hc, hd⟩ hl (by simp [← hvn]) fun h' hit hs => ?_
  obtain ⟨o', ho', hc', hd'⟩ := hit
  have := h t { s with heap := h' } (S.upd u hs.extBut ho' ⟨hc', hd'⟩)
  rw [List.getD_eq_getElem?_getD, hn] at this
  exact this
theorem listEnd {x it : Addr} {ns : List Int} {i : Nat} {Q : Option Value → Shared → Prop} (hh : A.handled = none) (S : St Fs s₀ L l ((it, .liter x i) :: nw) s) (hm : (x, Sh.ints ns) ∈ nw) (hi : ns.length ≤ i)
    (h : ∀ s', St Fs s₀ L l nw s' → Q none s') : wpAny (model prog w) A (pyNext (.ref it)) Q E s := by
  obtain ⟨vs, hl, hv⟩ := S.isList (.tail _ hm)
  obtain ⟨o, ho, ⟨hc, hd⟩, _⟩ := S.new _ (.head _)
  have hlen : vs.length = ns.length := hv.length
  exact wpAny_pyNext_list_end hh ⟨o, ho, hc, hd⟩ hl (by simp; omega) fun h' hx => h _ (S.forget hx)
theorem cutListH {x : Addr} {vs : List Value} {ns : List Int} {vl vu : Value} {lo hi : Option Int} {Q : Value → Shared → Prop} (S : St Fs s₀ L l nw s) (hl : s.heap.IsList x vs.toArray) (hi' : IntsAre vs ns) (pl : IsPart vl lo) (pu : IsPart vu hi) (hz : ns.length ≤ 16777216)
    (h : ∀ z s', St Fs s₀ L l ((z, .ints (pk ns lo hi)) :: nw) s' → Q (.ref z) s') : Cut prog w A E (.ref x) vl vu Q s := by
  have S' : St Fs s₀ L l nw { s with heap := s.heap.push (slObj vl vu) } := S.pushed
  refine ⟨"list", _, list_getitem_lookup, (hl.push _).typeIs, wpAny_getItem_list_slice (lo := lo) (hi := hi) (st := none) (hl.push _) (Heap.IsSliceOf.new ..) pl pu .none (by simp) ?_ (by rw [List.size_toArray, hi'.length, sizeLine_eq]; exact hz)⟩
  have e : slicePick vs.toArray lo hi none = (pk vs lo hi).toArray := by
    unfold slicePick pk
    simp only [List.size_toArray, List.getElem?_toArray]
  rw [e]
  exact h _ _ (S'.push (x := .ints (pk ns lo hi)) ⟨pk vs lo hi, 0, rfl, pk_ints hi' lo hi⟩)
/-- an object that a call made -/
theorem St.gain {a : Addr} {o : Obj} {x : Sh} (S : St Fs s₀ L l nw s) (ha : s.heap.get? a = some o) (hx : x.Is o) (hL : a ≠ L) (lo : s₀.heap.objs.size ≤ a) (hn : a ∉ nw.map (·.1)) : St Fs s₀ L l ((a, x) :: nw) s := by
  obtain ⟨h1, h2, h3, h4, h5, h6, h7⟩ := S
  refine ⟨h1, h2, h3, fun p hp => ?_, ?_, h6, h7⟩
  · rcases List.mem_cons.mp hp with rfl | hp
    · exact ⟨o, ha, hx, hL, lo⟩
    · exact h4 p hp
  · rw [List.map_cons, List.nodup_cons]; exact ⟨hn, h5⟩
end
end Mine
namespace Mine
open Sem (wp)

section
variable {M : Model} {A : Around} {E : Value → Shared → Prop} {s : Shared} {env : Env}
theorem gItemsCons {pos : Pos} {e : PySem.Expr} {rest : List PySem.Expr} {Q : List Value → Shared → Prop}
    (h : wpG M A (eval e env) (fun v s₁ => wpG M A (spliced (backTo pos (starEach rest env))) (fun vs s₂ => Q (v :: vs) s₂) E s₁) E s)
    (he : starEach (e :: rest) env = (false, eval e env) :: starEach rest env := by rfl) : wpG M A (spliced (backTo pos (starEach (e :: rest) env))) Q E s := by
  rw [he]
  show wpG M A (do
    let v ← eval e env
    let here ← (pure [v] : Sem (List Value))
    return here ++ (← holding here (spliced (backTo pos (starEach rest env))))) Q E s
  exact gBind (gMono h (fun v s₁ h₁ => gBind (gPure (gBind (gHolding (gMono h₁ (fun vs s₂ h₂ => gPure h₂) fun _ _ x => x)))) ) fun _ _ x => x)
theorem gItemsNil {pos : Pos} {Q : List Value → Shared → Prop} (h : Q [] s) : wpG M A (spliced (backTo pos (starEach [] env))) Q E s := gPure h
theorem gTry {body orelse : List Stmt} {h₀ : ExceptHandler} {hs : List ExceptHandler} {pos : Pos} {Q : Flow → Shared → Prop}
    (h : wpG M A (execs body env) (fun f s₁ => match f with | .next => wpG M A (execs orelse env) Q E s₁ | f => Q f s₁)
      (fun e s₁ => wpAny M A (noteFrame e env) (fun _ s₂ => wpAny M A (setFlight e none) (fun _ s₃ => wpAny M A (handleBy e env (h₀ :: hs)) Q E s₃) E s₂) E s₁) s) :
    wpG M A (exec (.Try body (h₀ :: hs) orelse [] pos) env) Q E s := by
  rw [arm_exec_Try]
  refine gBind (gStand ?_)
  unfold tryStmt
  simp only [List.isEmpty_nil, if_true, List.isEmpty_cons, Bool.false_and, Bool.false_eq_true, if_false]
  refine gBind (gAttempt (gMono h (fun f s₁ h₁ => ?_) fun e s₁ h₁ => ?_))
  · cases f <;> first | exact h₁ | exact gPure h₁
  · exact lift (wpAny_bind (wpAny_mono h₁ (fun _ _ h₂ => wpAny_bind h₂) fun _ _ x => x))
theorem gAssignTuple {elts k tpos value pos} {Q : Flow → Shared → Prop}
    (h : wpG M A (eval value env) (fun v s₁ => wpAny M A (assign (.Tuple elts k tpos) env v) (fun _ => Q .next) E s₁) E s)
    (hs : swapsWithSole [.Tuple elts k tpos] value pos.line env = pure false := by rfl)
    (hw : swappedStores [.Tuple elts k tpos] value env = pure none := by rfl) :
    wpG M A (exec (.Assign [.Tuple elts k tpos] value pos) env) Q E s := by
  rw [PyProof.Rows.exec_Assign]
  refine gBind (gStand ?_)
  rw [hs]
  refine gBind (gPure ?_)
  rw [if_neg (by decide)]
  refine gBind (gMono h (fun v s₁ h₁ => ?_) fun _ _ x => x)
  rw [hw]
  refine gBind (gPure ?_)
  show wpG M A (do assignAll v [assign (.Tuple elts k tpos) env]; pure .next) Q E s₁
  exact lift (wpAny_bind (wpAny_mono h₁ (fun _ _ x => wpAny_pure x) fun _ _ x => x))
end

section
variable {prog : Program} {w : World} {A : Around} {E : Value → Shared → Prop} {s : Shared} {env : Env}
/-- an except clause by a class of the text's own -/
theorem handleOwn {nm q : Str} {C N e : Addr} {bs bm : List Value} {hdct : Bool} {sn : List Str} {sub : List Value} {ab : Bool} {col : Option Bool} {dd : Option Addr} {k0 k1 k2 k3 k5 : Option Value} {newId : String}
    {t : PySem.Expr} {b₀ : Stmt} {suite : List Stmt} {pos : Pos} {rest : List ExceptHandler} {Q : Flow → Shared → Prop} (hb : bm.contains (.type "BaseException") = true)
    (h : wpAny (model prog w) (A.mark (some (.ref e))) (eval t env) (fun c s₁ => c = .ref C ∧ s₁.heap.get? C = some (excClassObj nm q C N bs bm hdct sn sub ab col dd k0 k1 k2 k3 k5 newId) ∧ (∃ oe, s₁.heap.get? e = some oe ∧ oe.cls = .ref C) ∧
      wpAny (model prog w) (A.mark (some (.ref e))) (setFlight (.ref e) none) (fun _ s₂ => wpAny (model prog w) (A.mark (some (.ref e))) (execs (b₀ :: suite) env) Q (notedBy (model prog w) (A.mark (some (.ref e))) env (cameBackBy (model prog w) A env E)) s₂) (notedBy (model prog w) (A.mark (some (.ref e))) env (cameBackBy (model prog w) A env E)) s₁)
      (notedBy (model prog w) (A.mark (some (.ref e))) env (cameBackBy (model prog w) A env E)) s) :
    wpAny (model prog w) A (handleBy (.ref e) env (.ExceptHandler (some t) none (b₀ :: suite) pos :: rest)) Q E s := by
  refine wpAny_handleBy_cons (codeAny_handlers_test (wpAny_mono h (fun c s₁ h₁ => ?_) fun _ _ x => x)) (by intro q; cases q)
  obtain ⟨rfl, hC, ⟨oe, he, hc⟩, hk⟩ := h₁
  obtain ⟨hp, g, d, tk, os⟩ := s₁
  exact wpAny_excMatches_sub_self hC he hc hb (codeAny_handlers_suite hk)
end
end Mine
namespace Mine
open Sem (wp)

noncomputable abbrev KH (P : Params) : Frag := hd.heap_39 P
abbrev PG : Program := PySem.Challenge.rw_md0006_01.row.toRowW.prog

/-- what a call of ours asks of the place it is called at -/
structure Cx (A : Around) (outer : List Env) (Fs : List Addr) (s : Shared) : Prop where
  guards : A.guards = some []
  handled : A.handled = none
  frames : A.frames = some outer
  fs : framesOf outer = Fs
  frs : Frs s.heap outer
  lo : ∀ a ∈ Fs, a < s.heap.objs.size
  depth : A.depth < 900
  units : A.units < 9000

theorem u_isinstance (P : Params) : nsIn (KH P) mainGlobals (Str.ofString "isinstance") = some none := by kernel_rfl
theorem u_str (P : Params) : nsIn (KH P) mainGlobals (Str.ofString "str") = some none := by kernel_rfl
theorem u_bytes (P : Params) : nsIn (KH P) mainGlobals (Str.ofString "bytes") = some none := by kernel_rfl
theorem u_bytearray (P : Params) : nsIn (KH P) mainGlobals (Str.ofString "bytearray") = some none := by kernel_rfl
theorem u_list (P : Params) : nsIn (KH P) mainGlobals (Str.ofString "list") = some none := by kernel_rfl
theorem u_len (P : Params) : nsIn (KH P) mainGlobals (Str.ofString "len") = some none := by kernel_rfl
theorem u_enumerate (P : Params) : nsIn (KH P) mainGlobals (Str.ofString "enumerate") = some none := by kernel_rfl
theorem u_IndexError (P : Params) : nsIn (KH P) mainGlobals (Str.ofString "IndexError") = some none := by kernel_rfl
theorem b_isinstance : bootBuiltins (Str.ofString "isinstance") = some (.builtin "isinstance") := by kernel_rfl
theorem b_str : bootBuiltins (Str.ofString "str") = some (.type "str") := by kernel_rfl
theorem b_bytes : bootBuiltins (Str.ofString "bytes") = some (.type "bytes") := by kernel_rfl
theorem b_bytearray : bootBuiltins (Str.ofString "bytearray") = some (.type "bytearray") := by kernel_rfl
theorem b_list : bootBuiltins (Str.ofString "list") = some (.type "list") := by kernel_rfl
theorem b_len : bootBuiltins (Str.ofString "len") = some (.builtin "len") := by kernel_rfl
theorem b_enumerate : bootBuiltins (Str.ofString "enumerate") = some (.type "enumerate") := by kernel_rfl
theorem b_IndexError : bootBuiltins (Str.ofString "IndexError") = some (.type "IndexError") := by kernel_rfl
section
variable {M : Model} {A : Around} {E : Value → Shared → Prop} {s : Shared} {env : Env}
theorem aCallWith {pos : Pos} {f : Value} {first : List Value} {args : List (Bool × Sem Value)} {Q : Value → Shared → Prop} (hplain : args.any (·.1) = false)
    (h : wpAny M A (spliced args) (fun vs s₁ => (∀ a, f ≠ .ref a) ∧ wpAny M A (call f (first ++ vs)) Q E s₁) E s) : wpAny M A (callWith pos f first args []) Q E s := by
  unfold callWith
  have ea : ∀ (Q' : Args → Shared → Prop), wpAny M A (spliced args) (fun vs s' => Q' ⟨vs, []⟩ s') E s → wpAny M A (evalArgs f true args []) Q' E s := fun Q' h => by
    have go : ∀ t : Sem Args, t = (spliced args >>= fun vs => holding (vs ++ []) (do
        let kw : List (Str × Value) := (([] : List (Option Str × Sem Value)).filterMap (·.1)).zip (← evalAll [])
        return ⟨← (pure vs : Sem (List Value)), kw⟩)) → wpAny M A t Q' E s := by
      intro t ht
      rw [ht]
      exact wpAny_bind (wpAny_mono h (fun vs s' h' => wpAny_holding (wpAny_bind (wpAny_pure (wpAny_bind (wpAny_pure (wpAny_pure h')))))) fun _ _ x => x)
    unfold evalArgs
    refine go _ ?_
    cases args with
    | nil => rfl
    | cons p r =>
      obtain ⟨b, x⟩ := p
      cases b with
      | true => simp at hplain
      | false => rfl
  refine wpAny_bind (wpAny_holding (ea _ (wpAny_mono h (fun vs s₁ h₁ => wpAny_bind (wpAny_standAt ?_)) fun _ _ x => x)))
  simp only [hplain, List.any_nil, Bool.or_false]
  have e : keeperOf f = pure .machine := by
    cases f with
    | ref a => exact absurd rfl (h₁.1 a)
    | _ => rfl
  refine wpAny_bind (wpAny_of_eq e ?_)
  exact wpAny_bind (wpAny_mono h₁.2 (fun r s₃ hr => wpAny_bind (wpAny_holding (wpAny_point (wpAny_pure hr)))) fun _ _ x => x)
theorem aCallName {x : Str} {np pos : Pos} {args : List PySem.Expr} {Q : Value → Shared → Prop}
    (h : wpAny M A (eval (.Name x np) env) (fun f s₁ => wpAny M A (spliced (backTo pos (starEach args env))) (fun vs s₂ => (∀ a, f ≠ .ref a) ∧ wpAny M A (call f vs) Q E s₂) E s₁) E s)
    (hplain : (backTo pos (starEach args env)).any (·.1) = false := by rfl) : wpAny M A (eval (.Call (.Name x np) args [] pos) env) Q E s := by
  show wpAny M A (do callWith pos (← eval (.Name x np) env) [] (backTo pos (starEach args env)) (backToKw pos (keywordEach [] env))) Q E s
  exact wpAny_bind (wpAny_mono h (fun f s₁ h₁ => aCallWith hplain h₁) fun _ _ x => x)
end
theorem g_encR (P : Params) : nsIn (KH P) mainGlobals (Str.ofString "encode_cobsr_py") = some (some (.ref 34)) := by kernel_rfl
theorem g_decR (P : Params) : nsIn (KH P) mainGlobals (Str.ofString "decode_cobsr_py") = some (some (.ref 41)) := by kernel_rfl
theorem g_encP (P : Params) : nsIn (KH P) mainGlobals (Str.ofString "encode_cobs_py") = some (some (.ref 61)) := by kernel_rfl
theorem g_decP (P : Params) : nsIn (KH P) mainGlobals (Str.ofString "decode_cobs_py") = some (some (.ref 68)) := by kernel_rfl
theorem g_excP (P : Params) : nsIn (KH P) mainGlobals (Str.ofString "DecodeError_cobs_py") = some (some (.ref 51)) := by kernel_rfl
theorem g_excR (P : Params) : nsIn (KH P) mainGlobals (Str.ofString "DecodeError_cobsr_py") = some (some (.ref 24)) := by kernel_rfl
theorem g_parts (P : Params) : nsIn (KH P) mainGlobals (Str.ofString "_law_parts") = some (some (.ref 73)) := by kernel_rfl
end Mine
namespace Mine
open Sem (wp)
local macro_rules | `(tactic| walk_at "ev1") => `(tactic| first
  | ((with_reducible show wpAny _ _ (eval (PySem.Expr.Name _ _) _) _ _ _); first
      | (refine nmI (by assumption) (by rfl) (fun _ => ?_))
      | (refine nmV (by assumption) (by rfl) ?_)
      | (refine nmB (by assumption) (by rfl) (fun _ => ?_)))
  | ((with_reducible show wpAny _ _ (eval (PySem.Expr.Constant (Const.int _) _ _) _) _ _ _); refine aInt (by assumption) (fun _ _ _ => ?_))
  | ((with_reducible show wpAny _ _ (eval (PySem.Expr.Constant (Const.bool _) _ _) _) _ _ _); refine wpAny_Constant_bool ?_)
  | ((with_reducible show wpAny _ _ (isTrue (PySem.Expr.BoolOp BoolOp.Or _ _) _ _) _ _ _); refine wpAny_isTrue_BoolOp ?_)
  | ((with_reducible show wpAny _ _ (allTrue BoolOp.Or (_ :: _) _) _ _ _); refine wpAny_allTrue_Or_cons ?_)
  | ((with_reducible show wpAny _ _ (allTrue BoolOp.Or [] _) _ _ _); refine wpAny_allTrue_Or_nil ?_)
  | ((with_reducible show wpAny _ _ (isTrue (PySem.Expr.Name _ _) _ _) _ _ _); refine wpAny_isTrue_value ?_)
  | ((with_reducible show wpAny _ _ (eval (PySem.Expr.Call (PySem.Expr.Name (Str.ofString "len") _) _ _ _) _) _ _ _); refine aCallName (nmU (by assumption) (by assumption) (u_len _) b_len ?_))
  | ((with_reducible show wpAny _ _ (eval (PySem.Expr.BinOp _ _ _ _) _) _ _ _); refine wpAny_BinOp ?_)
  | ((with_reducible show wpAny _ _ (isTrue (PySem.Expr.Compare _ _ _ _) _ _) _ _ _); refine wpAny_isTrue_Compare1 ?_)
  | ((with_reducible show wpAny _ _ (eval (PySem.Expr.Compare _ _ _ _) _) _ _ _); refine wpAny_Compare1 ?_)
  | ((with_reducible show wpAny _ _ (binaryOp Operator.Add (Value.int _ _) (Value.int _ _)) _ _ _); refine aAdd (by assumption) (fun _ _ _ => ?_))
  | ((with_reducible show wpAny _ _ (binaryOp Operator.Mod (Value.int _ _) (Value.int _ _)) _ _ _); refine aMod (by assumption) (by decide) (fun _ _ _ => ?_))
  | ((with_reducible show wpAny _ _ (binaryOp Operator.FloorDiv (Value.int _ _) (Value.int _ _)) _ _ _); refine aDiv (by assumption) (by decide) (PyProof.noPylong_small (by decide)) (fun _ _ _ => ?_))
  | ((with_reducible show wpAny _ _ (eval (PySem.Expr.IfExp _ _ _ _) _) _ _ _); refine wpAny_IfExp ?_)
  | ((with_reducible show wpAny _ _ (isTrue (PySem.Expr.UnaryOp UnaryOp.Not _ _) _ _) _ _ _); refine wpAny_isTrue_Not ?_)
  | ((with_reducible show wpAny _ _ (isTrue (PySem.Expr.Call _ _ _ _) _ _) _ _ _); refine wpAny_isTrue_value ?_)
  | ((with_reducible show wpAny _ _ (binaryOp Operator.Sub (Value.int _ _) (Value.int _ _)) _ _ _); refine aSub (by assumption) (fun _ _ _ => ?_))
  | ((with_reducible show wpAny _ _ (inplaceOp Operator.Add (Value.int _ _) (Value.int _ _)) _ _ _); refine aIAdd (by assumption) (fun _ _ _ => ?_))
  | ((with_reducible show wpAny _ _ (unaryOp UnaryOp.USub (Value.int _ _)) _ _ _); refine aNeg (by assumption) (fun _ _ _ => ?_))
  | ((with_reducible show wpAny _ _ (eval (PySem.Expr.UnaryOp _ _ _) _) _ _ _); refine wpAny_UnaryOp ?_)
  | ((with_reducible show wpAny _ _ (compareOp CmpOp.Eq (Value.int _ _) (Value.int _ _)) _ _ _); refine PyProof.Rows.eq_int ?_)
  | ((with_reducible show wpAny _ _ (compareOp CmpOp.NotEq (Value.int _ _) (Value.int _ _)) _ _ _); refine PyProof.Rows.ne_int ?_)
  | ((with_reducible show wpAny _ _ (compareOp CmpOp.Lt (Value.int _ _) (Value.int _ _)) _ _ _); refine PyProof.Rows.lt_int ?_)
  | ((with_reducible show wpAny _ _ (compareOp CmpOp.Gt (Value.int _ _) (Value.int _ _)) _ _ _); refine PyProof.Rows.gt_int ?_)
  | ((with_reducible show wpAny _ _ (compareOp CmpOp.GtE (Value.int _ _) (Value.int _ _)) _ _ _); refine PyProof.Rows.ge_int ?_)
  | ((with_reducible show wpAny _ _ (truthy (Value.bool _)) _ _ _); refine wpAny_truthy_bool ?_)
  | ((with_reducible show wpAny _ _ (storeName _ _ (Value.int _ _)) _ _ _); refine stI (by assumption) (fun _ _ => ?_))
  | ((with_reducible show wpAny _ _ (storeName _ _ (Value.bytes (List.toArray _) _)) _ _ _); refine stB (by assumption) (fun _ _ => ?_))
  | ((with_reducible show wpAny _ _ (storeName _ _ _) _ _ _); refine stV (by assumption) (fun _ _ => ?_))
  | ((with_reducible show wpAny _ _ (loadName _ _) _ _ _); first | refine ldI (by assumption) (by rfl) (fun _ => ?_) | refine ldV (by assumption) (by rfl) ?_)
  | ((with_reducible show wpAny _ _ (evalPart (some _) _) _ _ _); rw [evalPart_some])
  | ((with_reducible show wpAny _ _ (evalPart none _) _ _ _); rw [evalPart_none]; refine wpAny_pure ?_)
  | ((with_reducible show wpAny _ _ (eval (PySem.Expr.List _ _) _) _ _ _); refine aList ?_)
  | ((with_reducible show wpAny _ _ (assign (PySem.Expr.Name _ _) _ _) _ _ _); refine wpAny_assign_Name ?_)
  | ((with_reducible show wpAny _ _ (spliced (backTo _ (starEach (_ :: _) _))) _ _ _); refine wpAny_items_cons ?_)
  | ((with_reducible show wpAny _ _ (spliced (backTo _ (starEach [] _))) _ _ _); refine wpAny_items_nil ?_))
local macro_rules | `(tactic| walk_at "ev") => `(tactic| repeat (walk_at "ev1"; try dsimp only))
local macro_rules | `(tactic| walk_at "upd") => `(tactic| first | exact Upd.head _ | (apply Upd.tail; walk_at "upd"))
local macro_rules | `(tactic| walk_at "mem") => `(tactic| first | exact .head _ | (refine .tail _ ?_; walk_at "mem"))
local macro_rules | `(tactic| walk_at "sub") => `(tactic| repeat (first | exact List.nil_sublist _ | exact List.Sublist.refl _ | refine List.Sublist.cons_cons _ ?_ | refine List.Sublist.cons _ ?_))
local macro_rules | `(tactic| walk_at "names") => `(tactic| repeat (first | exact List.forall_mem_nil _ | refine List.forall_mem_cons.mpr ⟨by rfl, ?_⟩ | refine List.forall_mem_cons.mpr ⟨by (show some (V.int _) = some (V.int _)); congr 2; omega, ?_⟩))

theorem gSeq {M : Model} {A : Around} {E : Value → Shared → Prop} {s : Shared} {env : Env} {st : Stmt} {rest : List Stmt} {Q : Flow → Shared → Prop} (Mid : Shared → Prop)
    (h1 : wpG M A (exec st env) (fun f s' => f = .next ∧ Mid s') E s) (h2 : ∀ s', Mid s' → wpG M A (execs rest env) Q E s') : wpG M A (execs (st :: rest) env) Q E s :=
  gExecsCons (gMono h1 (fun _ s' ⟨e, m⟩ => by subst e; exact h2 s' m) fun _ _ x => x)
theorem natSub {i j : Nat} (h : j ≤ i) : ((i : Int) - (j : Int)) = ((i - j : Nat) : Int) := by omega
theorem cutI (xs : List UInt8) (a b : Nat) : pk xs (some (a : Int)) (some (b : Int)) = cutB xs a b := by
  rw [pk_ab xs (by omega) (by omega)]; rfl
theorem dropNone {M : Model} {A : Around} {E : Value → Shared → Prop} {s : Shared} {e : PySem.Expr} {pos : Pos} {Q : Flow → Shared → Prop} (h : Q .next s) : wpAny M A (dropValue e pos .none) Q E s := by
  rw [dropValue_plain (by nofun)]; exact wpAny_pure h

set_option maxHeartbeats 4000000 in
theorem encR_spec {w : World} {A : Around} {outer : List Env} {Fs : List Addr} {s : Shared} {v : Value} {xs : List UInt8} (C : Cx A outer Fs s) (B : Bs (KH w.params) s.heap) (P : Pay s.heap v xs) (hv : ∀ a ∈ Fs, v ≠ .ref a) (hz : xs.length ≤ 1000000) :
    codeG (model PG w) A (.call (.ref 34) ⟨[v], []⟩) (fun r s' => Kp Fs s s' ∧ ∃ t, r = .ok (.ret (.bytes (encR xs).toArray t))) s := by
  refine gEnter (Fs := Fs) (x := Str.ofString "in_bytes") (u := .val v) B (B.X 34 _ rfl) rfl ⟨33, _, _, _, rfl, B.X 33 _ rfl, rfl, rfl⟩ rfl (fun L s₁ S => ?_) (by have := C.depth; show _ < 1000; omega)
  refine gExecsCons (gIf (lift (wpAny_isTrue_value (aCallName (nmU B S (u_isinstance _) b_isinstance ?_)))))
  walk_at "ev"
  refine nmU B (by assumption) (u_str _) b_str ?_
  walk_at "ev"
  refine ⟨nofun, isStrPay (by assumption) (P.of (by assumption) hv) fun s₂ S₂ => ?_⟩
  walk_at "ev"
  refine gExecsNil ?_
  refine gExecsCons (gAssignName (lift ?_))
  walk_at "ev"
  refine gExecsCons (gAssignName (gCallName (lift (nmU B (by assumption) (u_bytearray _) b_bytearray (gSplicedNil (gKeeperPlain nofun fun _ => gNewBa0 C.guards (by assumption) fun ob s₃ S₃ => ?_))))))
  walk_at "ev"
  refine gExecsCons (gAssignName (lift ?_))
  walk_at "ev"
  refine gExecsCons (gAssignName (lift ?_))
  walk_at "ev"
  refine gSeq (fun s' => St Fs s L [(Str.ofString "in_bytes_mv", .val v), (Str.ofString "out_bytes", .val (.ref ob)), (Str.ofString "idx", .int (xs.length : Nat)), (Str.ofString "search_start_idx", .int ((loopR xs xs.length).2 : Nat))] [(ob, .barr (loopR xs xs.length).1)] s') ?loop ?rest
  case loop =>
    refine gFor ?_
    walk_at "ev"
    refine payIter (by assumption) (P.of (by assumption) hv) fun it s₄ S₄ => ?_
    refine codeG_for (I := fun n s' => ∃ i, n = xs.length - i ∧ i ≤ xs.length ∧ St Fs s L [(Str.ofString "in_bytes_mv", .val v), (Str.ofString "out_bytes", .val (.ref ob)), (Str.ofString "idx", .int (i : Nat)), (Str.ofString "search_start_idx", .int ((loopR xs i).2 : Nat))] [(it, .piter v i), (ob, .barr (loopR xs i).1)] s') ?turn xs.length ⟨0, rfl, Nat.zero_le _, ?start⟩
    case start => exact S₄.names (by walk_at "names")
    case turn =>
      rintro n s₅ ⟨i, rfl, hi, S₅⟩
      have ok := okLoop xs i
      by_cases hlt : i < xs.length
      · refine payNext (c := xs.getD i 0) S₅ (P.of S₅ hv) (by walk_at "upd") (by simp [hlt]) fun t s₆ S₆ => ?_
        dsimp only
        walk_at "ev"
        have ok1 := okFlush (xs := xs) ok
        have st : loopR xs (i + 1) = noughtR xs i (xs.getD i 0) (flushR xs i (loopR xs i)) := rfl
        generalize hp : loopR xs i = p at *
        obtain ⟨out, st0⟩ := p
        obtain ⟨k1, k2, k3⟩ := ok
        obtain ⟨j1, j2, j3⟩ := ok1
        dsimp only at *
        refine gSeq (fun s' => St Fs s L [(Str.ofString "in_bytes_mv", .val v), (Str.ofString "out_bytes", .val (.ref ob)), (Str.ofString "idx", .int (i : Nat)), (Str.ofString "search_start_idx", .int ((flushR xs i (out, st0)).2 : Nat)), (Str.ofString "in_char", .int ((xs.getD i 0).toNat : Nat))] [(it, .piter v (i + 1)), (ob, .barr (flushR xs i (out, st0)).1)] s') ?f1 fun s₇ S₇ => ?f2
        case f1 =>
          refine gIf (lift ?_)
          walk_at "ev"
          by_cases hc : i - st0 = 254
          · rw [if_pos (beq_iff_eq.mpr (by omega))]
            refine gExecsCons (gExpr (gAppendE C.guards (by assumption) (by rfl) (by walk_at "mem") ?_))
            walk_at "ev"
            refine ⟨_, _, out, _, _, _, rfl, by assumption, by walk_at "upd", by decide, by decide, by omega, fun s₇ S₇ => dropNone ?_⟩
            refine gExecsCons (gAugName ?_)
            walk_at "ev"
            refine aCut ?_
            walk_at "ev"
            refine cutPay (by assumption) (P.of (by assumption) hv) (.int _ _) (.int _ _) (by omega) fun v' s₈ S₈ P₈ ap => ?_
            rw [cutI] at P₈
            refine gIadd C.guards S₈ (by walk_at "upd") P₈ (ap (ob, _) (by walk_at "mem")) (by have := cutB_length xs st0 i; simp; omega) fun s₉ S₉ => ?_
            walk_at "ev"
            refine gExecsCons (gAssignName (lift ?_))
            walk_at "ev"
            refine gExecsNil ⟨rfl, ?_⟩
            unfold flushR
            rw [if_pos hc]
            exact St.names (by assumption) (by walk_at "names")
          · rw [if_neg (fun q => hc (by have := beq_iff_eq.mp q; omega))]
            refine gExecsNil ⟨rfl, ?_⟩
            unfold flushR
            rw [if_neg hc]
            exact St.names (by assumption) (by walk_at "names")
        case f2 =>
          generalize flushR xs i (out, st0) = q at *
          obtain ⟨out1, st1⟩ := q
          dsimp only at *
          refine gSeq (fun s' => St Fs s L [(Str.ofString "in_bytes_mv", .val v), (Str.ofString "out_bytes", .val (.ref ob)), (Str.ofString "idx", .int (i : Nat)), (Str.ofString "search_start_idx", .int ((loopR xs (i + 1)).2 : Nat))] [(it, .piter v (i + 1)), (ob, .barr (loopR xs (i + 1)).1)] s') ?g1 fun s₈ S₈ => ?g2
          case g1 =>
            refine gIf (lift ?_)
            walk_at "ev"
            rw [st]
            by_cases hc : xs.getD i 0 = 0
            · rw [if_pos (beq_iff_eq.mpr (by rw [hc]; rfl))]
              refine gExecsCons (gExpr (gAppendE C.guards (by assumption) (by rfl) (by walk_at "mem") ?_))
              walk_at "ev"
              refine ⟨_, _, out1, _, _, _, rfl, by assumption, by walk_at "upd", by omega, by omega, by omega, fun s₇ S₇ => dropNone ?_⟩
              refine gExecsCons (gAugName ?_)
              walk_at "ev"
              refine aCut ?_
              walk_at "ev"
              refine cutPay (by assumption) (P.of (by assumption) hv) (.int _ _) (.int _ _) (by omega) fun v' s₈ S₈ P₈ ap => ?_
              rw [cutI] at P₈
              refine gIadd C.guards S₈ (by walk_at "upd") P₈ (ap (ob, _) (by walk_at "mem")) (by have := cutB_length xs st1 i; simp; omega) fun s₉ S₉ => ?_
              walk_at "ev"
              refine gExecsCons (gAssignName (lift ?_))
              walk_at "ev"
              refine gExecsNil ⟨rfl, ?_⟩
              unfold noughtR
              rw [if_pos hc]
              have e : ((i : Int) - (st1 : Int) + 1).toNat.toUInt8 = (i - st1 + 1).toUInt8 := by congr 1; omega
              dsimp only
              rw [← e]
              exact St.names (by assumption) (by walk_at "names")
            · rw [if_neg (fun q => hc (by have := beq_iff_eq.mp q; exact UInt8.toNat_inj.mp (by have h0 : (0 : UInt8).toNat = 0 := rfl; omega)))]
              refine gExecsNil ⟨rfl, ?_⟩
              unfold noughtR
              rw [if_neg hc]
              exact St.names (by assumption) (by walk_at "names")
          case g2 =>
            refine gExecsCons (gAugName ?_)
            walk_at "ev"
            refine lift ?_
            walk_at "ev"
            refine gExecsNil ⟨xs.length - (i + 1), by omega, i + 1, rfl, by omega, ?_⟩
            exact St.names (by assumption) (by walk_at "names")
      · obtain rfl : i = xs.length := by omega
        refine payEnd C.handled S₅ (P.of S₅ hv) (by simp) fun s₆ S₆ => ⟨rfl, S₆⟩
  case rest =>
    intro s₅ S₅
    have ok := okLoop xs xs.length
    have fin := encR.eq_def xs
    generalize hp : loopR xs xs.length = p at *
    obtain ⟨out, st0⟩ := p
    obtain ⟨k1, k2, k3⟩ := ok
    dsimp only at *
    refine gSeq (fun s' => St Fs s L [(Str.ofString "in_bytes_mv", .val v), (Str.ofString "out_bytes", .val (.ref ob)), (Str.ofString "idx", .int (xs.length : Nat)), (Str.ofString "search_start_idx", .int (st0 : Nat)), (Str.ofString "final_byte_value", .int ((lastO xs).toNat : Nat))] [(ob, .barr out)] s') (lift ?tr) fun s₆ S₆ => ?_
    case tr =>
      refine wpAny_Try_except (wpAny_execs_cons (wpAny_Assign_Name (Subscript_ ?_)))
      walk_at "ev"
      cases hl : xs.getLast? with
      | some c =>
        refine lastPay (by assumption) (P.of (by assumption) hv) hl fun t s₆ S₆ => ?_
        walk_at "ev"
        refine wpAny_execs_nil (wpAny_execs_nil ⟨rfl, ?_⟩)
        have e : lastO xs = c := by unfold lastO; rw [hl]; rfl
        rw [e]
        exact St.names (by assumption) (by walk_at "names")
      | none =>
        obtain rfl : xs = [] := List.getLast?_eq_none_iff.mp hl
        refine noLastPay C.handled (P.of (by assumption) hv) fun h' tk e hx => ?_
        refine caughtIndex C.frames C.fs C.frs C.lo B (by assumption) hx (u_IndexError _) b_IndexError fun s' S' => ?_
        refine wpAny_execs_cons (wpAny_Assign_Name ?_)
        walk_at "ev"
        refine wpAny_execs_nil ⟨rfl, ?_⟩
        exact St.names (by assumption) (by walk_at "names")
    refine gExecsCons (gAssignName (lift ?_))
    walk_at "ev"
    refine gExecsCons (gIf (lift ?_))
    walk_at "ev"
    by_cases hc : (lastO xs).toNat < xs.length - st0 + 1
    · rw [if_pos hc] at fin
      rw [if_pos (decide_eq_true (by omega))]
      refine gExecsCons (gExpr (gAppendE C.guards (by assumption) (by rfl) (by walk_at "mem") ?_))
      walk_at "ev"
      refine ⟨_, _, out, _, _, _, rfl, by assumption, by walk_at "upd", by omega, by omega, by omega, fun s₇ S₇ => dropNone ?_⟩
      refine gExecsCons (gAugName ?_)
      walk_at "ev"
      refine aCut ?_
      walk_at "ev"
      refine cutPay (by assumption) (P.of (by assumption) hv) (.int _ _) (.int _ _) (by omega) fun v' s₈ S₈ P₈ ap => ?_
      rw [cutI] at P₈
      refine gIadd C.guards S₈ (by walk_at "upd") P₈ (ap (ob, _) (by walk_at "mem")) (by have := cutB_length xs st0 xs.length; simp; omega) fun s₉ S₉ => ?_
      walk_at "ev"
      refine gExecsNil ?_
      refine gExecsCons (gReturn (lift (aCallName (nmU B (by assumption) (u_bytes _) b_bytes ?_))))
      walk_at "ev"
      refine ⟨nofun, aBytesBa (by assumption) (by walk_at "mem") (by have := cutB_length xs st0 xs.length; simp; omega) fun t s' S' => ⟨S'.kp, t, ?_⟩⟩
      rw [fin]
      have e : ((xs.length : Int) - (st0 : Int) + 1).toNat.toUInt8 = (xs.length - st0 + 1).toUInt8 := by congr 1; omega
      rw [e]
    · rw [if_neg hc] at fin
      rw [if_neg (fun q => hc (by have := of_decide_eq_true q; omega))]
      have hne : xs ≠ [] := fun q => by subst q; exact hc (by simp [lastO])
      have hlen : 0 < xs.length := List.length_pos_iff.mpr hne
      have hlt := (lastO xs).toNat_lt
      refine gExecsCons (gExpr (gAppendE C.guards (by assumption) (by rfl) (by walk_at "mem") ?_))
      walk_at "ev"
      refine ⟨_, _, out, _, _, _, rfl, by assumption, by walk_at "upd", by omega, by omega, by omega, fun s₇ S₇ => dropNone ?_⟩
      refine gExecsCons (gAugName ?_)
      walk_at "ev"
      refine aCut ?_
      walk_at "ev"
      refine cutPay (by assumption) (P.of (by assumption) hv) (.int _ _) (.int _ _) (by omega) fun v' s₈ S₈ P₈ ap => ?_
      rw [show ((xs.length : Nat) : Int) - 1 = ((xs.length - 1 : Nat) : Int) by omega, cutI] at P₈
      refine gIadd C.guards S₈ (by walk_at "upd") P₈ (ap (ob, _) (by walk_at "mem")) (by have := cutB_length xs st0 (xs.length - 1); simp; omega) fun s₉ S₉ => ?_
      walk_at "ev"
      refine gExecsNil ?_
      refine gExecsCons (gReturn (lift (aCallName (nmU B (by assumption) (u_bytes _) b_bytes ?_))))
      walk_at "ev"
      refine ⟨nofun, aBytesBa (by assumption) (by walk_at "mem") (by have := cutB_length xs st0 (xs.length - 1); simp; omega) fun t s' S' => ⟨S'.kp, t, ?_⟩⟩
      rw [fin]
      have e : ((lastO xs).toNat : Int).toNat.toUInt8 = lastO xs := by simp
      rw [e]
set_option maxHeartbeats 4000000 in
theorem encP_spec {w : World} {A : Around} {outer : List Env} {Fs : List Addr} {s : Shared} {v : Value} {xs : List UInt8} (C : Cx A outer Fs s) (B : Bs (KH w.params) s.heap) (P : Pay s.heap v xs) (hv : ∀ a ∈ Fs, v ≠ .ref a) (hz : xs.length ≤ 1000000) :
    codeG (model PG w) A (.call (.ref 61) ⟨[v], []⟩) (fun r s' => Kp Fs s s' ∧ ∃ t, r = .ok (.ret (.bytes (encP xs).toArray t))) s := by
  refine gEnter (Fs := Fs) (x := Str.ofString "in_bytes") (u := .val v) B (B.X 61 _ rfl) rfl ⟨60, _, _, _, rfl, B.X 60 _ rfl, rfl, rfl⟩ rfl (fun L s₁ S => ?_) (by have := C.depth; show _ < 1000; omega)
  refine gExecsCons (gIf (lift (wpAny_isTrue_value (aCallName (nmU B S (u_isinstance _) b_isinstance ?_)))))
  walk_at "ev"
  refine nmU B (by assumption) (u_str _) b_str ?_
  walk_at "ev"
  refine ⟨nofun, isStrPay (by assumption) (P.of (by assumption) hv) fun s₂ S₂ => ?_⟩
  walk_at "ev"
  refine gExecsNil ?_
  refine gExecsCons (gAssignName (lift ?_))
  walk_at "ev"
  refine gExecsCons (gAssignName (lift ?_))
  walk_at "ev"
  refine gExecsCons (gAssignName (gCallName (lift (nmU B (by assumption) (u_bytearray _) b_bytearray (gSplicedNil (gKeeperPlain nofun fun _ => gNewBa0 C.guards (by assumption) fun ob s₃ S₃ => ?_))))))
  walk_at "ev"
  refine gExecsCons (gAssignName (lift ?_))
  walk_at "ev"
  refine gExecsCons (gAssignName (lift ?_))
  walk_at "ev"
  refine gSeq (fun s' => St Fs s L [(Str.ofString "in_bytes_mv", .val v), (Str.ofString "out_bytes", .val (.ref ob)), (Str.ofString "idx", .int (xs.length : Nat)), (Str.ofString "search_start_idx", .int ((loopP xs xs.length).2.1 : Nat)), (Str.ofString "final_zero", .val (.bool (loopP xs xs.length).2.2))] [(ob, .barr (loopP xs xs.length).1)] s') ?loop ?rest
  case loop =>
    refine gFor ?_
    walk_at "ev"
    refine payIter (by assumption) (P.of (by assumption) hv) fun it s₄ S₄ => ?_
    refine codeG_for (I := fun n s' => ∃ i, n = xs.length - i ∧ i ≤ xs.length ∧ St Fs s L [(Str.ofString "in_bytes_mv", .val v), (Str.ofString "out_bytes", .val (.ref ob)), (Str.ofString "idx", .int (i : Nat)), (Str.ofString "search_start_idx", .int ((loopP xs i).2.1 : Nat)), (Str.ofString "final_zero", .val (.bool (loopP xs i).2.2))] [(it, .piter v i), (ob, .barr (loopP xs i).1)] s') ?turn xs.length ⟨0, rfl, Nat.zero_le _, ?start⟩
    case start => exact S₄.names (by walk_at "names")
    case turn =>
      rintro n s₅ ⟨i, rfl, hi, S₅⟩
      have ok := okLoopP xs i
      by_cases hlt : i < xs.length
      · refine payNext (c := xs.getD i 0) S₅ (P.of S₅ hv) (by walk_at "upd") (by simp [hlt]) fun t s₆ S₆ => ?_
        dsimp only
        walk_at "ev"
        have st : loopP xs (i + 1) = stepP xs i (loopP xs i) := rfl
        generalize hp : loopP xs i = p at *
        obtain ⟨out, st0, fz⟩ := p
        obtain ⟨k1, k2, k3⟩ := ok
        dsimp only at *
        refine gSeq (fun s' => St Fs s L [(Str.ofString "in_bytes_mv", .val v), (Str.ofString "out_bytes", .val (.ref ob)), (Str.ofString "idx", .int (i : Nat)), (Str.ofString "search_start_idx", .int ((loopP xs (i + 1)).2.1 : Nat)), (Str.ofString "final_zero", .val (.bool (loopP xs (i + 1)).2.2))] [(it, .piter v (i + 1)), (ob, .barr (loopP xs (i + 1)).1)] s') ?f1 fun s₇ S₇ => ?f2
        case f1 =>
          refine gIf (lift ?_)
          walk_at "ev"
          rw [st]
          unfold stepP
          by_cases hc : xs.getD i 0 = 0
          · rw [if_pos (beq_iff_eq.mpr (by rw [hc]; rfl))]
            refine gExecsCons (gAssignName (lift ?_))
            walk_at "ev"
            refine gExecsCons (gExpr (gAppendE C.guards (by assumption) (by rfl) (by walk_at "mem") ?_))
            walk_at "ev"
            refine ⟨_, _, out, _, _, _, rfl, by assumption, by walk_at "upd", by omega, by omega, by omega, fun s₇ S₇ => dropNone ?_⟩
            refine gExecsCons (gAugName ?_)
            walk_at "ev"
            refine aCut ?_
            walk_at "ev"
            refine cutPay (by assumption) (P.of (by assumption) hv) (.int _ _) (.int _ _) (by omega) fun v' s₈ S₈ P₈ ap => ?_
            rw [cutI] at P₈
            refine gIadd C.guards S₈ (by walk_at "upd") P₈ (ap (ob, _) (by walk_at "mem")) (by have := cutB_length xs st0 i; simp; omega) fun s₉ S₉ => ?_
            walk_at "ev"
            refine gExecsCons (gAssignName (lift ?_))
            walk_at "ev"
            refine gExecsNil ⟨rfl, ?_⟩
            rw [if_pos hc]
            have e : ((i : Int) - (st0 : Int) + 1).toNat.toUInt8 = (i - st0 + 1).toUInt8 := by congr 1; omega
            dsimp only
            rw [← e]
            exact St.names (by assumption) (by walk_at "names")
          · rw [if_neg (fun q => hc (by have := beq_iff_eq.mp q; exact UInt8.toNat_inj.mp (by have h0 : (0 : UInt8).toNat = 0 := rfl; omega)))]
            rw [if_neg hc]
            refine gExecsCons (gIf (lift ?_))
            walk_at "ev"
            by_cases hd : i - st0 = 253
            · rw [if_pos (beq_iff_eq.mpr (by omega)), if_pos hd]
              refine gExecsCons (gAssignName (lift ?_))
              walk_at "ev"
              refine gExecsCons (gExpr (gAppendE C.guards (by assumption) (by rfl) (by walk_at "mem") ?_))
              walk_at "ev"
              refine ⟨_, _, out, _, _, _, rfl, by assumption, by walk_at "upd", by decide, by decide, by omega, fun s₇ S₇ => dropNone ?_⟩
              refine gExecsCons (gAugName ?_)
              walk_at "ev"
              refine aCut ?_
              walk_at "ev"
              refine cutPay (by assumption) (P.of (by assumption) hv) (.int _ _) (.int _ _) (by omega) fun v' s₈ S₈ P₈ ap => ?_
              rw [show ((i : Nat) : Int) + 1 = ((i + 1 : Nat) : Int) by omega, cutI] at P₈
              refine gIadd C.guards S₈ (by walk_at "upd") P₈ (ap (ob, _) (by walk_at "mem")) (by have := cutB_length xs st0 (i + 1); simp; omega) fun s₉ S₉ => ?_
              walk_at "ev"
              refine gExecsCons (gAssignName (lift ?_))
              walk_at "ev"
              refine gExecsNil (gExecsNil ⟨rfl, ?_⟩)
              exact St.names (by assumption) (by walk_at "names")
            · rw [if_neg (fun q => hd (by have := beq_iff_eq.mp q; omega)), if_neg hd]
              refine gExecsNil (gExecsNil ⟨rfl, ?_⟩)
              exact St.names (by assumption) (by walk_at "names")
        case f2 =>
          refine gExecsCons (gAugName ?_)
          walk_at "ev"
          refine lift ?_
          walk_at "ev"
          refine gExecsNil ⟨xs.length - (i + 1), by omega, i + 1, rfl, by omega, ?_⟩
          exact St.names (by assumption) (by walk_at "names")
      · obtain rfl : i = xs.length := by omega
        refine payEnd C.handled S₅ (P.of S₅ hv) (by simp) fun s₆ S₆ => ⟨rfl, S₆⟩
  case rest =>
    intro s₅ S₅
    have ok := okLoopP xs xs.length
    have fin := encP.eq_def xs
    generalize hp : loopP xs xs.length = p at *
    obtain ⟨out, st0, fz⟩ := p
    obtain ⟨k1, k2, k3⟩ := ok
    dsimp only at *
    refine gSeq (fun s' => St Fs s L [(Str.ofString "out_bytes", .val (.ref ob))] [(ob, .barr (encP xs))] s' ∧ (encP xs).length ≤ 3000000) ?i1 fun s₆ ⟨S₆, hl⟩ => ?i2
    case i1 =>
      rw [fin]
      refine gIf (lift ?_)
      walk_at "ev"
      by_cases hc : xs.length ≠ st0
      · rw [if_pos (by rw [bne_iff_ne]; omega), if_pos (Or.inl hc)]
        refine gExecsCons (gExpr (gAppendE C.guards (by assumption) (by rfl) (by walk_at "mem") ?_))
        walk_at "ev"
        refine ⟨_, _, out, _, _, _, rfl, by assumption, by walk_at "upd", by omega, by omega, by omega, fun s₇ S₇ => dropNone ?_⟩
        refine gExecsCons (gAugName ?_)
        walk_at "ev"
        refine aCut ?_
        walk_at "ev"
        refine cutPay (by assumption) (P.of (by assumption) hv) (.int _ _) (.int _ _) (by omega) fun v' s₈ S₈ P₈ ap => ?_
        rw [cutI] at P₈
        have hcl := cutB_length xs st0 xs.length
        refine gIadd C.guards S₈ (by walk_at "upd") P₈ (ap (ob, _) (by walk_at "mem")) (by simp; omega) fun s₉ S₉ => ?_
        walk_at "ev"
        have e : ((xs.length : Int) - (st0 : Int) + 1).toNat.toUInt8 = (xs.length - st0 + 1).toUInt8 := by congr 1; omega
        rw [← e]
        refine gExecsNil ⟨rfl, St.names (by assumption) (by walk_at "names"), ?_⟩
        simp; omega
      · rw [if_neg (by rw [bne_iff_ne]; omega)]
        walk_at "ev"
        cases fz with
        | true =>
          rw [if_pos rfl, if_pos (Or.inr rfl)]
          refine gExecsCons (gExpr (gAppendE C.guards (by assumption) (by rfl) (by walk_at "mem") ?_))
          walk_at "ev"
          refine ⟨_, _, out, _, _, _, rfl, by assumption, by walk_at "upd", by omega, by omega, by omega, fun s₇ S₇ => dropNone ?_⟩
          refine gExecsCons (gAugName ?_)
          walk_at "ev"
          refine aCut ?_
          walk_at "ev"
          refine cutPay (by assumption) (P.of (by assumption) hv) (.int _ _) (.int _ _) (by omega) fun v' s₈ S₈ P₈ ap => ?_
          rw [cutI] at P₈
          have hcl := cutB_length xs st0 xs.length
          refine gIadd C.guards S₈ (by walk_at "upd") P₈ (ap (ob, _) (by walk_at "mem")) (by simp; omega) fun s₉ S₉ => ?_
          walk_at "ev"
          have e : ((xs.length : Int) - (st0 : Int) + 1).toNat.toUInt8 = (xs.length - st0 + 1).toUInt8 := by congr 1; omega
          rw [← e]
          refine gExecsNil ⟨rfl, St.names (by assumption) (by walk_at "names"), ?_⟩
          simp; omega
        | false =>
          rw [if_neg Bool.false_ne_true]
          walk_at "ev"
          rw [if_neg Bool.false_ne_true, if_neg (by simpa using hc)]
          refine gExecsNil ⟨rfl, St.names (by assumption) (by walk_at "names"), ?_⟩
          omega
    case i2 =>
      refine gExecsCons (gReturn (lift (aCallName (nmU B (by assumption) (u_bytes _) b_bytes ?_))))
      walk_at "ev"
      exact ⟨nofun, aBytesBa (by assumption) (by walk_at "mem") (by omega) fun t s' S' => ⟨S'.kp, t, rfl⟩⟩
theorem gBreak {M : Model} {A : Around} {E : Value → Shared → Prop} {s : Shared} {env : Env} {pos : Pos} {Q : Flow → Shared → Prop} (h : Q .brk s) : wpG M A (exec (.Break pos) env) Q E s := lift (wpAny_Break h)
theorem cutJ (ys : List UInt8) (i n : Nat) (h1 : 1 ≤ n) : pk ys (some ((i : Int) + 1)) (some ((i : Int) + 1 + (n : Int) - 1)) = cutB ys (i + 1) (i + n) := by
  rw [pk_ab ys (by omega) (by omega)]
  unfold cutB
  congr 2 <;> omega

set_option maxHeartbeats 4000000 in
theorem decR_spec {w : World} {A : Around} {outer : List Env} {Fs : List Addr} {s : Shared} {ys : List UInt8} {tv : Tok} (C : Cx A outer Fs s) (B : Bs (KH w.params) s.heap) (hf : Full ys) (hz : ys.length ≤ 1000000) :
    codeG (model PG w) A (.call (.ref 41) ⟨[.bytes ys.toArray tv], []⟩) (fun r s' => Kp Fs s s' ∧ ∃ t, r = .ok (.ret (.bytes (decR ys).toArray t))) s := by
  refine gEnter (Fs := Fs) (x := Str.ofString "in_bytes") (u := .bytes ys) B (B.X 41 _ rfl) rfl ⟨40, _, _, _, rfl, B.X 40 _ rfl, rfl, rfl⟩ ⟨tv, rfl⟩ (fun L s₁ S => ?_) (by have := C.depth; show _ < 1000; omega)
  refine gExecsCons (gIf (lift (wpAny_isTrue_value (aCallName (nmU B S (u_isinstance _) b_isinstance ?_)))))
  walk_at "ev"
  refine nmU B (by assumption) (u_str _) b_str ?_
  walk_at "ev"
  refine ⟨nofun, isStrPay (by assumption) (.bytes _ _) fun s₂ S₂ => ?_⟩
  walk_at "ev"
  refine gExecsNil ?_
  refine gExecsCons (gAssignName (lift ?_))
  walk_at "ev"
  refine gExecsCons (gAssignName (gCallName (lift (nmU B (by assumption) (u_bytearray _) b_bytearray (gSplicedNil (gKeeperPlain nofun fun _ => gNewBa0 C.guards (by assumption) fun ob s₃ S₃ => ?_))))))
  walk_at "ev"
  refine gExecsCons (gAssignName (lift ?_))
  walk_at "ev"
  refine gSeq (fun s' => St Fs s L [(Str.ofString "out_bytes", .val (.ref ob))] [(ob, .barr (decR ys))] s' ∧ (decR ys).length ≤ 3000000) ?i1 fun s₆ ⟨S₆, hl2⟩ => ?i2
  case i2 =>
    refine gExecsCons (gReturn (lift (aCallName (nmU B (by assumption) (u_bytes _) b_bytes ?_))))
    walk_at "ev"
    exact ⟨nofun, aBytesBa (by assumption) (by walk_at "mem") (by omega) fun t s' S' => ⟨S'.kp, t, rfl⟩⟩
  case i1 =>
    refine gIf (lift ?_)
    walk_at "ev"
    refine ⟨nofun, lenBytes (by assumption) (by omega) fun t s' S' => ?_⟩
    walk_at "ev"
    by_cases h0 : 0 < ys.length
    · rw [if_pos (decide_eq_true (by omega))]
      refine gExecsCons (gWhile ?_)
      refine codeG_while (I := fun n s' => ∃ i out, n = ys.length - i ∧ i < ys.length ∧ out ++ decR (ys.drop i) = decR ys ∧ out.length ≤ 2 * i ∧
        St Fs s L [(Str.ofString "in_bytes_mv", .bytes ys), (Str.ofString "out_bytes", .val (.ref ob)), (Str.ofString "idx", .int (i : Nat))] [(ob, .barr out)] s') ?turn ys.length ⟨0, [], rfl, h0, rfl, Nat.zero_le _, ?start⟩
      case start => exact St.names (by assumption) (by walk_at "names")
      case turn =>
        rintro m s₅ ⟨i, out, rfl, hi, hd, hol, S₅⟩
        refine wpAny_isTrue_value ?_
        walk_at "ev"
        rw [if_pos rfl]
        have hn := hf.getD hi
        have hn2 := (ys.getD i 0).toNat_lt
        have ht := decR_turn hi hn
        have hcl := cutB_length ys (i + 1) (i + (ys.getD i 0).toNat)
        refine gExecsCons (gAssignName (lift (Subscript_ ?_)))
        walk_at "ev"
        refine idxBytes (by assumption) (by omega) (by omega) (by omega) fun t s₆ S₆ => ?_
        walk_at "ev"
        rw [show ((i : Nat) : Int).toNat = i by omega] at *
        generalize hg : ys.getD i 0 = n at *
        refine gExecsCons (gIf (lift ?_))
        walk_at "ev"
        rw [if_neg (fun q => by have := beq_iff_eq.mp q; omega)]
        refine gExecsNil ?_
        refine gExecsCons (gAugName ?_)
        walk_at "ev"
        refine lift ?_
        walk_at "ev"
        refine gExecsCons (gAssignName (lift ?_))
        walk_at "ev"
        refine gExecsCons (gAssignName (lift (aCut ?_)))
        walk_at "ev"
        refine cutBytes (by assumption) (.int _ _) (.int _ _) (by omega) fun t₂ s₇ S₇ => ?_
        rw [cutJ ys i n.toNat hn]
        walk_at "ev"
        refine gExecsCons (gIf (lift ?_))
        walk_at "ev"
        refine zeroIn ?_
        walk_at "ev"
        rw [hf.cut, if_neg Bool.false_ne_true]
        refine gExecsNil ?_
        refine gExecsCons (gAugName ?_)
        walk_at "ev"
        refine gIadd C.guards (by assumption) (by walk_at "upd") (.bytes _ _) nofun (by omega) fun s₈ S₈ => ?_
        walk_at "ev"
        refine gExecsCons (gAssignName (lift ?_))
        walk_at "ev"
        refine gExecsCons (gIf (lift ?_))
        walk_at "ev"
        refine ⟨nofun, lenBytes (by assumption) (by omega) fun t₃ s₉ S₉ => ?_⟩
        walk_at "ev"
        by_cases c1 : ys.length < i + n.toNat
        · rw [if_pos c1] at ht
          rw [if_pos (decide_eq_true (by omega))]
          refine gExecsCons (gExpr (gAppendE C.guards (by assumption) (by rfl) (by walk_at "mem") ?_))
          walk_at "ev"
          refine ⟨_, _, _, _, _, _, rfl, by assumption, by walk_at "upd", by omega, by omega, by simp; omega, fun s₇ S₇ => dropNone ?_⟩
          refine gExecsCons (gBreak (gExecsNil ⟨rfl, ?_, ?_⟩))
          · rw [← hd, ht]
            have e : (out ++ cutB ys (i + 1) (i + n.toNat) ++ [((n.toNat : Nat) : Int).toNat.toUInt8]) = out ++ (cutB ys (i + 1) (i + n.toNat) ++ [n]) := by simp
            rw [← e]
            exact St.names (by assumption) (by walk_at "names")
          · rw [← hd, ht]; simp; omega
        · rw [if_neg c1] at ht
          rw [if_neg (fun q => c1 (by have := of_decide_eq_true q; omega))]
          refine gExecsCons (gIf (lift ?_))
          walk_at "ev"
          refine ⟨nofun, lenBytes (by assumption) (by omega) fun t₄ s₁₀ S₁₀ => ?_⟩
          walk_at "ev"
          by_cases c2 : ys.length = i + n.toNat
          · rw [if_pos c2] at ht
            rw [if_neg (fun q => by have := of_decide_eq_true q; omega)]
            refine gExecsCons (gBreak (gExecsNil ⟨rfl, ?_, ?_⟩))
            · rw [← hd, ht]
              exact St.names (by assumption) (by walk_at "names")
            · rw [← hd, ht]; simp; omega
          · rw [if_neg c2] at ht
            rw [if_pos (decide_eq_true (by omega))]
            refine gExecsCons (gIf (lift ?_))
            walk_at "ev"
            by_cases c3 : n.toNat < 255
            · rw [if_pos c3] at ht
              rw [if_pos (decide_eq_true (by omega))]
              refine gExecsCons (gExpr (gAppendE C.guards (by assumption) (by rfl) (by walk_at "mem") ?_))
              walk_at "ev"
              refine ⟨_, _, _, _, _, _, rfl, by assumption, by walk_at "upd", by omega, by omega, by simp; omega, fun s₇ S₇ => dropNone (gExecsNil (gExecsNil (gExecsNil (gExecsNil ?_))))⟩
              refine ⟨ys.length - (i + n.toNat), by omega, i + n.toNat, _, rfl, by omega, ?_, ?_, St.names (by assumption) (by walk_at "names")⟩
              · rw [← hd, ht]; simp
              · simp; omega
            · rw [if_neg c3] at ht
              rw [if_neg (fun q => c3 (by have := of_decide_eq_true q; omega))]
              refine gExecsNil (gExecsNil (gExecsNil (gExecsNil ?_)))
              refine ⟨ys.length - (i + n.toNat), by omega, i + n.toNat, _, rfl, by omega, ?_, ?_, St.names (by assumption) (by walk_at "names")⟩
              · rw [← hd, ht]; simp
              · simp; omega
    · obtain rfl : ys = [] := List.length_eq_zero_iff.mp (by omega)
      rw [if_neg (fun q => by have := of_decide_eq_true q; simp at this)]
      refine gExecsNil ⟨rfl, ?_, ?_⟩
      · rw [decR]; exact St.names (by assumption) (by walk_at "names")
      · rw [decR]; simp
theorem Exc.ofMade {h h' : Heap} {e : Addr} {cls : Value} {args : List Value} (x : Heap.MadeExcOf h h' e cls args) : Exc h h' e cls none := by
  obtain ⟨t, h1, _, _⟩ := x.there
  exact ⟨x.new, _, _, h1, rfl, rfl, rfl⟩
abbrev clsP : Obj := excClassObj (Str.ofString "DecodeError") (Str.ofString "DecodeError") 51 50 [.type "Exception"] [.type "Exception", .type "BaseException", .type "object"] true [] [] false none none
  (some (.ref 42)) none (some (.str (Str.ofString "DecodeError") 241)) (some (.str (Str.ofString "DecodeError") 249)) (some (.bool true)) "Exception.__new__"
theorem clsP_at {P : Params} {h : Heap} (B : Bs (KH P) h) : h.get? 51 = some clsP := B.X 51 _ rfl
theorem nsP_at {P : Params} {h : Heap} (B : Bs (KH P) h) : ∃ mN, h.Ns 50 mN ∧ mN "__init__" = none := by
  refine ⟨_, ⟨_, _, _, B.X 50 _ rfl, rfl, ?_, fun _ => rfl⟩, ?_⟩
  · intro e he
    simp at he
    rcases he with rfl | rfl | rfl | rfl | rfl <;> exact ⟨_, _, rfl⟩
  · with_unfolding_all rfl

section
variable {w : World} {A : Around} {outer : List Env} {Fs : List Addr} {s₀ s : Shared} {L f : Addr} {l : List (Str × V)} {nw : List (Addr × Sh)} {name : Str} {scope : Scope} {cd : Value}
/-- the plain reader's own refusal, out of a loop and the function -/
theorem raiseP {R : Result → Shared → Prop} {msg : Str} {np pp pos cpos : Pos} {kk : Nat} {Q : Flow → Shared → Prop} (C : Cx A outer Fs s₀) (B : Bs (KH w.params) s₀.heap) (h51 : 51 ∉ Fs) (S : St Fs s₀ L l nw s)
    (hR : ∀ e s', Kp Fs s₀ s' → Exc s₀.heap s'.heap e (.ref 51) (some .none) → R (.error (.ref e)) s') (hk : scope.kind = .function := by rfl) (hx : (envOf name scope L f cd).kindOf (Str.ofString "DecodeError_cobs_py") = some .globalImplicit := by rfl) :
    wpAny (model PG w) (A.deeper (envOf name scope L f cd)) (exec (.Raise (some (.Call (.Name (Str.ofString "DecodeError_cobs_py") np) [.Constant (.str msg) kk pp] [] cpos)) none pos) (envOf name scope L f cd)) Q
      (notedBy (model PG w) (A.deeper (envOf name scope L f cd)) (envOf name scope L f cd) (cameBackBy (model PG w) (A.deeper (envOf name scope L f cd)) (envOf name scope L f cd)
        fun e s' => wpAny (model PG w) (A.deeper (envOf name scope L f cd)) (leaving (envOf name scope L f cd) e) (fun _ s'' => R (.error e) s'') (fun e' s'' => R (.error e') s'') s')) s := by
  have hfr : (A.deeper (envOf name scope L f cd)).frames = some (envOf name scope L f cd :: outer) := by show A.frames.map _ = _; rw [C.frames]; rfl
  have hGs : framesOf (envOf name scope L f cd :: outer) = L :: Fs := by show L :: framesOf outer = _; rw [C.fs]
  obtain ⟨mN, hN, hi⟩ := nsP_at B
  refine wpAny_Raise_call_sub (C := 51) (N := 50) (nm := Str.ofString "DecodeError") (q := Str.ofString "DecodeError") (bs := [.type "Exception"]) (hdct := true) (sn := []) (sub := []) (ab := false) (col := none) (dd := none) (k0 := some (.ref 42)) (k1 := none) (k2 := some (.str (Str.ofString "DecodeError") 241)) (k3 := some (.str (Str.ofString "DecodeError") 249)) (k5 := some (.bool true)) PySem.F.excBase_Exception C.handled rfl hi (nmG B S (g_excP _) ⟨rfl, ?_⟩ hk hx)
  refine evalArgs_kw rfl ?_
  show wpAny _ _ (spliced (backTo cpos (starEach [.Constant (.str msg) kk pp] (envOf name scope L f cd)))) _ _ _
  refine wpAny_items_cons ?_
  refine wpAny_Constant_str ?_
  refine wpAny_items_nil ?_
  refine wpAny_evalAll_nil ?_
  refine ⟨rfl, by show 1 ≤ _; decide, S.keep.1 51 _ (clsP_at B) h51, S.keep.ns hN, fun h' e hm => ?_⟩
  refine noteNew (h₀ := s.heap) (cls := .ref 51) hfr ((S.grow (s' := { s with heap := h', toks := s.toks + 1 }) hm.keeps).frs C.frs hk) rfl (Kh.of hm.keeps) (Exc.ofMade hm) (fun _ q => nomatch q) fun h₁ k₁ x₁ => ?_
  have came : ∀ {E : Value → Shared → Prop} {s' : Shared}, Exc s.heap s'.heap e (.ref 51) (some (rawInt L)) → wpAny (model PG w) (A.deeper (envOf name scope L f cd)) (setFlight (.ref e) (envOf name scope L f cd).frame) (fun _ s'' => E (.ref e) s'') E s' → cameBackBy (model PG w) (A.deeper (envOf name scope L f cd)) (envOf name scope L f cd) E (.ref e) s' := by
    intro E s' x h
    obtain ⟨_, oe, vs, he, _, hd, T, _, _, h1, _⟩ := x
    unfold cameBackBy
    refine wpAny_bind (wpAny_field he hd h1 ?_)
    rw [if_neg (by simp)]
    exact h
  refine came x₁ (setFl k₁ x₁ fun h₂ k₂ _ x₂ => ?_)
  unfold leaving
  refine wpAny_bind (noteSame rfl x₂ (setFl k₂ x₂ fun h₃ k₃ _ x₃ => ?_))
  rw [hGs] at k₃
  have S₃ : St Fs s₀ L l nw { s with heap := h₃, toks := s.toks + 1 } := S.kept ⟨k₃, rfl, rfl⟩ C.lo
  refine hR e _ S₃.kp ?_
  obtain ⟨hn, oe, vs, he, hc, hd, T, oT, ts, h1, hTe, hT0, hT, hdT, h3⟩ := x₃
  have no : ∀ b, s.heap.get? b = none → s₀.heap.get? b = none := fun b q => by
    cases q' : s₀.heap.get? b with
    | none => rfl
    | some o => obtain ⟨_, w⟩ := S.keep.2 b o q'; rw [q] at w; cases w
  exact ⟨no _ hn, oe, vs, he, hc, hd, T, oT, ts, h1, hTe, no _ hT0, hT, hdT, h3⟩
end
/-- what a call of the plain reader ends with -/
def DecPost (Fs : List Addr) (s : Shared) (q : Option (List UInt8)) (r : Result) (s' : Shared) : Prop := match q with
  | some d => Kp Fs s s' ∧ ∃ t, r = .ok (.ret (.bytes d.toArray t))
  | none => ∃ e, r = .error (.ref e) ∧ Kp Fs s s' ∧ Exc s.heap s'.heap e (.ref 51) (some .none)

set_option maxHeartbeats 4000000 in
theorem decP_spec {w : World} {A : Around} {outer : List Env} {Fs : List Addr} {s : Shared} {ys : List UInt8} {tv : Tok} (C : Cx A outer Fs s) (B : Bs (KH w.params) s.heap) (h51 : 51 ∉ Fs) (hf : Full ys) (hz : ys.length ≤ 1000000) :
    codeG (model PG w) A (.call (.ref 68) ⟨[.bytes ys.toArray tv], []⟩) (fun r s' => DecPost Fs s (decP ys) r s') s := by
  refine gEnter (Fs := Fs) (x := Str.ofString "in_bytes") (u := .bytes ys) B (B.X 68 _ rfl) rfl ⟨67, _, _, _, rfl, B.X 67 _ rfl, rfl, rfl⟩ ⟨tv, rfl⟩ (fun L s₁ S => ?_) (by have := C.depth; show _ < 1000; omega)
  refine gExecsCons (gIf (lift (wpAny_isTrue_value (aCallName (nmU B S (u_isinstance _) b_isinstance ?_)))))
  walk_at "ev"
  refine nmU B (by assumption) (u_str _) b_str ?_
  walk_at "ev"
  refine ⟨nofun, isStrPay (by assumption) (.bytes _ _) fun s₂ S₂ => ?_⟩
  walk_at "ev"
  refine gExecsNil ?_
  refine gExecsCons (gAssignName (lift ?_))
  walk_at "ev"
  refine gExecsCons (gAssignName (gCallName (lift (nmU B (by assumption) (u_bytearray _) b_bytearray (gSplicedNil (gKeeperPlain nofun fun _ => gNewBa0 C.guards (by assumption) fun ob s₃ S₃ => ?_))))))
  walk_at "ev"
  refine gExecsCons (gAssignName (lift ?_))
  walk_at "ev"
  refine gSeq (fun s' => ∃ d, decP ys = some d ∧ St Fs s L [(Str.ofString "out_bytes", .val (.ref ob))] [(ob, .barr d)] s' ∧ d.length ≤ 3000000) ?i1 fun s₆ ⟨d, hdd, S₆, hl2⟩ => ?i2
  case i2 =>
    refine gExecsCons (gReturn (lift (aCallName (nmU B (by assumption) (u_bytes _) b_bytes ?_))))
    walk_at "ev"
    exact ⟨nofun, aBytesBa (by assumption) (by walk_at "mem") (by omega) fun t s' S' => by rw [hdd]; exact ⟨S'.kp, t, rfl⟩⟩
  case i1 =>
    refine gIf (lift ?_)
    walk_at "ev"
    refine ⟨nofun, lenBytes (by assumption) (by omega) fun t s' S' => ?_⟩
    walk_at "ev"
    by_cases h0 : 0 < ys.length
    · rw [if_pos (decide_eq_true (by omega))]
      refine gExecsCons (gWhile ?_)
      refine codeG_while (I := fun n s' => ∃ i out, n = ys.length - i ∧ i < ys.length ∧ (decP (ys.drop i)).map (out ++ ·) = decP ys ∧ out.length ≤ 2 * i ∧
        St Fs s L [(Str.ofString "in_bytes_mv", .bytes ys), (Str.ofString "out_bytes", .val (.ref ob)), (Str.ofString "idx", .int (i : Nat))] [(ob, .barr out)] s') ?turn ys.length ⟨0, [], rfl, h0, ?same, Nat.zero_le _, ?start⟩
      case same => show (decP ys).map _ = _; cases decP ys <;> rfl
      case start => exact St.names (by assumption) (by walk_at "names")
      case turn =>
        rintro m s₅ ⟨i, out, rfl, hi, hd, hol, S₅⟩
        refine wpAny_isTrue_value ?_
        walk_at "ev"
        rw [if_pos rfl]
        have hn := hf.getD hi
        have hn2 := (ys.getD i 0).toNat_lt
        have ht := decP_turn hi hn
        have hcl := cutB_length ys (i + 1) (i + (ys.getD i 0).toNat)
        refine gExecsCons (gAssignName (lift (Subscript_ ?_)))
        walk_at "ev"
        refine idxBytes (by assumption) (by omega) (by omega) (by omega) fun t s₆ S₆ => ?_
        walk_at "ev"
        rw [show ((i : Nat) : Int).toNat = i by omega] at *
        generalize hg : ys.getD i 0 = n at *
        refine gExecsCons (gIf (lift ?_))
        walk_at "ev"
        rw [if_neg (fun q => by have := beq_iff_eq.mp q; omega)]
        refine gExecsNil ?_
        refine gExecsCons (gAugName ?_)
        walk_at "ev"
        refine lift ?_
        walk_at "ev"
        refine gExecsCons (gAssignName (lift ?_))
        walk_at "ev"
        refine gExecsCons (gAssignName (lift (aCut ?_)))
        walk_at "ev"
        refine cutBytes (by assumption) (.int _ _) (.int _ _) (by omega) fun t₂ s₇ S₇ => ?_
        rw [cutJ ys i n.toNat hn]
        walk_at "ev"
        refine gExecsCons (gIf (lift ?_))
        walk_at "ev"
        refine zeroIn ?_
        walk_at "ev"
        rw [hf.cut, if_neg Bool.false_ne_true]
        refine gExecsNil ?_
        refine gExecsCons (gAugName ?_)
        walk_at "ev"
        refine gIadd C.guards (by assumption) (by walk_at "upd") (.bytes _ _) nofun (by omega) fun s₈ S₈ => ?_
        walk_at "ev"
        refine gExecsCons (gAssignName (lift ?_))
        walk_at "ev"
        refine gExecsCons (gIf (lift ?_))
        walk_at "ev"
        refine ⟨nofun, lenBytes (by assumption) (by omega) fun t₃ s₉ S₉ => ?_⟩
        walk_at "ev"
        by_cases c1 : ys.length < i + n.toNat
        · rw [if_pos c1] at ht
          rw [if_pos (decide_eq_true (by omega))]
          have hno : decP ys = none := by rw [← hd, ht]; rfl
          refine gExecsCons (lift (raiseP (R := fun r s' => DecPost Fs s (decP ys) r s') C B h51 (by assumption) fun e s' k x => ?_))
          rw [hno]; exact ⟨e, rfl, k, x⟩
        · rw [if_neg c1] at ht
          rw [if_neg (fun q => c1 (by have := of_decide_eq_true q; omega))]
          refine gExecsNil ?_
          refine gExecsCons (gIf (lift ?_))
          walk_at "ev"
          refine ⟨nofun, lenBytes (by assumption) (by omega) fun t₄ s₁₀ S₁₀ => ?_⟩
          walk_at "ev"
          by_cases c2 : ys.length = i + n.toNat
          · rw [if_pos c2] at ht
            rw [if_neg (fun q => by have := of_decide_eq_true q; omega)]
            refine gExecsCons (gBreak (gExecsNil ⟨rfl, _, by rw [← hd, ht]; rfl, St.names (by assumption) (by walk_at "names"), ?_⟩))
            simp; omega
          · rw [if_neg c2] at ht
            rw [if_pos (decide_eq_true (by omega))]
            refine gExecsCons (gIf (lift ?_))
            walk_at "ev"
            by_cases c3 : n.toNat < 255
            · rw [if_pos c3] at ht
              rw [if_pos (decide_eq_true (by omega))]
              refine gExecsCons (gExpr (gAppendE C.guards (by assumption) (by rfl) (by walk_at "mem") ?_))
              walk_at "ev"
              refine ⟨_, _, _, _, _, _, rfl, by assumption, by walk_at "upd", by omega, by omega, by simp; omega, fun s₇ S₇ => dropNone (gExecsNil (gExecsNil (gExecsNil ?_)))⟩
              refine ⟨ys.length - (i + n.toNat), by omega, i + n.toNat, _, rfl, by omega, ?_, ?_, St.names (by assumption) (by walk_at "names")⟩
              · rw [← hd, ht]; simp [Function.comp_def]
              · simp; omega
            · rw [if_neg c3] at ht
              rw [if_neg (fun q => c3 (by have := of_decide_eq_true q; omega))]
              refine gExecsNil (gExecsNil (gExecsNil ?_))
              refine ⟨ys.length - (i + n.toNat), by omega, i + n.toNat, _, rfl, by omega, ?_, ?_, St.names (by assumption) (by walk_at "names")⟩
              · rw [← hd, ht]; simp [Function.comp_def]
              · simp; omega
    · obtain rfl : ys = [] := List.length_eq_zero_iff.mp (by omega)
      rw [if_neg (fun q => by have := of_decide_eq_true q; simp at this)]
      refine gExecsNil ⟨rfl, [], by rw [decP], St.names (by assumption) (by walk_at "names"), by simp⟩
theorem zerosTo_eq (ns : List Int) : zerosTo ns ns.length = (zN ns).map Int.ofNat := rfl
theorem getD_ofNat (zn : List Nat) (k : Nat) : (zn.map Int.ofNat).getD k 0 = ((zn.getD k 0 : Nat) : Int) := by
  rw [List.getD_eq_getElem?_getD, List.getD_eq_getElem?_getD, List.getElem?_map]
  cases zn[k]? <;> rfl
/-- what a call of _law_parts leaves -/
structure PartsPost (Fs : List Addr) (s : Shared) (f r : List Int) (v : Value) (s' : Shared) : Prop where
  kp : Kp Fs s s'
  made : ∃ T a b oa ob, v = .ref T ∧ s'.heap.IsTuple T #[.ref a, .ref b] ∧ a ≠ b ∧ s.heap.objs.size ≤ a ∧ s.heap.objs.size ≤ b ∧ s'.heap.get? a = some oa ∧ s'.heap.get? b = some ob ∧ (Sh.ints f).Is oa ∧ (Sh.ints r).Is ob

set_option maxHeartbeats 4000000 in
theorem parts_spec {w : World} {A : Around} {outer : List Env} {Fs : List Addr} {s : Shared} {x : Addr} {vs : List Value} {kx : Nat} {ns : List Int} (C : Cx A outer Fs s) (B : Bs (KH w.params) s.heap)
    (hx : s.heap.get? x = some { cls := .type "list", data := .seq vs.toArray kx }) (hi : IntsAre vs ns) (hxF : x ∉ Fs) (hz : ns.length ≤ 1000) :
    codeG (model PG w) A (.call (.ref 73) ⟨[.ref x], []⟩) (fun r s' => ∃ v, r = .ok (.ret v) ∧ PartsPost Fs s (frontOf ns) (restOf ns) v s') s := by
  refine gEnter (Fs := Fs) (x := Str.ofString "row") (u := .val (.ref x)) B (B.X 73 _ rfl) rfl ⟨72, _, _, _, rfl, B.X 72 _ rfl, rfl, rfl⟩ rfl (fun L s₁ S => ?_) (by have := C.depth; show _ < 1000; omega)
  have hrow : ∀ {l' nw' s'}, St Fs s L l' nw' s' → s'.heap.IsList x vs.toArray := fun S' => ⟨_, S'.keep.1 x _ hx hxF, rfl, _, rfl⟩
  refine gExecsCons (gAssignName (lift ?_))
  walk_at "ev"
  refine ⟨_, _, _, _, _, _, by assumption, .nil, by decide, fun fr s₂ S₂ => ?_⟩
  walk_at "ev"
  refine gExecsCons (gAssignName (lift ?_))
  walk_at "ev"
  have hzl := zN_length ns
  refine gSeq (fun s' => St Fs s L [(Str.ofString "row", .val (.ref x)), (Str.ofString "front", .val (.ref fr)), (Str.ofString "start", .int ((partsOf ns).2 : Nat))] [(fr, .ints (partsOf ns).1)] s') ?loop ?rest
  case loop =>
    refine gFor ?_
    refine zerosComp C.handled (by assumption) (hrow (by assumption)) hi (by omega) rfl (fun Q' h => aCallName (nmU B (by assumption) (u_enumerate _) b_enumerate ?_)) fun zs s₄ S₄ => ?_
    · walk_at "ev"
      exact ⟨nofun, h⟩
    rw [zerosTo_eq] at S₄
    refine listIter S₄ (by walk_at "mem") fun it s₅ S₅ => ?_
    refine codeG_for (I := fun n s' => ∃ k, n = (zN ns).length - k ∧ k ≤ (zN ns).length ∧ St Fs s L [(Str.ofString "row", .val (.ref x)), (Str.ofString "front", .val (.ref fr)), (Str.ofString "start", .int ((partsTo ns (zN ns) k).2 : Nat))]
      [(it, .liter zs k), (zs, .ints ((zN ns).map Int.ofNat)), (fr, .ints (partsTo ns (zN ns) k).1)] s') ?turn (zN ns).length ⟨0, rfl, Nat.zero_le _, ?start⟩
    case start => exact S₅.names (by walk_at "names")
    case turn =>
      rintro n s₆ ⟨k, rfl, hk, S₆⟩
      by_cases hlt : k < (zN ns).length
      · refine listNext S₆ (by walk_at "mem") (by walk_at "upd") (by simpa using hlt) fun t s₇ S₇ => ?_
        rw [getD_ofNat]
        dsimp only
        walk_at "ev"
        have hpl := partsTo_length ns (zN ns) k
        have hpl2 : k * (2 * ns.length + 1) ≤ 1000 * 2001 := Nat.mul_le_mul (by omega) (by omega)
        have hstep : partsTo ns (zN ns) (k + 1) = partStep ns (partsTo ns (zN ns) k) ((zN ns).getD k 0) := rfl
        generalize partsTo ns (zN ns) k = p at *
        obtain ⟨f0, st⟩ := p
        generalize (zN ns).getD k 0 = z at *
        dsimp only at *
        refine gExecsCons (gAssignName (lift (aCut ?_)))
        walk_at "ev"
        refine cutListH (by assumption) (hrow (by assumption)) hi (.int _ _) (.int _ _) (by omega) fun g0 s₈ S₈ => ?_
        rw [pk_ab ns (by omega) (by omega)] at S₈
        rw [show ((st : Nat) : Int).toNat = st by omega, show ((z : Nat) : Int).toNat = z by omega] at S₈
        walk_at "ev"
        have hgl : ((ns.take z).drop st).length ≤ ns.length := by rw [List.length_drop, List.length_take]; omega
        have hst2 : partsTo ns (zN ns) (k + 1) = (f0 ++ layGap ((ns.take z).drop st), z + 1) := hstep
        generalize (ns.take z).drop st = gap0 at *
        refine gSeq (fun s' => ∃ g gap f, ¬ 254 ≤ gap.length ∧ f ++ layGap gap = f0 ++ layGap gap0 ∧ f.length + 2 * gap.length ≤ f0.length + 2 * gap0.length ∧
          St Fs s L [(Str.ofString "row", .val (.ref x)), (Str.ofString "front", .val (.ref fr)), (Str.ofString "nought", .int (z : Nat)), (Str.ofString "gap", .val (.ref g))]
            [(g, .ints gap), (it, .liter zs (k + 1)), (zs, .ints ((zN ns).map Int.ofNat)), (fr, .ints f)] s') ?w1 ?w2
        case w1 =>
          refine gWhile ?_
          refine codeG_while (I := fun n s' => ∃ g gap f, n = gap.length ∧ f ++ layGap gap = f0 ++ layGap gap0 ∧ f.length + 2 * gap.length ≤ f0.length + 2 * gap0.length ∧
            St Fs s L [(Str.ofString "row", .val (.ref x)), (Str.ofString "front", .val (.ref fr)), (Str.ofString "nought", .int (z : Nat)), (Str.ofString "gap", .val (.ref g))]
            [(g, .ints gap), (it, .liter zs (k + 1)), (zs, .ints ((zN ns).map Int.ofNat)), (fr, .ints f)] s') ?wturn gap0.length ⟨g0, gap0, f0, rfl, rfl, Nat.le_refl _, St.names (by assumption) (by walk_at "names")⟩
          case wturn =>
            rintro m s₉ ⟨g, gap, f, rfl, hf, hb, S₉⟩
            walk_at "ev"
            refine ⟨nofun, aLen (by assumption) (by walk_at "mem") (by omega) fun t s₁₀ S₁₀ => ?_⟩
            walk_at "ev"
            by_cases hc : 254 ≤ gap.length
            · rw [if_pos (decide_eq_true (by omega))]
              refine gExecsCons (gAugName ?_)
              walk_at "ev"
              refine ⟨_, _, _, _, _, _, by assumption, .cons _ _ .nil, by show 1 ≤ _; decide, fun z1 s₁₁ S₁₁ => ?_⟩
              refine aCut ?_
              walk_at "ev"
              refine cutList (by assumption) (by walk_at "mem") .none (.int _ _) (by omega) fun z2 s₁₂ S₁₂ => ?_
              rw [pk_to gap (by omega)] at S₁₂
              refine aCat (by assumption) (by walk_at "mem") (by walk_at "mem") (by simp; omega) fun z3 s₁₃ S₁₃ => ?_
              refine lift (aIExt (by assumption) (by walk_at "upd") (by walk_at "mem") (by simp; omega) fun s₁₄ S₁₄ => ?_)
              walk_at "ev"
              refine gExecsCons (gAssignName (lift (aCut ?_)))
              walk_at "ev"
              refine cutList (by assumption) (by walk_at "mem") (.int _ _) .none (by omega) fun z4 s₁₅ S₁₅ => ?_
              rw [pk_from gap (by omega)] at S₁₅
              walk_at "ev"
              refine gExecsNil ⟨(gap.drop 254).length, by simp; omega, z4, gap.drop 254, _, rfl, ?_, ?_, St.sub (St.names (by assumption) (by walk_at "names")) (by walk_at "sub")⟩
              · rw [← hf, layGap_big hc]; simp
              · simp; omega
            · rw [if_neg (fun q => hc (by have := of_decide_eq_true q; omega))]
              exact gExecsNil ⟨rfl, g, gap, f, hc, hf, hb, by assumption⟩
        case w2 =>
          rintro s₉ ⟨g, gap, f, hc, hf, hb, S₉⟩
          refine gExecsCons (gAugName ?_)
          walk_at "ev"
          refine ⟨nofun, aLen (by assumption) (by walk_at "mem") (by omega) fun t s₁₀ S₁₀ => ?_⟩
          walk_at "ev"
          refine ⟨_, _, _, _, _, _, by assumption, .cons _ _ .nil, by show 1 ≤ _; decide, fun z1 s₁₁ S₁₁ => ?_⟩
          walk_at "ev"
          refine aCat (by assumption) (by walk_at "mem") (by walk_at "mem") (by simp; omega) fun z3 s₁₃ S₁₃ => ?_
          refine lift (aIExt (by assumption) (by walk_at "upd") (by walk_at "mem") (by simp; omega) fun s₁₄ S₁₄ => ?_)
          walk_at "ev"
          refine gExecsCons (gAssignName (lift ?_))
          walk_at "ev"
          refine gExecsNil ⟨(zN ns).length - (k + 1), by omega, k + 1, rfl, hlt, ?_⟩
          rw [hst2, ← hf, layGap_small hc]
          exact St.sub (St.names (by assumption) (by walk_at "names")) (by walk_at "sub")
      · obtain rfl : k = (zN ns).length := by omega
        exact listEnd C.handled S₆ (by walk_at "mem") (by simp) fun s' S' => ⟨rfl, St.sub (St.names S' (by walk_at "names")) (by walk_at "sub")⟩
  case rest =>
    intro s₃ S₃
    have hpl := partsTo_length ns (zN ns) (zN ns).length
    have hpl2 : (zN ns).length * (2 * ns.length + 1) ≤ 1000 * 2001 := Nat.mul_le_mul (by omega) (by omega)
    have hfo : frontOf ns = (partsOf ns).1 ++ rFront (ns.drop (partsOf ns).2) := rfl
    have hro : restOf ns = rRest (ns.drop (partsOf ns).2) := rfl
    have hpl3 : (partsOf ns).1.length ≤ 1000 * 2001 := Nat.le_trans hpl hpl2
    generalize partsOf ns = p at *
    obtain ⟨f0, st⟩ := p
    dsimp only at *
    refine gExecsCons (gAssignName (lift (aCut ?_)))
    walk_at "ev"
    refine cutListH (by assumption) (hrow (by assumption)) hi (.int _ _) .none (by omega) fun g0 s₈ S₈ => ?_
    rw [pk_from ns (by omega), show ((st : Nat) : Int).toNat = st by omega] at S₈
    walk_at "ev"
    have hgl : (ns.drop st).length ≤ ns.length := by rw [List.length_drop]; omega
    generalize ns.drop st = r0 at *
    refine gSeq (fun s' => ∃ g f, f = frontOf ns ∧
      St Fs s L [(Str.ofString "front", .val (.ref fr)), (Str.ofString "rest", .val (.ref g))] [(g, .ints (restOf ns)), (fr, .ints f)] s') ?w1 ?w2
    case w1 =>
      refine gWhile ?_
      refine codeG_while (I := fun n s' => ∃ g r f, n = r.length ∧ f ++ rFront r = f0 ++ rFront r0 ∧ rRest r = rRest r0 ∧ f.length + 2 * r.length ≤ f0.length + 2 * r0.length ∧
        St Fs s L [(Str.ofString "front", .val (.ref fr)), (Str.ofString "rest", .val (.ref g))] [(g, .ints r), (fr, .ints f)] s') ?wturn r0.length ⟨g0, r0, f0, rfl, rfl, rfl, Nat.le_refl _, St.names (by assumption) (by walk_at "names")⟩
      case wturn =>
        rintro m s₉ ⟨g, gap, f, rfl, hf, hr, hb, S₉⟩
        walk_at "ev"
        refine ⟨nofun, aLen (by assumption) (by walk_at "mem") (by omega) fun t s₁₀ S₁₀ => ?_⟩
        walk_at "ev"
        by_cases hc : 254 < gap.length
        · rw [if_pos (decide_eq_true (by omega))]
          refine gExecsCons (gAugName ?_)
          walk_at "ev"
          refine ⟨_, _, _, _, _, _, by assumption, .cons _ _ .nil, by show 1 ≤ _; decide, fun z1 s₁₁ S₁₁ => ?_⟩
          refine aCut ?_
          walk_at "ev"
          refine cutList (by assumption) (by walk_at "mem") .none (.int _ _) (by omega) fun z2 s₁₂ S₁₂ => ?_
          rw [pk_to gap (by omega)] at S₁₂
          refine aCat (by assumption) (by walk_at "mem") (by walk_at "mem") (by simp; omega) fun z3 s₁₃ S₁₃ => ?_
          refine lift (aIExt (by assumption) (by walk_at "upd") (by walk_at "mem") (by simp; omega) fun s₁₄ S₁₄ => ?_)
          walk_at "ev"
          refine gExecsCons (gAssignName (lift (aCut ?_)))
          walk_at "ev"
          refine cutList (by assumption) (by walk_at "mem") (.int _ _) .none (by omega) fun z4 s₁₅ S₁₅ => ?_
          rw [pk_from gap (by omega)] at S₁₅
          walk_at "ev"
          refine gExecsNil ⟨(gap.drop 254).length, by simp; omega, z4, gap.drop 254, _, rfl, ?_, ?_, ?_, St.sub (St.names (by assumption) (by walk_at "names")) (by walk_at "sub")⟩
          · rw [← hf, rFront_big hc]; simp
          · rw [← hr, rRest_big hc]
          · simp; omega
        · rw [if_neg (fun q => hc (by have := of_decide_eq_true q; omega))]
          refine gExecsNil ⟨rfl, g, f, ?_, ?_⟩
          · rw [hfo, ← hf, rFront_small hc]; simp
          · rw [hro, ← hr, rRest_small hc]; assumption
    case w2 =>
      rintro s₉ ⟨g, f, rfl, S₉⟩
      refine gExecsCons (gReturn (lift (wpAny_Tuple ?_)))
      walk_at "ev"
      refine ⟨by show 2 ≤ _; rw [sizeLine_eq]; decide, _, rfl, ?_⟩
      have S' : St Fs s L [] [(g, .ints (restOf ns)), (fr, .ints (frontOf ns))] { s₉ with heap := s₉.heap.push { cls := .type "tuple", data := .seq [Value.ref fr, .ref g].toArray } } := St.names S₉.pushed (List.forall_mem_nil _)
      obtain ⟨ob, h1, h2, _, h4⟩ := S'.new _ (.head _)
      obtain ⟨oa, k1, k2, _, k4⟩ := S'.new _ (.tail _ (.head _))
      refine ⟨S'.kp, _, fr, g, oa, ob, rfl, ⟨_, Heap.get?_push_size _ rfl, rfl, _, rfl⟩, ?_, k4, h4, k1, h1, k2, h2⟩
      have nd := S'.nd
      simp at nd
      exact fun e => nd e.symm
section
variable {w : World} {A : Around} {E : Value → Shared → Prop} {s₀ s : Shared} {L f : Addr} {l : List (Str × V)} {nw : List (Addr × Sh)} {name : Str} {scope : Scope} {cd v : Value}
/-- the law's own place: called by the claim's caller -/
structure Lx (A : Around) (s : Shared) : Prop where
  cx : Cx A [] [] s
  depth : A.depth < 800
  units : A.units < 8000
theorem cxIn (C : Lx A s₀) (S : St [] s₀ L l nw s) (hk : scope.kind = .function := by rfl) : Cx (A.deeper (envOf name scope L f cd)) [envOf name scope L f cd] [L] s :=
  ⟨C.cx.guards, C.cx.handled, by show A.frames.map _ = _; rw [C.cx.frames]; rfl, rfl, S.frs C.cx.frs hk, fun a ha => by rw [List.mem_singleton.mp ha]; obtain ⟨_, hm, _⟩ := S.ns; exact hm.lt,
    by have := C.depth; show A.depth + 1 < 900; omega, by have := C.units; show A.units + 3 < 9000; omega⟩
theorem keptL {s' : Shared} (S : St [] s₀ L l nw s) (k : Kp [L] s s') : St [] s₀ L l nw s' := S.kept k fun _ h => nomatch h
theorem notL (h : v ≠ .ref L) : ∀ a ∈ [L], v ≠ .ref a := fun a ha => by rw [List.mem_singleton.mp ha]; exact h
theorem L51 {P : Params} (B : Bs (KH P) s₀.heap) (S : St [] s₀ L l nw s) : 51 ∉ [L] := fun h => by
  have h1 : (51 : Nat) < _ := Heap.lt_size (clsP_at B)
  have h2 : (_ : Nat) ≤ _ := S.above
  have h3 : (51 : Nat) = L := List.mem_singleton.mp h
  omega
variable {xs ys : List UInt8} {tv : Tok} {Q : Value → Shared → Prop}
theorem callEncR (C : Lx A s₀) (B : Bs (KH w.params) s₀.heap) (S : St [] s₀ L l nw s) (P : Pay s.heap v xs) (hv : v ≠ .ref L) (hz : xs.length ≤ 1000000) (h : ∀ t s', St [] s₀ L l nw s' → Q (.bytes (encR xs).toArray t) s') (hk : scope.kind = .function := by rfl) :
    wpG (model PG w) (A.deeper (envOf name scope L f cd)) (call (.ref 34) [v]) Q E s :=
  gCall (codeG_mono (encR_spec (cxIn C S hk) (S.bs B) P (notL hv) hz) fun r s' ⟨k, t, e⟩ => by subst e; exact h t s' (keptL S k))
theorem callEncP (C : Lx A s₀) (B : Bs (KH w.params) s₀.heap) (S : St [] s₀ L l nw s) (P : Pay s.heap v xs) (hv : v ≠ .ref L) (hz : xs.length ≤ 1000000) (h : ∀ t s', St [] s₀ L l nw s' → Q (.bytes (encP xs).toArray t) s') (hk : scope.kind = .function := by rfl) :
    wpG (model PG w) (A.deeper (envOf name scope L f cd)) (call (.ref 61) [v]) Q E s :=
  gCall (codeG_mono (encP_spec (cxIn C S hk) (S.bs B) P (notL hv) hz) fun r s' ⟨k, t, e⟩ => by subst e; exact h t s' (keptL S k))
theorem callDecR (C : Lx A s₀) (B : Bs (KH w.params) s₀.heap) (S : St [] s₀ L l nw s) (hf : Full ys) (hz : ys.length ≤ 1000000) (h : ∀ t s', St [] s₀ L l nw s' → Q (.bytes (decR ys).toArray t) s') (hk : scope.kind = .function := by rfl) :
    wpG (model PG w) (A.deeper (envOf name scope L f cd)) (call (.ref 41) [.bytes ys.toArray tv]) Q E s :=
  gCall (codeG_mono (decR_spec (cxIn C S hk) (S.bs B) hf hz) fun r s' ⟨k, t, e⟩ => by subst e; exact h t s' (keptL S k))
theorem callDecP (C : Lx A s₀) (B : Bs (KH w.params) s₀.heap) (S : St [] s₀ L l nw s) (hf : Full ys) (hz : ys.length ≤ 1000000) (h : ∀ d t s', decP ys = some d → St [] s₀ L l nw s' → Q (.bytes d.toArray t) s')
    (hE : ∀ e s', decP ys = none → Kp [L] s s' → Exc s.heap s'.heap e (.ref 51) (some .none) → E (.ref e) s') (hk : scope.kind = .function := by rfl) :
    wpG (model PG w) (A.deeper (envOf name scope L f cd)) (call (.ref 68) [.bytes ys.toArray tv]) Q E s :=
  gCall (codeG_mono (decP_spec (cxIn C S hk) (S.bs B) (L51 B S) hf hz) fun r s' hp => by
    unfold DecPost at hp
    cases hq : decP ys with
    | some d => rw [hq] at hp; obtain ⟨k, t, rfl⟩ := hp; exact h d t s' hq (keptL S k)
    | none => rw [hq] at hp; obtain ⟨e, rfl, k, x⟩ := hp; exact hE e s' hq k x)
theorem callParts {x : Addr} {ns : List Int} (C : Lx A s₀) (B : Bs (KH w.params) s₀.heap) (S : St [] s₀ L l nw s) (hm : (x, Sh.ints ns) ∈ nw) (hz : ns.length ≤ 1000)
    (h : ∀ T a b s', s'.heap.IsTuple T #[.ref a, .ref b] → St [] s₀ L l ((a, .ints (frontOf ns)) :: (b, .ints (restOf ns)) :: nw) s' → Q (.ref T) s') (hk : scope.kind = .function := by rfl) :
    wpG (model PG w) (A.deeper (envOf name scope L f cd)) (call (.ref 73) [.ref x]) Q E s := by
  obtain ⟨vs, k, hx, hi⟩ := S.ints hm
  obtain ⟨_, _, _, hxL, _⟩ := S.new _ hm
  refine gCall (codeG_mono (parts_spec (cxIn C S hk) (S.bs B) hx hi (fun q => hxL (List.mem_singleton.mp q)) hz) fun r s' hp => ?_)
  obtain ⟨v, rfl, kp, T, a, b, oa, ob, rfl, ht, hab, ha, hb, h1, h2, h3, h4⟩ := hp
  have S' := keptL S kp
  have lt : ∀ p ∈ nw, p.1 < s.heap.objs.size := fun p hp => let ⟨_, q, _⟩ := S.new p hp; Heap.lt_size q
  have no : ∀ z : Addr, s.heap.objs.size ≤ z → z ∉ nw.map (·.1) := fun z hz q => by
    obtain ⟨p, hp, e⟩ := List.mem_map.mp q
    exact absurd (lt p hp) (by rw [e]; exact Nat.not_lt.mpr hz)
  have hL : L < s.heap.objs.size := by obtain ⟨_, hm, _⟩ := S.ns; exact hm.lt
  have up : ∀ z : Addr, s.heap.objs.size ≤ z → z ≠ L ∧ s₀.heap.objs.size ≤ z := fun z hz => ⟨fun e => absurd hL (by rw [← e]; exact Nat.not_lt.mpr hz), Nat.le_trans S.above (Nat.le_trans (Nat.le_of_lt hL) hz)⟩
  refine h T a b s' ht ((S'.gain h2 h4 (up b hb).1 (up b hb).2 (no b hb)).gain h1 h3 (up a ha).1 (up a ha).2 ?_)
  rw [List.map_cons, List.mem_cons, not_or]
  exact ⟨hab, no a ha⟩
theorem aNeH {x y : Addr} {vs us : List Value} {ns ms : List Int} (hl : s.heap.IsList x vs.toArray) (hi : IntsAre vs ns) (hl' : s.heap.IsList y us.toArray) (hi' : IntsAre us ms) (hu : A.units + 64 < cLine) (e : ns = ms) (h : Q (.bool false) s) :
    wpAny (model PG w) A (compareOp .NotEq (.ref x) (.ref y)) Q E s := ne_intsK hl hi hl' hi' hu (by rw [decide_eq_true e]; exact h)
theorem aNeQ {x y : Addr} {ns ms : List Int} (S : St [] s₀ L l nw s) (hx : (x, Sh.ints ns) ∈ nw) (hy : (y, Sh.ints ms) ∈ nw) (hu : A.units + 64 < cLine) (e : ns = ms) (h : Q (.bool false) s) :
    wpAny (model PG w) A (compareOp .NotEq (.ref x) (.ref y)) Q E s := aNeL S hx hy hu (by rw [decide_eq_true e]; exact h)
end
theorem fnAt {P : Params} {s₀ s : Shared} {L : Addr} {l : List (Str × V)} {nw : List (Addr × Sh)} (B : Bs (KH P) s₀.heap) (S : St [] s₀ L l nw s) {a : Addr} {o : Obj} (e : (KH P).lookup a = some o) : s.heap.get? a = some o := S.keep.exact _ _ (B.X a o e)
theorem bts_toB (ns : List Int) : toB ns = bts ns := rfl
theorem aLenH {w : World} {A : Around} {E : Value → Shared → Prop} {Fs : List Addr} {s₀ s : Shared} {L : Addr} {l : List (Str × V)} {nw : List (Addr × Sh)} {Q : Value → Shared → Prop} {x : Addr} {vs : List Value} {ns : List Int} (S : St Fs s₀ L l nw s)
    (hl : s.heap.IsList x vs.toArray) (hi : IntsAre vs ns) (hf : ns.length ≤ 16777216) (h : ∀ t s', St Fs s₀ L l nw s' → Q (.int (ns.length : Nat) t) s') : wpAny (model PG w) A (call (.builtin "len") [.ref x]) Q E s :=
  len_ints_fit hl hi (by omega) (h _ _ S.toks)
set_option maxHeartbeats 8000000 in
theorem law_spec {w : World} {A : Around} {s : Shared} {x : Addr} {vs : List Value} {ns : List Int} (C : Lx A s) (B : Bs (KH w.params) s.heap)
    (hx : s.heap.IsList x vs.toArray) (hi : IntsAre vs ns) (hz : ns.length ≤ 63) (F : Facts ns) :
    codeG (model PG w) A (.call (.ref 80) ⟨[.ref x], []⟩) (fun r s' => Kp [] s s' ∧ r = .ok (.ret (.bool true))) s := by
  refine gEnter (Fs := []) (x := Str.ofString "script") (u := .val (.ref x)) B (B.X 80 _ rfl) rfl ⟨79, _, _, _, rfl, B.X 79 _ rfl, rfl, rfl⟩ rfl (fun L s₁ S => ?_) (by have := C.depth; show _ < 1000; omega)
  have hrow : ∀ {l' nw' s'}, St [] s L l' nw' s' → s'.heap.IsList x vs.toArray := fun S' => hx.at fun o q => S'.keep.exact x o q
  have hnl : (ns.take 24).length ≤ 24 := by rw [List.length_take]; omega
  have hr0 := row0_length ns
  have hre := restOf_length (row0 ns)
  have hfr := frontOf_length (row0 ns) hr0
  have hr1 := row1_length ns
  have hpl := plain1_length ns
  have hrl := rest1_length ns
  refine gExecsCons (gAssignName (lift (aCut ?_)))
  walk_at "ev"
  refine cutListH (by assumption) (hrow (by assumption)) hi .none (.int _ _) (by omega) fun nb s₂ S₂ => ?_
  rw [pk_to ns (by omega)] at S₂
  walk_at "ev"
  refine gExecsCons (gAssignName (lift ?_))
  walk_at "ev"
  refine ⟨_, _, _, _, _, _, by assumption, .nil, by decide, fun ra s₃ S₃ => ?_⟩
  walk_at "ev"
  refine gSeq (fun s' => St [] s L [(Str.ofString "script", .val (.ref x)), (Str.ofString "numbers", .val (.ref nb)), (Str.ofString "row", .val (.ref ra))] [(ra, .ints (rowTo (ns.take 24) (ns.take 24).length)), (nb, .ints (ns.take 24))] s') ?loop ?a1
  case loop =>
    refine gFor ?_
    walk_at "ev"
    refine listIter (by assumption) (by walk_at "mem") fun it s₅ S₅ => ?_
    refine codeG_for (I := fun n s' => ∃ k, n = (ns.take 24).length - k ∧ k ≤ (ns.take 24).length ∧ St [] s L [(Str.ofString "script", .val (.ref x)), (Str.ofString "numbers", .val (.ref nb)), (Str.ofString "row", .val (.ref ra))]
      [(it, .liter nb k), (ra, .ints (rowTo (ns.take 24) k)), (nb, .ints (ns.take 24))] s') ?turn (ns.take 24).length ⟨0, rfl, Nat.zero_le _, S₅.names (by walk_at "names")⟩
    case turn =>
      rintro n s₆ ⟨k, rfl, hk, S₆⟩
      by_cases hlt : k < (ns.take 24).length
      · refine listNext S₆ (by walk_at "mem") (by walk_at "upd") hlt fun t s₇ S₇ => ?_
        dsimp only
        walk_at "ev"
        have hrl := rowTo_length (ns.take 24) k
        have hll := laid_length ((ns.take 24).getD k 0)
        have hst : rowTo (ns.take 24) (k + 1) = rowTo (ns.take 24) k ++ laid ((ns.take 24).getD k 0) := rfl
        generalize (ns.take 24).getD k 0 = n at *
        refine gExecsCons (gAugName ?_)
        walk_at "ev"
        refine ⟨_, _, _, _, _, _, by assumption, .cons _ _ .nil, by show 1 ≤ _; decide, fun z1 s₁₁ S₁₁ => ?_⟩
        walk_at "ev"
        have hm0 : 0 ≤ (n.fdiv 256).fmod 300 := Int.fmod_nonneg_of_pos _ (by decide)
        have hm1 : (n.fdiv 256).fmod 300 < 300 := Int.fmod_lt_of_pos _ (by decide)
        by_cases hc : 0 < n.fmod 256
        · rw [if_pos (decide_eq_true hc)]
          walk_at "ev"
          refine aRep (by assumption) (by walk_at "mem") (by omega) (by omega) fun z2 s₁₂ S₁₂ => ?_
          have hl : laid n = List.replicate ((n.fdiv 256).fmod 300 + 1).toNat (n.fmod 256) := by unfold laid; rw [if_pos hc]
          rw [← hl] at S₁₂
          refine lift (aIExt (by assumption) (by walk_at "upd") (by walk_at "mem") (by omega) fun s₁₄ S₁₄ => ?_)
          walk_at "ev"
          refine gExecsNil ⟨(ns.take 24).length - (k + 1), by omega, k + 1, rfl, hlt, ?_⟩
          rw [hst]
          exact St.sub (St.names (by assumption) (by walk_at "names")) (by walk_at "sub")
        · rw [if_neg (fun q => hc (of_decide_eq_true q))]
          walk_at "ev"
          refine aRep (by assumption) (by walk_at "mem") (by omega) (by omega) fun z2 s₁₂ S₁₂ => ?_
          have hl : laid n = List.replicate (1 : Int).toNat (n.fmod 256) := by unfold laid; rw [if_neg hc]
          rw [← hl] at S₁₂
          refine lift (aIExt (by assumption) (by walk_at "upd") (by walk_at "mem") (by omega) fun s₁₄ S₁₄ => ?_)
          walk_at "ev"
          refine gExecsNil ⟨(ns.take 24).length - (k + 1), by omega, k + 1, rfl, hlt, ?_⟩
          rw [hst]
          exact St.sub (St.names (by assumption) (by walk_at "names")) (by walk_at "sub")
      · obtain rfl : k = (ns.take 24).length := by omega
        exact listEnd C.cx.handled S₆ (by walk_at "mem") (by simp) fun s' S' => ⟨rfl, S'⟩
  intro s₄ S₄
  have hrt := rowTo_length (ns.take 24) (ns.take 24).length
  refine gExecsCons (gAssignName (lift (aCut ?_)))
  walk_at "ev"
  refine cutList (by assumption) (by walk_at "mem") .none (.int _ _) (by omega) fun rw s₅ S₅ => ?_
  rw [pk_to _ (by omega)] at S₅
  have S₅ : St [] s L _ ((rw, .ints (row0 ns)) :: _) s₅ := S₅
  walk_at "ev"
  refine gExecsCons (gAssignTuple (gCallName (lift (nmG B (by assumption) (g_parts _) (lift (wpAny_items_cons (nmV (by assumption) (by rfl) (wpAny_items_nil (gKeeperFunc (fnAt B (by assumption) rfl) rfl fun _ => ?_)))))))))
  refine callParts C B (by assumption) (by walk_at "mem") (by omega) fun T fr rs s₆ ht S₆ => ?_
  refine wpAny_assign_Tuple C.cx.handled ht rfl rfl fun h₇ hx₇ => ?_
  have S₇ := S₆.grow (s' := { s₆ with heap := h₇ }) fun b o q => hx₇ b o (Nat.ne_of_lt (Heap.lt_size q)) q
  refine wpAny_bind (wpAny_holding (wpAny_assign_Name (stV S₇ fun s₈ S₈ => ?_)))
  refine wpAny_bind (wpAny_holding (wpAny_assign_Name (stV S₈ fun s₉ S₉ => wpAny_pure ?_)))
  have S₉ : St [] s L [(Str.ofString "script", .val (.ref x)), (Str.ofString "numbers", .val (.ref nb)), (Str.ofString "row", .val (.ref rw)), (Str.ofString "front", .val (.ref fr)), (Str.ofString "rest", .val (.ref rs))]
    [(fr, .ints (frontOf (row0 ns))), (rs, .ints (restOf (row0 ns))), (rw, .ints (row0 ns)), (nb, .ints (ns.take 24))] s₉ := St.sub (St.names S₉ (by walk_at "names")) (by walk_at "sub")
  clear S₇ S₈ hx₇ ht S₆
  refine gExecsCons (gAssignName (lift ?_))
  walk_at "ev"
  refine ⟨nofun, aLen (by assumption) (by walk_at "mem") (by omega) fun t s₁₀ S₁₀ => ?_⟩
  walk_at "ev"
  refine gSeq (fun s' => St [] s L [(Str.ofString "script", .val (.ref x)), (Str.ofString "row", .val (.ref rw)), (Str.ofString "front", .val (.ref fr)), (Str.ofString "rest", .val (.ref rs)), (Str.ofString "size", .int ((restOf (row0 ns)).length : Nat))]
    [(fr, .ints (frontOf (row0 ns))), (rs, .ints (rest1 ns)), (rw, .ints (row1 ns)), (nb, .ints (ns.take 24))] s') ?last ?a2
  case last =>
    refine gIf (lift ?_)
    walk_at "ev"
    by_cases h0 : 0 < (restOf (row0 ns)).length
    · rw [if_pos (decide_eq_true (by omega))]
      have hnp := nums_pos h0
      have hrp := row0_pos h0
      refine gExecsCons (lift (wpAny_Assign_Subscript (Subscript_ ?_)))
      walk_at "ev"
      refine Subscript_ ?_
      walk_at "ev"
      refine lastList (by assumption) (by walk_at "mem") h0 (by omega) fun t₁ => ?_
      walk_at "ev"
      refine ⟨_, _, _, _, _, _, by assumption, .cons _ _ (.cons _ _ (.cons _ _ (.cons _ _ .nil))), by show 4 ≤ _; decide, fun q s₁₁ S₁₁ => ?_⟩
      walk_at "ev"
      refine Subscript_ ?_
      walk_at "ev"
      refine lastList (by assumption) (by walk_at "mem") hnp (by omega) fun t₂ => ?_
      walk_at "ev"
      have hm0 : 0 ≤ (((ns.take 24).getLastD 0).fdiv 76800).fmod 4 := Int.fmod_nonneg_of_pos _ (by decide)
      have hm1 : (((ns.take 24).getLastD 0).fdiv 76800).fmod 4 < 4 := Int.fmod_lt_of_pos _ (by decide)
      refine idxList (by assumption) (by walk_at "mem") hm0 (by show _ < (4 : Int); exact hm1) (by show 4 ≤ _; decide) fun t₃ => ?_
      walk_at "ev"
      refine setLast (by assumption) (by walk_at "upd") h0 (by omega) fun s₁₂ S₁₂ => ?_
      have e1 : rest1 ns = (restOf (row0 ns)).dropLast ++ [lastIn ns] := by unfold rest1; rw [if_pos h0]
      have e2 : row1 ns = (row0 ns).dropLast ++ [(rest1 ns).getLastD 0] := by unfold row1; rw [if_pos h0]
      change St [] s L _ ((q, _) :: (fr, _) :: (rs, Sh.ints ((restOf (row0 ns)).dropLast ++ [lastIn ns])) :: _) s₁₂ at S₁₂
      rw [← e1] at S₁₂
      refine gExecsCons (lift (wpAny_Assign_Subscript (Subscript_ ?_)))
      walk_at "ev"
      refine lastList (by assumption) (by walk_at "mem") (by omega) (by omega) fun t₄ => ?_
      walk_at "ev"
      refine setLast (by assumption) (by walk_at "upd") hrp (by omega) fun s₁₄ S₁₄ => ?_
      rw [← e2] at S₁₄
      exact gExecsNil ⟨rfl, St.sub (St.names (by assumption) (by walk_at "names")) (by walk_at "sub")⟩
    · rw [if_neg (fun q => h0 (by have := of_decide_eq_true q; omega))]
      have e1 : rest1 ns = restOf (row0 ns) := by unfold rest1; rw [if_neg h0]
      have e2 : row1 ns = row0 ns := by unfold row1; rw [if_neg h0]
      rw [e1, e2]
      exact gExecsNil ⟨rfl, St.names (by assumption) (by walk_at "names")⟩
  intro s₁₀ S₁₀
  clear S₉ S₅ S₄ S₃ S₂ S
  refine gSeq (fun s' => St [] s L [(Str.ofString "short", .val (.bool (short1 ns))), (Str.ofString "script", .val (.ref x)), (Str.ofString "row", .val (.ref rw)), (Str.ofString "front", .val (.ref fr)), (Str.ofString "rest", .val (.ref rs)), (Str.ofString "size", .int ((restOf (row0 ns)).length : Nat))]
    [(fr, .ints (frontOf (row0 ns))), (rs, .ints (rest1 ns)), (rw, .ints (row1 ns)), (nb, .ints (ns.take 24))] s') ?short ?a3
  case short =>
    refine gAssignName (lift (wpAny_And2 ?_))
    walk_at "ev"
    by_cases h0 : 0 < (restOf (row0 ns)).length
    · rw [if_pos (decide_eq_true (by omega))]
      walk_at "ev"
      refine Subscript_ ?_
      walk_at "ev"
      refine lastList (by assumption) (by walk_at "mem") (by omega) (by omega) fun t₄ => ?_
      walk_at "ev"
      have e : short1 ns = decide (((restOf (row0 ns)).length : Int) < (rest1 ns).getLastD 0) := by unfold short1; rw [decide_eq_true h0]; rfl
      rw [e]
      exact ⟨rfl, by assumption⟩
    · rw [if_neg (fun q => h0 (by have := of_decide_eq_true q; omega))]
      walk_at "ev"
      have e : short1 ns = decide ((0 : Int) < ((restOf (row0 ns)).length : Int)) := by
        rw [show decide ((0 : Int) < ((restOf (row0 ns)).length : Int)) = false from decide_eq_false (by omega)]
        unfold short1; rw [decide_eq_false h0]; rfl
      rw [e]
      exact ⟨rfl, by assumption⟩
  intro s₁₁ S₁₁
  refine gExecsCons (gAssignName (lift ?_))
  walk_at "ev"
  refine ⟨_, _, _, _, _, _, by assumption, .cons _ _ .nil, by show 1 ≤ _; decide, fun z1 s₁₂ S₁₂ => ?_⟩
  refine aCat (by assumption) (by walk_at "mem") (by walk_at "mem") (by simp; omega) fun z3 s₁₃ S₁₃ => ?_
  walk_at "ev"
  refine aCat (by assumption) (by walk_at "mem") (by walk_at "mem") (by simp; omega) fun pl s₁₄ S₁₄ => ?_
  walk_at "ev"
  have S₁₅ : St [] s L [(Str.ofString "plain", .val (.ref pl)), (Str.ofString "short", .val (.bool (short1 ns))), (Str.ofString "script", .val (.ref x)), (Str.ofString "row", .val (.ref rw)), (Str.ofString "front", .val (.ref fr)), (Str.ofString "rest", .val (.ref rs))]
    [(pl, .ints (plain1 ns)), (fr, .ints (frontOf (row0 ns))), (rs, .ints (rest1 ns)), (rw, .ints (row1 ns)), (nb, .ints (ns.take 24))] _ := St.sub (St.names (by assumption) (by walk_at "names")) (by walk_at "sub")
  clear S₁₀ S₁₁ S₁₂ S₁₃ S₁₄
  refine gSeq (fun s' => ∃ rd c sh2, (∀ {l' nw' s'}, St [] s L l' nw' s' → (c, sh2) ∈ nw' → (pl, Sh.ints (plain1 ns)) ∈ nw' → ∃ us, s'.heap.IsList rd us.toArray ∧ IntsAre us (reduced1 ns)) ∧
    St [] s L [(Str.ofString "reduced", .val (.ref rd)), (Str.ofString "plain", .val (.ref pl)), (Str.ofString "short", .val (.bool (short1 ns))), (Str.ofString "script", .val (.ref x)), (Str.ofString "row", .val (.ref rw))]
    [(pl, .ints (plain1 ns)), (c, sh2), (rw, .ints (row1 ns)), (nb, .ints (ns.take 24))] s') ?red ?a4
  case red =>
    refine gAssignName (lift ?_)
    walk_at "ev"
    by_cases hs : short1 ns = true
    · rw [if_pos hs]
      have h0 : 0 < (restOf (row0 ns)).length := by unfold short1 at hs; simp at hs; omega
      walk_at "ev"
      refine Subscript_ ?_
      walk_at "ev"
      refine lastList (by assumption) (by walk_at "mem") (by omega) (by omega) fun t₄ => ?_
      walk_at "ev"
      refine ⟨_, _, _, _, _, _, by assumption, .cons _ _ .nil, by show 1 ≤ _; decide, fun z1 s₁₂ S₁₂ => ?_⟩
      refine aCat (by assumption) (by walk_at "mem") (by walk_at "mem") (by simp; omega) fun z3 s₁₃ S₁₃ => ?_
      refine aCut ?_
      walk_at "ev"
      refine cutList (by assumption) (by walk_at "mem") .none (.int _ _) (by omega) fun z4 s₁₄ S₁₄ => ?_
      rw [pk_most] at S₁₄
      refine aCat (by assumption) (by walk_at "mem") (by walk_at "mem") (by simp; omega) fun rd s₁₅ S₁₅ => ?_
      have e : reduced1 ns = (frontOf (row0 ns) ++ [(rest1 ns).getLastD 0]) ++ (rest1 ns).dropLast := by unfold reduced1; rw [if_pos hs]
      rw [← e] at S₁₅
      walk_at "ev"
      refine ⟨rfl, rd, rd, .ints (reduced1 ns), fun S' h1 _ => S'.isList h1, ?_⟩
      refine St.perm (St.sub (St.names (by assumption) (by walk_at "names")) (nw' := [(rd, .ints (reduced1 ns)), (pl, .ints (plain1 ns)), (rw, .ints (row1 ns)), (nb, .ints (ns.take 24))]) (by walk_at "sub")) (List.Perm.swap _ _ _)
    · rw [if_neg hs]
      have e : reduced1 ns = plain1 ns := by unfold reduced1; rw [if_neg hs]
      walk_at "ev"
      refine ⟨rfl, pl, rs, .ints (rest1 ns), fun S' _ h2 => by rw [e]; exact S'.isList h2, ?_⟩
      exact St.sub (St.names (by assumption) (by walk_at "names")) (by walk_at "sub")
  rintro s₁₆ ⟨rd, c, sh2, hred, S₁₆⟩
  clear S₁₅
  refine gSeq (fun s' => ∃ v b sh, (∀ {l' nw' s'}, St [] s L l' nw' s' → (b, sh) ∈ nw' → Pay s'.heap v (bts (row1 ns)) ∧ v ≠ .ref L) ∧
    St [] s L [(Str.ofString "given", .val v), (Str.ofString "reduced", .val (.ref rd)), (Str.ofString "plain", .val (.ref pl)), (Str.ofString "short", .val (.bool (short1 ns))), (Str.ofString "row", .val (.ref rw))]
    [(pl, .ints (plain1 ns)), (c, sh2), (rw, .ints (row1 ns)), (b, sh)] s') ?given ?a5
  case given =>
    refine gAssignName (gIfExp (lift ?_))
    walk_at "ev"
    refine ⟨nofun, aLenH (by assumption) (hrow (by assumption)) hi (by omega) fun t s₁₇ S₁₇ => ?_⟩
    walk_at "ev"
    split
    · refine lift (aCallName (nmU B (by assumption) (u_bytes _) b_bytes ?_))
      walk_at "ev"
      refine ⟨nofun, aBytesL C.cx.handled (by assumption) (by walk_at "mem") F.inRow (by omega) fun t s₁₈ S₁₈ => ?_⟩
      refine stV S₁₈ fun s₁₉ S₁₉ => ?_
      exact ⟨rfl, _, nb, .ints (ns.take 24), fun _ _ => ⟨.bytes _ _, nofun⟩, St.names (by assumption) (by walk_at "names")⟩
    · refine gCallName (lift (nmU B (by assumption) (u_bytearray _) b_bytearray (lift ?_)))
      walk_at "ev"
      refine gKeeperPlain nofun fun _ => gNewBaL C.cx.guards (by assumption) (by walk_at "mem") F.inRow (by omega) fun b s₁₈ S₁₈ => ?_
      refine stV S₁₈ fun s₁₉ S₁₉ => ?_
      refine ⟨rfl, _, b, .barr (toB (row1 ns)), fun S' hm => ⟨.barr (S'.barr hm), fun e => ?_⟩, ?_⟩
      · obtain ⟨_, _, _, hL, _⟩ := S'.new _ hm
        exact hL (Value.ref.inj e)
      · exact St.perm (St.sub (St.names (by assumption) (by walk_at "names")) (nw' := [(b, .barr (toB (row1 ns)))] ++ [(pl, .ints (plain1 ns)), (c, sh2), (rw, .ints (row1 ns))]) (by walk_at "sub")) List.perm_append_comm
  rintro s₁₇ ⟨v, b, sh, hpay, S₁₇⟩
  clear S₁₆
  have hxl : (bts (row1 ns)).length ≤ 520 := by unfold bts; rw [List.length_map]; exact hr1
  have hel := encR_length (bts (row1 ns))
  have hepl := encP_length (bts (row1 ns))
  have hbpl : (bts (plain1 ns)).length ≤ 1041 := by
    unfold bts
    rw [List.length_map, ← F.eP]
    unfold octs
    rw [List.length_map]; omega
  have hun : (A.deeper (envOf (Str.ofString "law") default L 80 (.ref 79))).units + 64 < cLine := by have := C.units; show A.units + 3 + 64 < 9900; omega
  refine gExecsCons (gAssignName (gCallName (lift (nmG B (by assumption) (g_encR _) (lift (wpAny_items_cons (nmV (by assumption) (by rfl) (wpAny_items_nil (gKeeperFunc (fnAt B (by assumption) rfl) rfl fun _ => ?_)))))))))
  refine callEncR C B (by assumption) (hpay (by assumption) (by walk_at "mem")).1 (hpay (by assumption) (by walk_at "mem")).2 (by omega) fun t₁ s₁₈ S₁₈ => ?_
  refine stB S₁₈ fun s₁₉ S₁₉ => ?_
  clear S₁₇ S₁₈
  refine gSeq (fun s' => St [] s L [(Str.ofString "written", .bytes (encR (bts (row1 ns)))), (Str.ofString "given", .val v), (Str.ofString "plain", .val (.ref pl)), (Str.ofString "short", .val (.bool (short1 ns))), (Str.ofString "row", .val (.ref rw))]
    [(pl, .ints (plain1 ns)), (rw, .ints (row1 ns)), (b, sh)] s') ?ask1 ?a6
  case ask1 =>
    refine gIf (lift ?_)
    walk_at "ev"
    refine aCallName (nmU B (by assumption) (u_isinstance _) b_isinstance ?_)
    walk_at "ev"
    refine nmU B (by assumption) (u_bytes _) b_bytes ?_
    walk_at "ev"
    refine ⟨nofun, isBytes ?_⟩
    walk_at "ev"
    rw [if_neg (by decide)]
    walk_at "ev"
    refine aCallName (nmU B (by assumption) (u_list _) b_list ?_)
    walk_at "ev"
    refine ⟨nofun, aListOf C.cx.handled (by assumption) (.bytes _ _) (by omega) fun z s₂₀ S₂₀ => ?_⟩
    walk_at "ev"
    obtain ⟨us, hl', hi'⟩ := hred S₂₀ (by walk_at "mem") (by walk_at "mem")
    obtain ⟨uz, hlz, hiz⟩ := S₂₀.isList (.head _)
    refine aNeH hlz hiz hl' hi' hun F.eR ?_
    walk_at "ev"
    rw [if_neg (by decide)]
    walk_at "ev"
    rw [if_neg (by decide)]
    exact gExecsNil ⟨rfl, St.sub (St.names (by assumption) (by walk_at "names")) (by walk_at "sub")⟩
  intro s₂₀ S₂₀
  clear S₁₉
  refine gSeq (fun s' => St [] s L [(Str.ofString "written", .bytes (encR (bts (row1 ns)))), (Str.ofString "plain", .val (.ref pl)), (Str.ofString "short", .val (.bool (short1 ns))), (Str.ofString "row", .val (.ref rw))]
    [(pl, .ints (plain1 ns)), (rw, .ints (row1 ns))] s') ?ask2 ?a7
  case ask2 =>
    refine gIf (gTrueOr (gOrCons (gTrueCompare1 (gCallName (lift (nmU B (by assumption) (u_list _) b_list (gItemsCons ?_)))))))
    refine gCallName (lift (nmG B (by assumption) (g_encP _) (lift (wpAny_items_cons (nmV (by assumption) (by rfl) (wpAny_items_nil (gKeeperFunc (fnAt B (by assumption) rfl) rfl fun _ => ?_)))))))
    refine callEncP C B (by assumption) (hpay (by assumption) (by walk_at "mem")).1 (hpay (by assumption) (by walk_at "mem")).2 (by omega) fun t₂ s₂₁ S₂₁ => ?_
    refine gItemsNil (gKeeperPlain nofun fun _ => lift (aListOf C.cx.handled S₂₁ (.bytes _ _) (by omega) fun z s₂₂ S₂₂ => ?_))
    refine lift (nmV S₂₂ (by rfl) (lift (aNeQ S₂₂ (by walk_at "mem") (by walk_at "mem") hun F.eP (lift (wpAny_truthy_bool ?_)))))
    rw [if_neg (by decide)]
    refine gOrCons (lift ?_)
    walk_at "ev"
    refine aCallName (nmU B (by assumption) (u_list _) b_list ?_)
    walk_at "ev"
    refine ⟨nofun, aListOf C.cx.handled (by assumption) (hpay (by assumption) (by walk_at "mem")).1 (by omega) fun z' s₂₃ S₂₃ => ?_⟩
    walk_at "ev"
    refine aNeQ S₂₃ (by walk_at "mem") (by walk_at "mem") hun F.back ?_
    walk_at "ev"
    rw [if_neg (by decide)]
    refine gOrNil ?_
    rw [if_neg (by decide)]
    exact gExecsNil ⟨rfl, St.sub (St.names (by assumption) (by walk_at "names")) (by walk_at "sub")⟩
  intro s₂₁ S₂₁
  clear S₂₀
  refine gExecsCons (gAssignName (gCallName (lift (nmG B (by assumption) (g_decR _) (lift (wpAny_items_cons (nmB (by assumption) (by rfl) fun t₃ => wpAny_items_nil (gKeeperFunc (fnAt B (by assumption) rfl) rfl fun _ => ?_))))))))
  refine callDecR C B S₂₁ F.fullR (by omega) fun t₄ s₂₂ S₂₂ => ?_
  rw [F.decR1]
  refine stB S₂₂ fun s₂₃ S₂₃ => ?_
  clear S₂₁ S₂₂
  refine gSeq (fun s' => St [] s L [(Str.ofString "written", .bytes (encR (bts (row1 ns)))), (Str.ofString "plain", .val (.ref pl)), (Str.ofString "short", .val (.bool (short1 ns))), (Str.ofString "row", .val (.ref rw))]
    [(pl, .ints (plain1 ns)), (rw, .ints (row1 ns))] s') ?ask3 ?a8
  case ask3 =>
    refine gIf (gTrueOr (gOrCons (lift ?_)))
    walk_at "ev"
    refine aCallName (nmU B (by assumption) (u_isinstance _) b_isinstance ?_)
    walk_at "ev"
    refine nmU B (by assumption) (u_bytes _) b_bytes ?_
    walk_at "ev"
    refine ⟨nofun, isBytes ?_⟩
    walk_at "ev"
    rw [if_neg (by decide)]
    refine gOrCons (lift ?_)
    walk_at "ev"
    refine aCallName (nmU B (by assumption) (u_list _) b_list ?_)
    walk_at "ev"
    refine ⟨nofun, aListOf C.cx.handled (by assumption) (.bytes _ _) (by omega) fun z s₂₄ S₂₄ => ?_⟩
    walk_at "ev"
    refine aNeQ S₂₄ (by walk_at "mem") (by walk_at "mem") hun F.back ?_
    walk_at "ev"
    rw [if_neg (by decide)]
    refine gOrCons (gTrueCompare1 (gCallName (lift (nmU B (by assumption) (u_list _) b_list (gItemsCons ?_)))))
    refine gCallName (lift (nmG B (by assumption) (g_decR _) (lift (wpAny_items_cons (aCallName (nmU B (by assumption) (u_bytes _) b_bytes ?_))))))
    walk_at "ev"
    refine ⟨nofun, aBytesL C.cx.handled (by assumption) (by walk_at "mem") F.inPlain (by omega) fun t₅ s₂₅ S₂₅ => ?_⟩
    refine wpAny_items_nil (gKeeperFunc (fnAt B (by assumption) rfl) rfl fun _ => ?_)
    refine callDecR (ys := bts (plain1 ns)) C B S₂₅ F.fullP (by omega) fun t₆ s₂₆ S₂₆ => ?_
    rw [F.decR2]
    refine gItemsNil (gKeeperPlain nofun fun _ => lift (aListOf C.cx.handled S₂₆ (.bytes _ _) (by omega) fun z' s₂₇ S₂₇ => ?_))
    refine lift (nmV S₂₇ (by rfl) (lift (aNeQ S₂₇ (by walk_at "mem") (by walk_at "mem") hun F.back (lift (wpAny_truthy_bool ?_)))))
    rw [if_neg (by decide)]
    refine gOrNil ?_
    rw [if_neg (by decide)]
    exact gExecsNil ⟨rfl, St.sub (St.names (by assumption) (by walk_at "names")) (by walk_at "sub")⟩
  intro s₂₄ S₂₄
  clear S₂₃
  refine gSeq (fun s' => St [] s L [(Str.ofString "written", .bytes (encR (bts (row1 ns)))), (Str.ofString "short", .val (.bool (short1 ns)))] [] s') ?ask4 ?a9
  case ask4 =>
    refine gIf (gTrueCompare1 (gCallName (lift (nmU B (by assumption) (u_list _) b_list (gItemsCons ?_)))))
    refine gCallName (lift (nmG B (by assumption) (g_decP _) (lift (wpAny_items_cons (aCallName (nmU B (by assumption) (u_bytes _) b_bytes ?_))))))
    walk_at "ev"
    refine ⟨nofun, aBytesL C.cx.handled (by assumption) (by walk_at "mem") F.inPlain (by omega) fun t₅ s₂₅ S₂₅ => ?_⟩
    refine wpAny_items_nil (gKeeperFunc (fnAt B (by assumption) rfl) rfl fun _ => ?_)
    refine callDecP (ys := bts (plain1 ns)) C B S₂₅ F.fullP (by omega) (fun d t₆ s₂₆ hd S₂₆ => ?_) fun e s' hno => absurd (F.decP1.symm.trans hno) nofun
    obtain rfl : bts (row1 ns) = d := Option.some.inj (F.decP1.symm.trans hd)
    refine gItemsNil (gKeeperPlain nofun fun _ => lift (aListOf C.cx.handled S₂₆ (.bytes _ _) (by omega) fun z' s₂₇ S₂₇ => ?_))
    refine lift (nmV S₂₇ (by rfl) (lift (aNeQ S₂₇ (by walk_at "mem") (by walk_at "mem") hun F.back (lift (wpAny_truthy_bool ?_)))))
    rw [if_neg (by decide)]
    exact gExecsNil ⟨rfl, St.sub (St.names (by assumption) (by walk_at "names")) (by walk_at "sub")⟩
  intro s₂₅ S₂₅
  clear S₂₄
  refine gExecsCons (gTry (gExecsCons (gExpr (gCallName (lift (nmG B S₂₅ (g_decP _) (lift (wpAny_items_cons (nmB S₂₅ (by rfl) fun t₇ => wpAny_items_nil (gKeeperFunc (fnAt B S₂₅ rfl) rfl fun _ => ?_))))))))))
  have hP2 := F.decP2
  refine callDecP (ys := encR (bts (row1 ns))) C B S₂₅ F.fullR (by omega) (fun d t₈ s₂₆ hd S₂₆ => ?_) fun e s₂₆ hno kp x => ?_
  · rw [hd] at hP2
    refine wpAny_dropValue (gExecsNil (gExecsNil (gExecsCons (gReturn (lift (wpAny_UnaryOp (nmV S₂₆ (by rfl) (not_value (wpAny_truthy_bool ?_)))))))))
    refine ⟨S₂₆.kp, ?_⟩
    rw [← hP2]; rfl
  · rw [hno] at hP2
    have S₂₆ := keptL S₂₅ kp
    refine noteNew (h₀ := s₂₅.heap) (cls := .ref 51) (outer := []) (by show A.frames.map _ = _; rw [C.cx.frames]; rfl) (S₂₆.frs C.cx.frs rfl) rfl kp.keep x (fun f hf => by cases hf; rfl) fun h₁ k₁ x₁ => ?_
    refine setFl k₁ x₁ fun h₂ k₂ _ x₂ => ?_
    have S₂₇ : St [] s L _ _ { s₂₆ with heap := h₂ } := keptL S₂₅ ⟨k₂, kp.gens, kp.os⟩
    obtain ⟨_, oe, _, he, hc, _⟩ := id x₂
    refine handleOwn (C := 51) (N := 50) (nm := Str.ofString "DecodeError") (q := Str.ofString "DecodeError") (bs := [.type "Exception"]) (bm := [.type "Exception", .type "BaseException", .type "object"]) (hdct := true) (sn := []) (sub := []) (ab := false) (col := none) (dd := none) (k0 := some (.ref 42)) (k1 := none) (k2 := some (.str (Str.ofString "DecodeError") 241)) (k3 := some (.str (Str.ofString "DecodeError") 249)) (k5 := some (.bool true)) (newId := "Exception.__new__") (by decide +kernel)
      (nmG B S₂₇ (g_excP _) ⟨rfl, S₂₇.keep.exact 51 _ (clsP_at B), ⟨oe, he, hc⟩, setFl k₂ x₂ fun h₃ k₃ _ x₃ => ?_⟩)
    have S₂₈ : St [] s L _ _ { s₂₆ with heap := h₃ } := keptL S₂₅ ⟨k₃, kp.gens, kp.os⟩
    refine wpAny_execs_cons (wpAny_Return_some (nmV S₂₈ (by rfl) ?_))
    refine ⟨S₂₈.kp, ?_⟩
    rw [← hP2]; rfl
theorem g_law (P : Params) : nsIn (KH P) mainGlobals (Str.ofString "law") = some (some (.ref 80)) := by kernel_rfl
theorem walked (F : ∀ ns, Facts ns) : PySem.Challenge.rw_md0006_01.Holds := by
  refine hd ?_
  intro w s₀ s₁ mg mb G Y fa o pm cd doc dV kV ho hdt hcd hD hmg hg args vals as hpre hlay hrd hwl hlo
  have KX := kIn_of Y
  refine Ground.open G ?_
  intro T B D TE TW
  have hfa : fa = 80 := by
    have h1 := mg_of KX T.g (g_law _)
    have h2 : mg (Str.ofString "law") = some (.ref fa) := hmg
    rw [h1] at h2
    exact (Value.ref.inj (Option.some.inj h2)).symm
  subst hfa
  wrow_args hpre hlay hrd hwl hlo
  rename_i ns _ _ _ _ _ _ _ x vs _ hL _ _ _ hI _ hc1 _
  refine gCall (codeG_mono (law_spec (ns := ns) ⟨⟨rfl, rfl, rfl, rfl, trivial, (fun _ h => (nomatch h)), by decide +kernel, by decide +kernel⟩, by decide +kernel, by decide +kernel⟩ ⟨KX, ⟨_, _, _, _, topRead_of T⟩⟩ hL hI (by omega) (F ns)) fun r s' ⟨k, e⟩ => ?_)
  subst e
  refine GoodW.toG ⟨.inl ⟨.bool true, .bool true, [], rfl, fun cls => ?_, .bool true, ?_, unshared_nil⟩, k.keep.exact, k.os, k.gens.trans hg⟩
  · rfl
  · wrow_post
end Mine
theorem PySem.Challenge.cw_md0006_01_holds : PySem.Challenge.rw_md0006_01.Holds := by
  exact Mine.walked Mine.facts
