import PyProof.Rows.All
import Wide.All
import OpenK.AllK
import Wide.FinOn
import PySem.Sre
import PyProof.RulesTry
import PyProof.AttrMissHeap
import PyProof.GenQ
import KE.KTryOn
import Open.Tops
import PySem.Challenge.RW_ez0042_01

section
open PySem PySem.W
set_option Elab.async false
set_option maxRecDepth 100000
set_option maxHeartbeats 0
namespace Mine
open_shared hd for PySem.Challenge.pw_ez0042_01 leaving 16
end Mine
end

section
namespace Mine
open PySem PySem.Sre
section
variable {code : Array Nat} {grp f i hi a b c d e : Nat}
theorem S_fail (h : i < hi) (h0 : code.getD i 0 = 0) (h1 : i + 1 = hi) : setOk code (f + 1) i hi = true := by
  rw [setOk, h0]; simp [ops, h, h1]
theorem S_neg (h : i < hi) (h0 : code.getD i 0 = 21) (k : setOk code f (i + 1) hi = true) : setOk code (f + 1) i hi = true := by
  rw [setOk, h0]; simp [ops, h, k]
theorem S_lit (h : i < hi) (h0 : code.getD i 0 = 16) (k : setOk code f (i + 2) hi = true) : setOk code (f + 1) i hi = true := by
  rw [setOk, h0]; simp [ops, h, k]
theorem S_range (h : i < hi) (h0 : code.getD i 0 = 22) (k : setOk code f (i + 3) hi = true) : setOk code (f + 1) i hi = true := by
  rw [setOk, h0]; simp [ops, h, k]
theorem S_cs (h : i < hi) (h0 : code.getD i 0 = 9) (k : setOk code f (i + 9) hi = true) : setOk code (f + 1) i hi = true := by
  rw [setOk, h0]; simp [ops, h, k]
theorem S_big (h : i < hi) (h0 : code.getD i 0 = 10) (h1 : code.getD (i + 1) 0 = a) (hb : ∀ q, q < 64 → ∀ r, r < 4 → (code.getD (i + 2 + q) 0 >>> (8 * r)) % 256 < a)
    (k : setOk code f (i + 66 + 8 * a) hi = true) : setOk code (f + 1) i hi = true := by
  rw [setOk, h0]
  have hall : ((List.range 256).all fun b => (code.getD (i + 2 + b / 4) 0 >>> (8 * (b % 4))) % 256 < code.getD (i + 1) 0) = true := by
    rw [List.all_eq_true]
    intro b hbm
    have : b < 256 := List.mem_range.mp hbm
    rw [h1]
    exact decide_eq_true (hb (b / 4) (by omega) (b % 4) (by omega))
  have e : ops[10]? = some .BIGCHARSET := rfl
  simp only [Nat.add_zero, h0, e]
  rw [hall, h1, k]
  simp [h]
theorem I_end : itemsOk code grp (f + 1) i i = true := by rw [itemsOk]; simp
theorem I_lit (h : (i == hi) = false) (h' : ¬ hi < i) (h0 : code.getD i 0 = 16) (k : itemsOk code grp f (i + 2) hi = true) : itemsOk code grp (f + 1) i hi = true := by
  rw [itemsOk]; simp only [h, h0, Nat.add_zero]; simp [ops, h', k]
theorem I_mark (h : (i == hi) = false) (h' : ¬ hi < i) (h0 : code.getD i 0 = 17) (h1 : code.getD (i + 1) 0 = a) (h2 : a < 2 * grp) (k : itemsOk code grp f (i + 2) hi = true) : itemsOk code grp (f + 1) i hi = true := by
  rw [itemsOk]; simp only [h, h0, h1, Nat.add_zero]; simp [ops, h', h2, k]
theorem I_in13 (h : (i == hi) = false) (h' : ¬ hi < i) (h0 : code.getD i 0 = 13) (h1 : code.getD (i + 1) 0 = a) (s : setOk code f (i + 2) (i + 1 + a) = true) (k : itemsOk code grp f (i + 1 + a) hi = true) : itemsOk code grp (f + 1) i hi = true := by
  rw [itemsOk]; simp only [h, h0, h1, Nat.add_zero]; simp [ops, h', s, k]
theorem I_in39 (h : (i == hi) = false) (h' : ¬ hi < i) (h0 : code.getD i 0 = 39) (h1 : code.getD (i + 1) 0 = a) (s : setOk code f (i + 2) (i + 1 + a) = true) (k : itemsOk code grp f (i + 1 + a) hi = true) : itemsOk code grp (f + 1) i hi = true := by
  rw [itemsOk]; simp only [h, h0, h1, Nat.add_zero]; simp [ops, h', s, k]
theorem I_rep1 (h : (i == hi) = false) (h' : ¬ hi < i) (h0 : code.getD i 0 = 24) (h1 : code.getD (i + 1) 0 = a) (h2 : code.getD (i + 2) 0 = b) (h3 : code.getD (i + 3) 0 = c) (hbc : b ≤ c)
    (hw : (i + 4 + itemWidth code (i + 4) == i + a) = true) (ha : (match accepts code (i + 4) 0 {} with | .ok _ => true | .error "locale" => true | _ => false) = true) (hb : i + 4 ≤ i + a ∧ i + a < hi)
    (h5 : code.getD (i + a) 0 = 1) (kb : itemsOk code grp f (i + 4) (i + a) = true) (k : itemsOk code grp f (i + 1 + a) hi = true) : itemsOk code grp (f + 1) i hi = true := by
  rw [itemsOk]; simp only [h, h0, h1, h2, h3, Nat.add_zero, hw, h5, kb, k]
  have ha' : (match accepts code (i + 4) 0 {} with | .ok _ => true | .error "locale" => true | _ => false) = true := ha
  simp [ops, h', hbc, hb.1, hb.2]
  split at ha <;> simp_all
theorem I_rep (h : (i == hi) = false) (h' : ¬ hi < i) (h0 : code.getD i 0 = 23) (h1 : code.getD (i + 1) 0 = a) (h2 : code.getD (i + 2) 0 = b) (h3 : code.getD (i + 3) 0 = c) (hbc : b ≤ c)
    (hb : i + 4 ≤ i + 1 + a ∧ i + 1 + a < hi) (h5 : code.getD (i + 1 + a) 0 = d) (hd : (d == 18 || d == 19) = true) (kb : itemsOk code grp f (i + 4) (i + 1 + a) = true) (k : itemsOk code grp f (i + 1 + a + 1) hi = true) : itemsOk code grp (f + 1) i hi = true := by
  rw [itemsOk]; simp only [h, h0, h1, h2, h3, Nat.add_zero, h5, kb, k, hd]
  simp [ops, h', hbc, hb.1, hb.2]
theorem I_br (h : (i == hi) = false) (h' : ¬ hi < i) (h0 : code.getD i 0 = 7) (h1 : code.getD (i + 1) 0 = a) (he : (branchEnd code f (i + 1) == some e && a != 0) = true) (hh : e ≤ hi)
    (ka : altsOk code grp f (i + 1) e = true) (k : itemsOk code grp f e hi = true) : itemsOk code grp (f + 1) i hi = true := by
  obtain ⟨he1, he2⟩ := Bool.and_eq_true_iff.mp he
  rw [itemsOk]; simp only [h, h0, h1, Nat.add_zero]
  simp only [ops]
  simp [h', eq_of_beq he1, ka, k, hh]
  simpa using he2
theorem A_end (h0 : code.getD i 0 = 0) (h : i + 1 = e) : altsOk code grp (f + 1) i e = true := by
  rw [altsOk]; simp [h0, h]
theorem A_alt (h0 : code.getD i 0 = a) (ha : (a == 0) = false) (h3 : 3 ≤ a) (h1 : code.getD (i + a - 2) 0 = 15) (h2 : code.getD (i + a - 1) 0 = b) (h4 : (i + a - 1 + b == e) = true)
    (kb : itemsOk code grp f (i + 1) (i + a - 2) = true) (k : altsOk code grp f (i + a) e = true) : altsOk code grp (f + 1) i e = true := by
  rw [altsOk]; simp only [h0, ha, h1, h2, h4, kb, k]; simp [h3]
end
def WL : List Nat := [14, 4, 0, 1, 4294967295, 24, 6, 0, 1, 16, 45, 1, 7, 96, 39, 92, 10, 3, 33685760, 33686018, 33686018, 33686018, 33686018, 33686018, 33686018, 33686018, 33686018, 33686018, 33686018, 33686018, 33686018, 33686018, 33686018, 33686018, 33686018, 33686018, 33686018, 33686018, 33686018, 33686018, 33686018, 33686018, 33686018, 33686018, 33686018, 33686018, 33686018, 33686018, 33686018, 33686018, 33686018, 33686018, 33686018, 33686018, 33686018, 33686018, 33686018, 33686018, 33686018, 33686018, 33686018, 33686018, 33686018, 33686018, 33686018, 33686018, 33686018, 33686018, 33686018, 33686018, 33686018, 33686018, 33686018, 33686018, 33686018, 33686018, 33686018, 33686018, 33686018, 33686018, 33686018, 33686018, 0, 0, 2147483648, 134217726, 0, 0, 0, 0, 0, 131072, 0, 2147483648, 0, 0, 0, 0, 0, 0, 0, 0, 0, 0, 0, 0, 0, 15, 169, 52, 16, 92, 17, 0, 24, 13, 1, 6, 39, 8, 22, 48, 57, 22, 97, 102, 0, 1, 17, 1, 23, 27, 0, 1, 7, 7, 16, 13, 16, 10, 15, 17, 15, 13, 11, 9, 13824, 1, 0, 0, 0, 0, 0, 0, 0, 15, 2, 0, 18, 15, 117, 18, 16, 92, 39, 12, 21, 9, 13312, 67043328, 0, 126, 0, 0, 0, 0, 0, 15, 99, 97, 39, 93, 21, 10, 3, 33685760, 33686018, 33686018, 33686018, 33686018, 33686018, 33686018, 33686018, 33686018, 33686018, 33686018, 33686018, 33686018, 33686018, 33686018, 33686018, 33686018, 33686018, 33686018, 33686018, 33686018, 33686018, 33686018, 33686018, 33686018, 33686018, 33686018, 33686018, 33686018, 33686018, 33686018, 33686018, 33686018, 33686018, 33686018, 33686018, 33686018, 33686018, 33686018, 33686018, 33686018, 33686018, 33686018, 33686018, 33686018, 33686018, 33686018, 33686018, 33686018, 33686018, 33686018, 33686018, 33686018, 33686018, 33686018, 33686018, 33686018, 33686018, 33686018, 33686018, 33686018, 33686018, 33686018, 33686018, 4294967295, 4294967295, 4160749569, 4294967295, 0, 0, 0, 0, 0, 131072, 0, 2147483648, 0, 0, 0, 0, 0, 0, 0, 0, 0, 0, 0, 0, 0, 15, 2, 0, 23, 268, 0, 4294967295, 7, 96, 39, 92, 10, 3, 33685760, 33686018, 33686018, 33686018, 33686018, 33686018, 33686018, 33686018, 33686018, 33686018, 33686018, 33686018, 33686018, 33686018, 33686018, 33686018, 33686018, 33686018, 33686018, 33686018, 33686018, 33686018, 33686018, 33686018, 33686018, 33686018, 33686018, 33686018, 33686018, 33686018, 33686018, 33686018, 33686018, 33686018, 33686018, 33686018, 33686018, 33686018, 33686018, 33686018, 33686018, 33686018, 33686018, 33686018, 33686018, 33686018, 33686018, 33686018, 33686018, 33686018, 33686018, 33686018, 33686018, 33686018, 33686018, 33686018, 33686018, 33686018, 33686018, 33686018, 33686018, 33686018, 33686018, 33686018, 0, 67051520, 2147483648, 134217726, 0, 0, 0, 0, 0, 131072, 0, 2147483648, 0, 0, 0, 0, 0, 0, 0, 0, 0, 0, 0, 0, 0, 15, 169, 52, 16, 92, 17, 2, 24, 13, 1, 6, 39, 8, 22, 48, 57, 22, 97, 102, 0, 1, 17, 3, 23, 27, 0, 1, 7, 7, 16, 13, 16, 10, 15, 17, 15, 13, 11, 9, 13824, 1, 0, 0, 0, 0, 0, 0, 0, 15, 2, 0, 18, 15, 117, 18, 16, 92, 39, 12, 21, 9, 13312, 67043328, 0, 126, 0, 0, 0, 0, 0, 15, 99, 97, 39, 93, 21, 10, 3, 33685760, 33686018, 33686018, 33686018, 33686018, 33686018, 33686018, 33686018, 33686018, 33686018, 33686018, 33686018, 33686018, 33686018, 33686018, 33686018, 33686018, 33686018, 33686018, 33686018, 33686018, 33686018, 33686018, 33686018, 33686018, 33686018, 33686018, 33686018, 33686018, 33686018, 33686018, 33686018, 33686018, 33686018, 33686018, 33686018, 33686018, 33686018, 33686018, 33686018, 33686018, 33686018, 33686018, 33686018, 33686018, 33686018, 33686018, 33686018, 33686018, 33686018, 33686018, 33686018, 33686018, 33686018, 33686018, 33686018, 33686018, 33686018, 33686018, 33686018, 33686018, 33686018, 33686018, 33686018, 4294967295, 4294967295, 4160749569, 4294967295, 0, 0, 0, 0, 0, 131072, 0, 2147483648, 0, 0, 0, 0, 0, 0, 0, 0, 0, 0, 0, 0, 0, 15, 2, 0, 18, 1]
def WI : Array Nat := ⟨WL⟩
theorem gL (i : Nat) : WI.getD i 0 = WL.getD i 0 := by
  unfold WI
  simp [Array.getD_eq_getD_getElem?, List.getD_eq_getElem?_getD]
theorem g (i v : Nat) (h : WL.getD i 0 = v) : WI.getD i 0 = v := (gL i).trans h
def bigOk (l : List Nat) (a : Nat) : Bool := l.all fun w => (w % 256 < a) && ((w >>> 8) % 256 < a) && ((w >>> 16) % 256 < a) && ((w >>> 24) % 256 < a)
theorem bigAt (i a : Nat) (h : (((WL.drop (i + 2)).take 64).length == 64 && bigOk ((WL.drop (i + 2)).take 64) a) = true) : ∀ q, q < 64 → ∀ r, r < 4 → (WI.getD (i + 2 + q) 0 >>> (8 * r)) % 256 < a := by
  obtain ⟨hl, hb⟩ := Bool.and_eq_true_iff.mp h
  intro q hq r hr
  rw [gL]
  have hl' : ((WL.drop (i + 2)).take 64).length = 64 := eq_of_beq hl
  have e : WL.getD (i + 2 + q) 0 = ((WL.drop (i + 2)).take 64)[q]'(by omega) := by
    rw [List.getElem_take, List.getElem_drop, List.getD_eq_getElem?_getD, List.getElem?_eq_getElem]
    rfl
  rw [e]
  have m := List.all_eq_true.mp hb _ (List.getElem_mem (by omega : q < ((WL.drop (i + 2)).take 64).length))
  simp only [Bool.and_eq_true, decide_eq_true_eq] at m
  obtain ⟨⟨⟨m0, m1⟩, m2⟩, m3⟩ := m
  match r, hr with
  | 0, _ => exact m0
  | 1, _ => exact m1
  | 2, _ => exact m2
  | 3, _ => exact m3
theorem items_ok : itemsOk WI 2 549 5 547 = true := (I_rep1 (by decide) (by decide) (g 5 24 (by decide +kernel)) (g 6 6 (by decide +kernel)) (g 7 0 (by decide +kernel)) (g 8 1 (by decide +kernel)) (by decide) (by decide +kernel) (by decide +kernel) (by decide) (g 11 1 (by decide +kernel)) (I_lit (by decide) (by decide) (g 9 16 (by decide +kernel)) I_end) (I_br (by decide) (by decide) (g 12 7 (by decide +kernel)) (g 13 96 (by decide +kernel)) (e := 277) (by decide +kernel) (by decide) (A_alt (g 13 96 (by decide +kernel)) (by decide) (by decide) (g 107 15 (by decide +kernel)) (g 108 169 (by decide +kernel)) (by decide) (I_in39 (by decide) (by decide) (g 14 39 (by decide +kernel)) (g 15 92 (by decide +kernel)) (S_big (by decide) (g 16 10 (by decide +kernel)) (g 17 3 (by decide +kernel)) (bigAt 16 3 (by decide +kernel)) (S_fail (by decide) (g 106 0 (by decide +kernel)) (by decide))) I_end) (A_alt (g 109 52 (by decide +kernel)) (by decide) (by decide) (g 159 15 (by decide +kernel)) (g 160 117 (by decide +kernel)) (by decide) (I_lit (by decide) (by decide) (g 110 16 (by decide +kernel)) (I_mark (by decide) (by decide) (g 112 17 (by decide +kernel)) (g 113 0 (by decide +kernel)) (by decide) (I_rep1 (by decide) (by decide) (g 114 24 (by decide +kernel)) (g 115 13 (by decide +kernel)) (g 116 1 (by decide +kernel)) (g 117 6 (by decide +kernel)) (by decide) (by decide +kernel) (by decide +kernel) (by decide) (g 127 1 (by decide +kernel)) (I_in39 (by decide) (by decide) (g 118 39 (by decide +kernel)) (g 119 8 (by decide +kernel)) (S_range (by decide) (g 120 22 (by decide +kernel)) (S_range (by decide) (g 123 22 (by decide +kernel)) (S_fail (by decide) (g 126 0 (by decide +kernel)) (by decide)))) I_end) (I_mark (by decide) (by decide) (g 128 17 (by decide +kernel)) (g 129 1 (by decide +kernel)) (by decide) (I_rep (by decide) (by decide) (g 130 23 (by decide +kernel)) (g 131 27 (by decide +kernel)) (g 132 0 (by decide +kernel)) (g 133 1 (by decide +kernel)) (by decide) (by decide) (g 158 18 (by decide +kernel)) (by decide) (I_br (by decide) (by decide) (g 134 7 (by decide +kernel)) (g 135 7 (by decide +kernel)) (e := 158) (by decide +kernel) (by decide) (A_alt (g 135 7 (by decide +kernel)) (by decide) (by decide) (g 140 15 (by decide +kernel)) (g 141 17 (by decide +kernel)) (by decide) (I_lit (by decide) (by decide) (g 136 16 (by decide +kernel)) (I_lit (by decide) (by decide) (g 138 16 (by decide +kernel)) I_end)) (A_alt (g 142 15 (by decide +kernel)) (by decide) (by decide) (g 155 15 (by decide +kernel)) (g 156 2 (by decide +kernel)) (by decide) (I_in13 (by decide) (by decide) (g 143 13 (by decide +kernel)) (g 144 11 (by decide +kernel)) (S_cs (by decide) (g 145 9 (by decide +kernel)) (S_fail (by decide) (g 154 0 (by decide +kernel)) (by decide))) I_end) (A_end (g 157 0 (by decide +kernel)) (by decide)))) I_end) I_end))))) (A_alt (g 161 18 (by decide +kernel)) (by decide) (by decide) (g 177 15 (by decide +kernel)) (g 178 99 (by decide +kernel)) (by decide) (I_lit (by decide) (by decide) (g 162 16 (by decide +kernel)) (I_in39 (by decide) (by decide) (g 164 39 (by decide +kernel)) (g 165 12 (by decide +kernel)) (S_neg (by decide) (g 166 21 (by decide +kernel)) (S_cs (by decide) (g 167 9 (by decide +kernel)) (S_fail (by decide) (g 176 0 (by decide +kernel)) (by decide)))) I_end)) (A_alt (g 179 97 (by decide +kernel)) (by decide) (by decide) (g 274 15 (by decide +kernel)) (g 275 2 (by decide +kernel)) (by decide) (I_in39 (by decide) (by decide) (g 180 39 (by decide +kernel)) (g 181 93 (by decide +kernel)) (S_neg (by decide) (g 182 21 (by decide +kernel)) (S_big (by decide) (g 183 10 (by decide +kernel)) (g 184 3 (by decide +kernel)) (bigAt 183 3 (by decide +kernel)) (S_fail (by decide) (g 273 0 (by decide +kernel)) (by decide)))) I_end) (A_end (g 276 0 (by decide +kernel)) (by decide)))))) (I_rep (by decide) (by decide) (g 277 23 (by decide +kernel)) (g 278 268 (by decide +kernel)) (g 279 0 (by decide +kernel)) (g 280 4294967295 (by decide +kernel)) (by decide) (by decide) (g 546 18 (by decide +kernel)) (by decide) (I_br (by decide) (by decide) (g 281 7 (by decide +kernel)) (g 282 96 (by decide +kernel)) (e := 546) (by decide +kernel) (by decide) (A_alt (g 282 96 (by decide +kernel)) (by decide) (by decide) (g 376 15 (by decide +kernel)) (g 377 169 (by decide +kernel)) (by decide) (I_in39 (by decide) (by decide) (g 283 39 (by decide +kernel)) (g 284 92 (by decide +kernel)) (S_big (by decide) (g 285 10 (by decide +kernel)) (g 286 3 (by decide +kernel)) (bigAt 285 3 (by decide +kernel)) (S_fail (by decide) (g 375 0 (by decide +kernel)) (by decide))) I_end) (A_alt (g 378 52 (by decide +kernel)) (by decide) (by decide) (g 428 15 (by decide +kernel)) (g 429 117 (by decide +kernel)) (by decide) (I_lit (by decide) (by decide) (g 379 16 (by decide +kernel)) (I_mark (by decide) (by decide) (g 381 17 (by decide +kernel)) (g 382 2 (by decide +kernel)) (by decide) (I_rep1 (by decide) (by decide) (g 383 24 (by decide +kernel)) (g 384 13 (by decide +kernel)) (g 385 1 (by decide +kernel)) (g 386 6 (by decide +kernel)) (by decide) (by decide +kernel) (by decide +kernel) (by decide) (g 396 1 (by decide +kernel)) (I_in39 (by decide) (by decide) (g 387 39 (by decide +kernel)) (g 388 8 (by decide +kernel)) (S_range (by decide) (g 389 22 (by decide +kernel)) (S_range (by decide) (g 392 22 (by decide +kernel)) (S_fail (by decide) (g 395 0 (by decide +kernel)) (by decide)))) I_end) (I_mark (by decide) (by decide) (g 397 17 (by decide +kernel)) (g 398 3 (by decide +kernel)) (by decide) (I_rep (by decide) (by decide) (g 399 23 (by decide +kernel)) (g 400 27 (by decide +kernel)) (g 401 0 (by decide +kernel)) (g 402 1 (by decide +kernel)) (by decide) (by decide) (g 427 18 (by decide +kernel)) (by decide) (I_br (by decide) (by decide) (g 403 7 (by decide +kernel)) (g 404 7 (by decide +kernel)) (e := 427) (by decide +kernel) (by decide) (A_alt (g 404 7 (by decide +kernel)) (by decide) (by decide) (g 409 15 (by decide +kernel)) (g 410 17 (by decide +kernel)) (by decide) (I_lit (by decide) (by decide) (g 405 16 (by decide +kernel)) (I_lit (by decide) (by decide) (g 407 16 (by decide +kernel)) I_end)) (A_alt (g 411 15 (by decide +kernel)) (by decide) (by decide) (g 424 15 (by decide +kernel)) (g 425 2 (by decide +kernel)) (by decide) (I_in13 (by decide) (by decide) (g 412 13 (by decide +kernel)) (g 413 11 (by decide +kernel)) (S_cs (by decide) (g 414 9 (by decide +kernel)) (S_fail (by decide) (g 423 0 (by decide +kernel)) (by decide))) I_end) (A_end (g 426 0 (by decide +kernel)) (by decide)))) I_end) I_end))))) (A_alt (g 430 18 (by decide +kernel)) (by decide) (by decide) (g 446 15 (by decide +kernel)) (g 447 99 (by decide +kernel)) (by decide) (I_lit (by decide) (by decide) (g 431 16 (by decide +kernel)) (I_in39 (by decide) (by decide) (g 433 39 (by decide +kernel)) (g 434 12 (by decide +kernel)) (S_neg (by decide) (g 435 21 (by decide +kernel)) (S_cs (by decide) (g 436 9 (by decide +kernel)) (S_fail (by decide) (g 445 0 (by decide +kernel)) (by decide)))) I_end)) (A_alt (g 448 97 (by decide +kernel)) (by decide) (by decide) (g 543 15 (by decide +kernel)) (g 544 2 (by decide +kernel)) (by decide) (I_in39 (by decide) (by decide) (g 449 39 (by decide +kernel)) (g 450 93 (by decide +kernel)) (S_neg (by decide) (g 451 21 (by decide +kernel)) (S_big (by decide) (g 452 10 (by decide +kernel)) (g 453 3 (by decide +kernel)) (bigAt 452 3 (by decide +kernel)) (S_fail (by decide) (g 542 0 (by decide +kernel)) (by decide)))) I_end) (A_end (g 545 0 (by decide +kernel)) (by decide)))))) I_end) I_end)))
theorem wf_ident : wellFormed WI 2 = true := by
  have hs : WI.size = 548 := by decide +kernel
  have h0 : WI.getD 0 0 = 14 := g 0 14 (by decide +kernel)
  have h1 : WI.getD 1 0 = 4 := g 1 4 (by decide +kernel)
  have h2 : WI.getD 2 0 = 0 := g 2 0 (by decide +kernel)
  have hn : WI.getD 547 0 = 1 := g 547 1 (by decide +kernel)
  have hi : infoOk WI = true := by unfold infoOk; rw [h0]; simp [ops, h1, h2]
  have hh : header WI = (WI.getD 3 0, 5) := by unfold header; rw [h0]; simp [ops, h1]
  unfold wellFormed
  rw [hs, hh]
  simp [hn, hi, items_ok]
end Mine
end

section
namespace Mine
open PySem PySem.Sre
def HashL : List Nat := [14, 8, 1, 2, 4294967295, 1, 1, 35, 0, 16, 35, 23, 268, 1, 4294967295, 7, 96, 39, 92, 10, 3, 33685760, 33686018, 33686018, 33686018, 33686018, 33686018, 33686018, 33686018, 33686018, 33686018, 33686018, 33686018, 33686018, 33686018, 33686018, 33686018, 33686018, 33686018, 33686018, 33686018, 33686018, 33686018, 33686018, 33686018, 33686018, 33686018, 33686018, 33686018, 33686018, 33686018, 33686018, 33686018, 33686018, 33686018, 33686018, 33686018, 33686018, 33686018, 33686018, 33686018, 33686018, 33686018, 33686018, 33686018, 33686018, 33686018, 33686018, 33686018, 33686018, 33686018, 33686018, 33686018, 33686018, 33686018, 33686018, 33686018, 33686018, 33686018, 33686018, 33686018, 33686018, 33686018, 33686018, 33686018, 0, 67051520, 2147483648, 134217726, 0, 0, 0, 0, 0, 131072, 0, 2147483648, 0, 0, 0, 0, 0, 0, 0, 0, 0, 0, 0, 0, 0, 15, 169, 52, 16, 92, 17, 0, 24, 13, 1, 6, 39, 8, 22, 48, 57, 22, 97, 102, 0, 1, 17, 1, 23, 27, 0, 1, 7, 7, 16, 13, 16, 10, 15, 17, 15, 13, 11, 9, 13824, 1, 0, 0, 0, 0, 0, 0, 0, 15, 2, 0, 18, 15, 117, 18, 16, 92, 39, 12, 21, 9, 13312, 67043328, 0, 126, 0, 0, 0, 0, 0, 15, 99, 97, 39, 93, 21, 10, 3, 33685760, 33686018, 33686018, 33686018, 33686018, 33686018, 33686018, 33686018, 33686018, 33686018, 33686018, 33686018, 33686018, 33686018, 33686018, 33686018, 33686018, 33686018, 33686018, 33686018, 33686018, 33686018, 33686018, 33686018, 33686018, 33686018, 33686018, 33686018, 33686018, 33686018, 33686018, 33686018, 33686018, 33686018, 33686018, 33686018, 33686018, 33686018, 33686018, 33686018, 33686018, 33686018, 33686018, 33686018, 33686018, 33686018, 33686018, 33686018, 33686018, 33686018, 33686018, 33686018, 33686018, 33686018, 33686018, 33686018, 33686018, 33686018, 33686018, 33686018, 33686018, 33686018, 33686018, 33686018, 4294967295, 4294967295, 4160749569, 4294967295, 0, 0, 0, 0, 0, 131072, 0, 2147483648, 0, 0, 0, 0, 0, 0, 0, 0, 0, 0, 0, 0, 0, 15, 2, 0, 18, 1]
def HashI : Array Nat := ⟨HashL⟩
theorem gHashL (i : Nat) : HashI.getD i 0 = HashL.getD i 0 := by
  unfold HashI
  simp [Array.getD_eq_getD_getElem?, List.getD_eq_getElem?_getD]
theorem gHash (i v : Nat) (h : HashL.getD i 0 = v) : HashI.getD i 0 = v := (gHashL i).trans h
theorem bigAtH (i a : Nat) (h : (((HashL.drop (i + 2)).take 64).length == 64 && bigOk ((HashL.drop (i + 2)).take 64) a) = true) : ∀ q, q < 64 → ∀ r, r < 4 → (HashI.getD (i + 2 + q) 0 >>> (8 * r)) % 256 < a := by
  obtain ⟨hl, hb⟩ := Bool.and_eq_true_iff.mp h
  intro q hq r hr
  rw [gHashL]
  have hl' : ((HashL.drop (i + 2)).take 64).length = 64 := eq_of_beq hl
  have e : HashL.getD (i + 2 + q) 0 = ((HashL.drop (i + 2)).take 64)[q]'(by omega) := by
    rw [List.getElem_take, List.getElem_drop, List.getD_eq_getElem?_getD, List.getElem?_eq_getElem]
    rfl
  rw [e]
  have m := List.all_eq_true.mp hb _ (List.getElem_mem (by omega : q < ((HashL.drop (i + 2)).take 64).length))
  simp only [Bool.and_eq_true, decide_eq_true_eq] at m
  obtain ⟨⟨⟨m0, m1⟩, m2⟩, m3⟩ := m
  match r, hr with
  | 0, _ => exact m0
  | 1, _ => exact m1
  | 2, _ => exact m2
  | 3, _ => exact m3
theorem items_okH : itemsOk HashI 1 283 9 281 = true := (I_lit (by decide) (by decide) (gHash 9 16 (by decide +kernel)) (I_rep (by decide) (by decide) (gHash 11 23 (by decide +kernel)) (gHash 12 268 (by decide +kernel)) (gHash 13 1 (by decide +kernel)) (gHash 14 4294967295 (by decide +kernel)) (by decide) (by decide) (gHash 280 18 (by decide +kernel)) (by decide) (I_br (by decide) (by decide) (gHash 15 7 (by decide +kernel)) (gHash 16 96 (by decide +kernel)) (e := 280) (by decide +kernel) (by decide) (A_alt (gHash 16 96 (by decide +kernel)) (by decide) (by decide) (gHash 110 15 (by decide +kernel)) (gHash 111 169 (by decide +kernel)) (by decide) (I_in39 (by decide) (by decide) (gHash 17 39 (by decide +kernel)) (gHash 18 92 (by decide +kernel)) (S_big (by decide) (gHash 19 10 (by decide +kernel)) (gHash 20 3 (by decide +kernel)) (bigAtH 19 3 (by decide +kernel)) (S_fail (by decide) (gHash 109 0 (by decide +kernel)) (by decide))) I_end) (A_alt (gHash 112 52 (by decide +kernel)) (by decide) (by decide) (gHash 162 15 (by decide +kernel)) (gHash 163 117 (by decide +kernel)) (by decide) (I_lit (by decide) (by decide) (gHash 113 16 (by decide +kernel)) (I_mark (by decide) (by decide) (gHash 115 17 (by decide +kernel)) (gHash 116 0 (by decide +kernel)) (by decide) (I_rep1 (by decide) (by decide) (gHash 117 24 (by decide +kernel)) (gHash 118 13 (by decide +kernel)) (gHash 119 1 (by decide +kernel)) (gHash 120 6 (by decide +kernel)) (by decide) (by decide +kernel) (by decide +kernel) (by decide) (gHash 130 1 (by decide +kernel)) (I_in39 (by decide) (by decide) (gHash 121 39 (by decide +kernel)) (gHash 122 8 (by decide +kernel)) (S_range (by decide) (gHash 123 22 (by decide +kernel)) (S_range (by decide) (gHash 126 22 (by decide +kernel)) (S_fail (by decide) (gHash 129 0 (by decide +kernel)) (by decide)))) I_end) (I_mark (by decide) (by decide) (gHash 131 17 (by decide +kernel)) (gHash 132 1 (by decide +kernel)) (by decide) (I_rep (by decide) (by decide) (gHash 133 23 (by decide +kernel)) (gHash 134 27 (by decide +kernel)) (gHash 135 0 (by decide +kernel)) (gHash 136 1 (by decide +kernel)) (by decide) (by decide) (gHash 161 18 (by decide +kernel)) (by decide) (I_br (by decide) (by decide) (gHash 137 7 (by decide +kernel)) (gHash 138 7 (by decide +kernel)) (e := 161) (by decide +kernel) (by decide) (A_alt (gHash 138 7 (by decide +kernel)) (by decide) (by decide) (gHash 143 15 (by decide +kernel)) (gHash 144 17 (by decide +kernel)) (by decide) (I_lit (by decide) (by decide) (gHash 139 16 (by decide +kernel)) (I_lit (by decide) (by decide) (gHash 141 16 (by decide +kernel)) I_end)) (A_alt (gHash 145 15 (by decide +kernel)) (by decide) (by decide) (gHash 158 15 (by decide +kernel)) (gHash 159 2 (by decide +kernel)) (by decide) (I_in13 (by decide) (by decide) (gHash 146 13 (by decide +kernel)) (gHash 147 11 (by decide +kernel)) (S_cs (by decide) (gHash 148 9 (by decide +kernel)) (S_fail (by decide) (gHash 157 0 (by decide +kernel)) (by decide))) I_end) (A_end (gHash 160 0 (by decide +kernel)) (by decide)))) I_end) I_end))))) (A_alt (gHash 164 18 (by decide +kernel)) (by decide) (by decide) (gHash 180 15 (by decide +kernel)) (gHash 181 99 (by decide +kernel)) (by decide) (I_lit (by decide) (by decide) (gHash 165 16 (by decide +kernel)) (I_in39 (by decide) (by decide) (gHash 167 39 (by decide +kernel)) (gHash 168 12 (by decide +kernel)) (S_neg (by decide) (gHash 169 21 (by decide +kernel)) (S_cs (by decide) (gHash 170 9 (by decide +kernel)) (S_fail (by decide) (gHash 179 0 (by decide +kernel)) (by decide)))) I_end)) (A_alt (gHash 182 97 (by decide +kernel)) (by decide) (by decide) (gHash 277 15 (by decide +kernel)) (gHash 278 2 (by decide +kernel)) (by decide) (I_in39 (by decide) (by decide) (gHash 183 39 (by decide +kernel)) (gHash 184 93 (by decide +kernel)) (S_neg (by decide) (gHash 185 21 (by decide +kernel)) (S_big (by decide) (gHash 186 10 (by decide +kernel)) (gHash 187 3 (by decide +kernel)) (bigAtH 186 3 (by decide +kernel)) (S_fail (by decide) (gHash 276 0 (by decide +kernel)) (by decide)))) I_end) (A_end (gHash 279 0 (by decide +kernel)) (by decide)))))) I_end) I_end))
theorem wf_hash : wellFormed HashI 1 = true := by
  have hs : HashI.size = 282 := by decide +kernel
  have h0 : HashI.getD 0 0 = 14 := gHash 0 14 (by decide +kernel)
  have h1 : HashI.getD 1 0 = 8 := gHash 1 8 (by decide +kernel)
  have hn : HashI.getD 281 0 = 1 := gHash 281 1 (by decide +kernel)
  have hi : infoOk HashI = true := by decide +kernel
  have hh : header HashI = (HashI.getD 3 0, 9) := by unfold header; rw [h0]; simp [ops, h1]
  unfold wellFormed
  rw [hs, hh]
  simp [hn, hi, items_okH]
end Mine
end

section
open PySem PySem.W
set_option Elab.async false
set_option maxRecDepth 100000
namespace Mine
def freshRun {α : Type} : List Int → (List Value → Sem α) → Sem α
  | [], k => k []
  | n :: r, k => .fresh fun t => freshRun r fun vs => k (.int n t :: vs)
theorem freshRun_bind {α β : Type} (f : α → Sem β) : ∀ (ns : List Int) (k : List Value → Sem α), (freshRun ns k).bind f = freshRun ns fun vs => (k vs).bind f
  | [], _ => rfl
  | n :: r, k => congrArg Sem.fresh (funext fun t => freshRun_bind f r _)
theorem freshRun_keep {α : Type} (l : List Value) : ∀ (ns : List Int) (k : List Value → Sem α), (freshRun ns k).keep l = freshRun ns fun vs => (k vs).keep l
  | [], _ => rfl
  | n :: r, k => congrArg Sem.fresh (funext fun t => freshRun_keep l r _)
def intsOf : List Expr → Option (List Int)
  | [] => some []
  | .Constant (.int n) _ _ :: r => (intsOf r).map (n :: ·)
  | _ :: _ => none
theorem spliced_ints {pos : Pos} {env : Env} : ∀ (elts : List Expr) (ns : List Int), intsOf elts = some ns → spliced (backTo pos (starEach elts env)) = freshRun ns Sem.pure
  | [], ns, h => by cases h; rfl
  | e :: r, ns, h => by
    unfold intsOf at h
    split at h
    · rename_i h0; cases h0
    · rename_i n k p r' h0
      cases h0
      obtain ⟨ms, hm, rfl⟩ := Option.map_eq_some_iff.mp h
      have ih := spliced_ints (pos := pos) (env := env) r ms hm
      show Sem.fresh (fun t => (spliced (backTo pos (starEach r env))).bind fun vs => Sem.pure ([.int n t] ++ vs)) = _
      rw [ih]
      refine congrArg Sem.fresh (funext fun t => ?_)
      rw [freshRun_bind]
      rfl
    · cases h
theorem eval_ints {pos : Pos} {env : Env} {elts : List Expr} {ns : List Int} (h : intsOf elts = some ns) : eval (.List elts pos) env = (do standAt pos; newList (← freshRun ns Sem.pure)) := by
  rw [arm_eval_List, spliced_ints elts ns h]
end Mine
end

section
open PySem PySem.W PySem.Calls PyProof.Rows
set_option Elab.async false
set_option maxRecDepth 100000
set_option maxHeartbeats 0
namespace Mine
/-! statement 10 of the top: `_match_hash = _sre.compile(..)` -/
abbrev Pw : Program := PySem.Challenge.pw_ez0042_01
def q0 : Pos := ⟨0, 0, 0, 0⟩
def pos9 : Pos := ⟨43, 0, 43, 13⟩
def pos10 : Pos := ⟨44, 0, 44, 11⟩
def p10 : List Stmt := (Pw.main.body.drop 11).take 1
def pat10 : Str := match p10 with
  | [Stmt.Assign _ (Expr.Call _ (Expr.Constant (Const.str s) _ _ :: _) _ _) _] => s
  | _ => Str.empty
def oDict : Obj := { cls := .type "dict", data := .dict #[] }
def oList10 : Obj := { cls := .type "list", data := .seq (HashL.zipIdx.map fun x => Value.int (Int.ofNat x.1) (802 + x.2)).toArray }
def oTup10 : Obj := { cls := .type "tuple", data := .seq #[.none, .none] }
def oWords10 : Obj := { cls := .type "tuple", data := .seq (HashL.map fun (x : Nat) => Value.int (Int.ofNat x) 0).toArray }
def oPat10 : Obj := { cls := .type "re.Pattern", data := .fields #[.str pat10 800, .int 34 1085, .int 1 0, .none, .none, .ref 172, .int 0 0] }
def args10 : Args := ⟨[.str pat10 800, .int 34 801, .ref 169, .int 1 1084, .ref 170, .ref 171], []⟩
noncomputable def T314 (P : Params) : BT := (((hd.tree_188 P).ins 169 oList10).ins 170 oDict).ins 171 oTup10
noncomputable def T322 (P : Params) : BT := ((T314 P).ins 172 oWords10).ins 173 oPat10
noncomputable def S9 (w : World) (os : OsState) : SharedT := { tree := hd.tree_188 w.params, n := 169, life := {}, gens := #[], drawn := {}, toks := 799, os := os }
noncomputable def S314 (w : World) (os : OsState) : SharedT := { tree := T314 w.params, n := 172, life := {}, gens := #[], drawn := {}, toks := 1085, os := os }
noncomputable def S322 (w : World) (os : OsState) : SharedT := { tree := T322 w.params, n := 174, life := {}, gens := #[], drawn := {}, toks := 1086, os := os }
theorem wf_all {α : Type} {F : (Array Nat → Nat → Bool) → α} {W : Array Nat} {n : Nat} {r : α} (key : ∀ wf, F wf = F (fun _ _ => wf W n)) (h : F (fun _ _ => true) = r) : ∀ wf : Array Nat → Nat → Bool, wf W n = true → F wf = r := by
  intro wf hW
  rw [key wf, hW]; exact h
theorem run_compile10 : ∀ (p : Program) (w : World) (os : OsState) (pos : Pos) (f1 f2 : Frame),
    segGoT treeTable p w 28 (some (.ref 6)) 1 8 (S314 w os) ⟨PySem.Builtin.«_sre.compile» args10, .builtin "_sre.compile" args10, pos, [f1, f2]⟩ = some (S322 w os, ⟨.pure (.done (.ret (.ref 173))), .builtin "_sre.compile" args10, pos, [f1, f2]⟩) := by
  intro p w os pos f1 f2
  have hW := wf_hash
  rw [PySem.W.Fast.te3018943357349503271] at hW
  revert hW
  rw [PySem.W.Fast.te17745834655568101797, PySem.W.Fast.te10295753902157049106, PySem.W.Fast.te14364793385576792824]
  delta PySem.W.Fast.tw17745834655568101797
  generalize PySem.W.Fast.tw3018943357349503271 = wf
  revert wf
  refine wf_all ?_ ?_
  · intro wf
    kernel_rfl
  · kernel_rfl
end Mine
end

section
open PySem PySem.W PySem.Calls PyProof.Rows
set_option Elab.async false
set_option maxRecDepth 100000
set_option maxHeartbeats 0
namespace Mine
/-- the parts of statement 10: an assignment whose value is a method call with six arguments, of which the third is a list of words -/
def tg10 : List Expr := match p10 with | [.Assign t _ _] => t | _ => []
def ps10 : Pos := match p10 with | [.Assign _ _ p] => p | _ => q0
def vl10 : Expr := match p10 with | [.Assign _ v _] => v | _ => .Name "x" q0
def fo10 : Expr := match vl10 with | .Call (.Attribute o _ _) _ _ _ => o | _ => .Name "x" q0
def fn10 : Str := match vl10 with | .Call (.Attribute _ n _) _ _ _ => n | _ => "x"
def fp10 : Pos := match vl10 with | .Call (.Attribute _ _ p) _ _ _ => p | _ => q0
def cp10 : Pos := match vl10 with | .Call _ _ _ p => p | _ => q0
def as10 : List Expr := match vl10 with | .Call _ a _ _ => a | _ => []
def ar10 (i : Nat) : Expr := as10.getD i (.Name "x" q0)
def el10 : List Expr := match ar10 2 with | .List l _ => l | _ => []
def lp10 : Pos := match ar10 2 with | .List _ p => p | _ => q0
theorem is_vl10 : vl10 = .Call (.Attribute fo10 fn10 fp10) [ar10 0, ar10 1, .List el10 lp10, ar10 3, ar10 4, ar10 5] [] cp10 := by kernel_rfl
theorem is_p10 : p10 = [.Assign tg10 vl10 ps10] := by kernel_rfl
theorem ints10 : intsOf el10 = some (HashL.map Int.ofNat) := by kernel_rfl
/-- statement 10's value, its list display as a run of fresh ints -/
def value10 (env : Env) : Sem Value := do
  let ov ← attributeBase fo10 fn10 env (eval fo10 env)
  standAt fp10.atName
  methodCall fo10 fn10 fp10 cp10 env ov 6 (backTo cp10 [(false, eval (ar10 0) env), (false, eval (ar10 1) env), (false, do standAt lp10; newList (← freshRun (HashL.map Int.ofNat) Sem.pure)), (false, eval (ar10 3) env), (false, eval (ar10 4) env), (false, eval (ar10 5) env)]) (backToKw cp10 [])
def exec10 (env : Env) : Sem Flow := do
    standAt ps10
    if ← swapsWithSole tg10 vl10 ps10.line env then do
      evalThenUse vl10 env fun v => assignAll v ((assignEach tg10 env).map (·.2))
      pure Flow.next
    else do
      let v ← value10 env
      assignStores env v (← swappedStores tg10 vl10 env) ((assignEach tg10 env).map (·.2))
def execs10 (env : Env) : Sem Flow := do
  match ← exec10 env with
  | Flow.next => pure Flow.next
  | f => pure f
theorem star10 (env : Env) : starEach [ar10 0, ar10 1, .List el10 lp10, ar10 3, ar10 4, ar10 5] env = [(false, eval (ar10 0) env), (false, eval (ar10 1) env), (false, eval (.List el10 lp10) env), (false, eval (ar10 3) env), (false, eval (ar10 4) env), (false, eval (ar10 5) env)] := by kernel_rfl
theorem val10 (env : Env) : eval vl10 env = value10 env := by
  rw [is_vl10, arm_eval_Call, star10, eval_ints ints10]
  rfl
theorem ex10 (env : Env) : execs p10 env = execs10 env := by
  rw [is_p10]
  show (do match ← exec (.Assign tg10 vl10 ps10) env with | Flow.next => pure Flow.next | f => pure f) = _
  rw [arm_exec_Assign, val10]
  rfl
def strE (P : Params) (x : Str) (t : Nat) (v : Value) : DictEntry := { hash := PyData.keyHash P x, key := .str x t, val := v }
/-- names put behind the others in a namespace's dict -/
def addN (P : Params) (l : List (Str × Nat × Value)) : Obj → Obj
  | ⟨c, d, .dict es n, sl⟩ => ⟨c, d, .dict (es.toList ++ l.map fun x => strE P x.1 x.2.1 x.2.2).toArray (n + l.length), sl⟩
  | o => o
noncomputable def T10 (P : Params) : BT := (T322 P).set 3 (addN P [("_match_hash", 1086, .ref 173)])
noncomputable def S10 (w : World) (os : OsState) : SharedT := { tree := T10 w.params, n := 174, life := {}, gens := #[], drawn := {}, toks := 1087, os := os }
noncomputable abbrev cd (b : List Stmt) : Code := .body b hd.env_1
noncomputable abbrev th10 (b : List Stmt) : Thread := ⟨(execs10 hd.env_1).wrap doneF deadEnd id id, cd b, pos9, [topFrame q0]⟩
theorem th10_eq (b : List Stmt) : piecesOf p10 hd.env_1 (cd b) pos9 [topFrame q0] = th10 b := by
  unfold piecesOf th10
  rw [ex10]
noncomputable def go10 (p : Program) (b : List Stmt) (w : World) (os : OsState) : Option (SharedT × Thread) :=
  PySem.W.Fast.tw10295753902157049106 PySem.W.Fast.tw14364793385576792824 p w 28 (some (.ref 6)) 1 314 (S9 w os) (th10 b)
noncomputable def fr10 (p : Program) (b : List Stmt) (w : World) (os : OsState) : Frame := match go10 p b w os with
  | some (_, ⟨_, _, _, f :: _⟩) => f
  | _ => topFrame q0
theorem run_a10 : ∀ (p : Program) (b : List Stmt) (w : World) (os : OsState),
    segGoT treeTable p w 28 (some (.ref 6)) 1 314 (S9 w os) (th10 b) = some (S314 w os, ⟨PySem.Builtin.«_sre.compile» args10, .builtin "_sre.compile" args10, cp10, [fr10 p b w os, topFrame q0]⟩) := by
  intro p b w os
  rw [PySem.W.Fast.te17745834655568101797, PySem.W.Fast.te10295753902157049106, PySem.W.Fast.te14364793385576792824]
  kernel_rfl
theorem run_d10 : ∀ (p : Program) (b : List Stmt) (w : World) (os : OsState),
    segRunT treeTable p w 28 (some (.ref 6)) 1 10 (S322 w os) ⟨.pure (.done (.ret (.ref 173))), .builtin "_sre.compile" args10, cp10, [fr10 p b w os, topFrame q0]⟩ = some (.next, S10 w os, cd b, pos10) := by
  intro p b w os
  rw [PySem.W.Fast.te10110043849684766642, PySem.W.Fast.te14364793385576792824]
  kernel_rfl
end Mine
end

section
open PySem PySem.W PySem.Calls PyProof.Rows
set_option Elab.async false
set_option maxRecDepth 100000
set_option maxHeartbeats 0
namespace Mine
def pos11 : Pos := ⟨45, 0, 45, 12⟩
def p11 : List Stmt := (Pw.main.body.drop 12).take 1
def pat11 : Str := match p11 with
  | [Stmt.Assign _ (Expr.Call _ (Expr.Constant (Const.str s) _ _ :: _) _ _) _] => s
  | _ => Str.empty
def oList : Obj := { cls := .type "list", data := .seq (WL.zipIdx.map fun x => Value.int (Int.ofNat x.1) (1090 + x.2)).toArray }
def oTup : Obj := { cls := .type "tuple", data := .seq #[.none, .none, .none] }
def oWords : Obj := { cls := .type "tuple", data := .seq (WL.map fun (x : Nat) => Value.int (Int.ofNat x) 0).toArray }
def oPat : Obj := { cls := .type "re.Pattern", data := .fields #[.str pat11 1088, .int 34 1639, .int 2 0, .none, .none, .ref 177, .int 0 0] }
def args11 : Args := ⟨[.str pat11 1088, .int 34 1089, .ref 174, .int 2 1638, .ref 175, .ref 176], []⟩
noncomputable def T580 (P : Params) : BT := (((T10 P).ins 174 oList).ins 175 oDict).ins 176 oTup
noncomputable def T588 (P : Params) : BT := ((T580 P).ins 177 oWords).ins 178 oPat
noncomputable def S580 (w : World) (os : OsState) : SharedT := { tree := T580 w.params, n := 177, life := {}, gens := #[], drawn := {}, toks := 1639, os := os }
noncomputable def S588 (w : World) (os : OsState) : SharedT := { tree := T588 w.params, n := 179, life := {}, gens := #[], drawn := {}, toks := 1640, os := os }
theorem run_compile : ∀ (p : Program) (w : World) (os : OsState) (pos : Pos) (f1 f2 : Frame),
    segGoT treeTable p w 28 (some (.ref 6)) 1 8 (S580 w os) ⟨PySem.Builtin.«_sre.compile» args11, .builtin "_sre.compile" args11, pos, [f1, f2]⟩ = some (S588 w os, ⟨.pure (.done (.ret (.ref 178))), .builtin "_sre.compile" args11, pos, [f1, f2]⟩) := by
  intro p w os pos f1 f2
  have hW := wf_ident
  rw [PySem.W.Fast.te3018943357349503271] at hW
  revert hW
  rw [PySem.W.Fast.te17745834655568101797, PySem.W.Fast.te10295753902157049106, PySem.W.Fast.te14364793385576792824]
  delta PySem.W.Fast.tw17745834655568101797
  generalize PySem.W.Fast.tw3018943357349503271 = wf
  revert wf
  refine wf_all ?_ ?_
  · intro wf
    kernel_rfl
  · kernel_rfl
end Mine
end

section
open PySem PySem.W PySem.Calls PyProof.Rows
set_option Elab.async false
set_option maxRecDepth 100000
set_option maxHeartbeats 0
namespace Mine
/-- the parts of statement 11: an assignment whose value is a method call with six arguments, of which the third is a list of words -/
def tg11 : List Expr := match p11 with | [.Assign t _ _] => t | _ => []
def ps11 : Pos := match p11 with | [.Assign _ _ p] => p | _ => q0
def vl11 : Expr := match p11 with | [.Assign _ v _] => v | _ => .Name "x" q0
def fo11 : Expr := match vl11 with | .Call (.Attribute o _ _) _ _ _ => o | _ => .Name "x" q0
def fn11 : Str := match vl11 with | .Call (.Attribute _ n _) _ _ _ => n | _ => "x"
def fp11 : Pos := match vl11 with | .Call (.Attribute _ _ p) _ _ _ => p | _ => q0
def cp11 : Pos := match vl11 with | .Call _ _ _ p => p | _ => q0
def as11 : List Expr := match vl11 with | .Call _ a _ _ => a | _ => []
def ar11 (i : Nat) : Expr := as11.getD i (.Name "x" q0)
def el11 : List Expr := match ar11 2 with | .List l _ => l | _ => []
def lp11 : Pos := match ar11 2 with | .List _ p => p | _ => q0
theorem is_vl11 : vl11 = .Call (.Attribute fo11 fn11 fp11) [ar11 0, ar11 1, .List el11 lp11, ar11 3, ar11 4, ar11 5] [] cp11 := by kernel_rfl
theorem is_p11 : p11 = [.Assign tg11 vl11 ps11] := by kernel_rfl
theorem ints11 : intsOf el11 = some (WL.map Int.ofNat) := by kernel_rfl
/-- statement 11's value, its list display as a run of fresh ints -/
def value11 (env : Env) : Sem Value := do
  let ov ← attributeBase fo11 fn11 env (eval fo11 env)
  standAt fp11.atName
  methodCall fo11 fn11 fp11 cp11 env ov 6 (backTo cp11 [(false, eval (ar11 0) env), (false, eval (ar11 1) env), (false, do standAt lp11; newList (← freshRun (WL.map Int.ofNat) Sem.pure)), (false, eval (ar11 3) env), (false, eval (ar11 4) env), (false, eval (ar11 5) env)]) (backToKw cp11 [])
def exec11 (env : Env) : Sem Flow := do
    standAt ps11
    if ← swapsWithSole tg11 vl11 ps11.line env then do
      evalThenUse vl11 env fun v => assignAll v ((assignEach tg11 env).map (·.2))
      pure Flow.next
    else do
      let v ← value11 env
      assignStores env v (← swappedStores tg11 vl11 env) ((assignEach tg11 env).map (·.2))
def execs11 (env : Env) : Sem Flow := do
  match ← exec11 env with
  | Flow.next => pure Flow.next
  | f => pure f
theorem star11 (env : Env) : starEach [ar11 0, ar11 1, .List el11 lp11, ar11 3, ar11 4, ar11 5] env = [(false, eval (ar11 0) env), (false, eval (ar11 1) env), (false, eval (.List el11 lp11) env), (false, eval (ar11 3) env), (false, eval (ar11 4) env), (false, eval (ar11 5) env)] := by kernel_rfl
theorem val11 (env : Env) : eval vl11 env = value11 env := by
  rw [is_vl11, arm_eval_Call, star11, eval_ints ints11]
  rfl
theorem ex11 (env : Env) : execs p11 env = execs11 env := by
  rw [is_p11]
  show (do match ← exec (.Assign tg11 vl11 ps11) env with | Flow.next => pure Flow.next | f => pure f) = _
  rw [arm_exec_Assign, val11]
  rfl
end Mine
end

section
open PySem PySem.W PySem.Calls PyProof.Rows
set_option Elab.async false
set_option maxRecDepth 100000
set_option maxHeartbeats 0
namespace Mine
noncomputable abbrev th11 (b : List Stmt) : Thread := ⟨(execs11 hd.env_1).wrap doneF deadEnd id id, cd b, pos10, [topFrame q0]⟩
theorem th11_eq (b : List Stmt) : piecesOf p11 hd.env_1 (cd b) pos10 [topFrame q0] = th11 b := by
  unfold piecesOf th11
  rw [ex11]
noncomputable def go11 (p : Program) (b : List Stmt) (w : World) (os : OsState) : Option (SharedT × Thread) :=
  PySem.W.Fast.tw10295753902157049106 PySem.W.Fast.tw14364793385576792824 p w 28 (some (.ref 6)) 1 580 (S10 w os) (th11 b)
noncomputable def fr11 (p : Program) (b : List Stmt) (w : World) (os : OsState) : Frame := match go11 p b w os with
  | some (_, ⟨_, _, _, f :: _⟩) => f
  | _ => topFrame q0
def posC : Pos := ⟨45, 15, 45, 4026⟩
theorem run_a : ∀ (p : Program) (b : List Stmt) (w : World) (os : OsState),
    segGoT treeTable p w 28 (some (.ref 6)) 1 580 (S10 w os) (th11 b) = some (S580 w os, ⟨PySem.Builtin.«_sre.compile» args11, .builtin "_sre.compile" args11, posC, [fr11 p b w os, topFrame q0]⟩) := by
  intro p b w os
  rw [PySem.W.Fast.te17745834655568101797, PySem.W.Fast.te10295753902157049106, PySem.W.Fast.te14364793385576792824]
  kernel_rfl
end Mine
end

section
open PySem PySem.W PySem.Calls PyProof.Rows
set_option Elab.async false
set_option maxRecDepth 100000
set_option maxHeartbeats 0
namespace Mine
noncomputable def T11 (P : Params) : BT := (T588 P).set 3 (addN P [("_match_ident", 1640, .ref 178)])
noncomputable def S11 (w : World) (os : OsState) : SharedT := { tree := T11 w.params, n := 179, life := {}, gens := #[], drawn := {}, toks := 1641, os := os }
theorem run_d : ∀ (p : Program) (b : List Stmt) (w : World) (os : OsState),
    segRunT treeTable p w 28 (some (.ref 6)) 1 10 (S588 w os) ⟨.pure (.done (.ret (.ref 178))), .builtin "_sre.compile" args11, posC, [fr11 p b w os, topFrame q0]⟩ = some (.next, S11 w os, cd b, pos11) := by
  intro p b w os
  rw [PySem.W.Fast.te10110043849684766642, PySem.W.Fast.te14364793385576792824]
  kernel_rfl
end Mine
end

section
open PySem PySem.W PyProof.Rows
set_option Elab.async false
set_option maxRecDepth 100000
set_option maxHeartbeats 0
namespace Mine
abbrev pw := PySem.Challenge.pw_ez0042_01
def bodyOf (n : Str) : List Stmt := match pw.theDef n with | some (_, b, _) => b | none => []
def argsOf (n : Str) : Arguments := match pw.theDef n with | some (a, _, _) => a | none => { posonlyargs := [], args := [], vararg := none, kwonlyargs := [], kw_defaults := [], kwarg := none, defaults := [] }
def scopeOf (n : Str) : Scope := match pw.theDef n with | some (_, _, sc) => sc | none => { kind := .function, names := [], isGenerator := false, isCoroutine := false, more := [] }
/-- the body of the class c of the program -/
def classBody (c : Str) : List Stmt := match pw.main.body.filter (fun st => match st with | .ClassDef n .. => n == c | _ => false) with | .ClassDef _ _ _ b .. :: _ => b | _ => []
/-- the method n of the class c -/
def mDef (c n : Str) : Option (Arguments × List Stmt × Scope) := match (classBody c).filter (fun st => match st with | .FunctionDef m .. => m == n | _ => false) with | .FunctionDef _ a b _ _ _ sc _ _ _ :: _ => some (a, b, sc) | _ => none
def mBody (c n : Str) : List Stmt := match mDef c n with | some (_, b, _) => b | none => []
def mArgs (c n : Str) : Arguments := match mDef c n with | some (a, _, _) => a | none => { posonlyargs := [], args := [], vararg := none, kwonlyargs := [], kw_defaults := [], kwarg := none, defaults := [] }
def mScope (c n : Str) : Scope := match mDef c n with | some (_, _, sc) => sc | none => { kind := .function, names := [], isGenerator := false, isCoroutine := false, more := [] }
/-- the arguments of the call that the top binds to n -/
def topArgs (n : Str) : List Expr := match pw.main.body.filter (fun st => match st with | .Assign [.Name m _] (.Call ..) _ => m == n | _ => false) with | .Assign _ (.Call _ as _ _) _ :: _ => as | _ => []
def patOf (n : Str) : Str := match topArgs n with | .Constant (.str s) _ _ :: _ => s | _ => ""
def intsIn : List Expr → List Nat
  | .Constant (.int i) _ _ :: r => i.toNat :: intsIn r
  | _ => []
def natsOf (n : Str) : List Nat := match topArgs n with | _ :: _ :: .List l _ :: _ => intsIn l | _ => []
def wordsOf (n : Str) : Array Value := ((natsOf n).map fun x => Value.int (Int.ofNat x) 0).toArray
/-- the heap behind the top: the objects that the law reaches -/
def KX (P : Params) : Frag :=
  (nat_lit 0, { cls := Value.type "dict", data := Data.dict (List.toArray ({ hash := PyData.keyHash P (Str.ofString "__name__"), key := Value.str (Str.ofString "__name__") 1, val := Value.str (Str.ofString "builtins") 160 } :: { hash := PyData.keyHash P (Str.ofString "__doc__"), key := Value.str (Str.ofString "__doc__") 2, val := Value.builtin "builtins.__doc__:str#opaque" } :: { hash := PyData.keyHash P (Str.ofString "__package__"), key := Value.str (Str.ofString "__package__") 3, val := Value.builtin "builtins.__package__:str#opaque" } :: { hash := PyData.keyHash P (Str.ofString "__loader__"), key := Value.str (Str.ofString "__loader__") 4, val := Value.builtin "builtins.__loader__:shared#opaque" } :: { hash := PyData.keyHash P (Str.ofString "__spec__"), key := Value.str (Str.ofString "__spec__") 5, val := Value.builtin "builtins.__spec__#opaque" } :: { hash := PyData.keyHash P (Str.ofString "__build_class__"), key := Value.str (Str.ofString "__build_class__") 6, val := Value.builtin "__build_class__" } :: { hash := PyData.keyHash P (Str.ofString "__import__"), key := Value.str (Str.ofString "__import__") 7, val := Value.builtin "__import__" } :: { hash := PyData.keyHash P (Str.ofString "abs"), key := Value.str (Str.ofString "abs") 8, val := Value.builtin "abs" } :: { hash := PyData.keyHash P (Str.ofString "all"), key := Value.str (Str.ofString "all") 9, val := Value.builtin "all" } :: { hash := PyData.keyHash P (Str.ofString "any"), key := Value.str (Str.ofString "any") 10, val := Value.builtin "any" } :: { hash := PyData.keyHash P (Str.ofString "ascii"), key := Value.str (Str.ofString "ascii") 11, val := Value.builtin "ascii" } :: { hash := PyData.keyHash P (Str.ofString "bin"), key := Value.str (Str.ofString "bin") 12, val := Value.builtin "bin" } :: { hash := PyData.keyHash P (Str.ofString "breakpoint"), key := Value.str (Str.ofString "breakpoint") 13, val := Value.builtin "breakpoint" } :: { hash := PyData.keyHash P (Str.ofString "callable"), key := Value.str (Str.ofString "callable") 14, val := Value.builtin "callable" } :: { hash := PyData.keyHash P (Str.ofString "chr"), key := Value.str (Str.ofString "chr") 15, val := Value.builtin "chr" } :: { hash := PyData.keyHash P (Str.ofString "compile"), key := Value.str (Str.ofString "compile") 16, val := Value.builtin "compile" } :: { hash := PyData.keyHash P (Str.ofString "delattr"), key := Value.str (Str.ofString "delattr") 17, val := Value.builtin "delattr" } :: { hash := PyData.keyHash P (Str.ofString "dir"), key := Value.str (Str.ofString "dir") 18, val := Value.builtin "dir" } :: { hash := PyData.keyHash P (Str.ofString "divmod"), key := Value.str (Str.ofString "divmod") 19, val := Value.builtin "divmod" } :: { hash := PyData.keyHash P (Str.ofString "eval"), key := Value.str (Str.ofString "eval") 20, val := Value.builtin "eval" } :: { hash := PyData.keyHash P (Str.ofString "exec"), key := Value.str (Str.ofString "exec") 21, val := Value.builtin "exec" } :: { hash := PyData.keyHash P (Str.ofString "format"), key := Value.str (Str.ofString "format") 22, val := Value.builtin "format" } :: { hash := PyData.keyHash P (Str.ofString "getattr"), key := Value.str (Str.ofString "getattr") 23, val := Value.builtin "getattr" } :: { hash := PyData.keyHash P (Str.ofString "globals"), key := Value.str (Str.ofString "globals") 24, val := Value.builtin "globals" } :: { hash := PyData.keyHash P (Str.ofString "hasattr"), key := Value.str (Str.ofString "hasattr") 25, val := Value.builtin "hasattr" } :: { hash := PyData.keyHash P (Str.ofString "hash"), key := Value.str (Str.ofString "hash") 26, val := Value.builtin "hash" } :: { hash := PyData.keyHash P (Str.ofString "hex"), key := Value.str (Str.ofString "hex") 27, val := Value.builtin "hex" } :: { hash := PyData.keyHash P (Str.ofString "id"), key := Value.str (Str.ofString "id") 28, val := Value.builtin "id" } :: { hash := PyData.keyHash P (Str.ofString "input"), key := Value.str (Str.ofString "input") 29, val := Value.builtin "input" } :: { hash := PyData.keyHash P (Str.ofString "isinstance"), key := Value.str (Str.ofString "isinstance") 30, val := Value.builtin "isinstance" } :: { hash := PyData.keyHash P (Str.ofString "issubclass"), key := Value.str (Str.ofString "issubclass") 31, val := Value.builtin "issubclass" } :: { hash := PyData.keyHash P (Str.ofString "iter"), key := Value.str (Str.ofString "iter") 32, val := Value.builtin "iter" } :: { hash := PyData.keyHash P (Str.ofString "aiter"), key := Value.str (Str.ofString "aiter") 33, val := Value.builtin "aiter" } :: { hash := PyData.keyHash P (Str.ofString "len"), key := Value.str (Str.ofString "len") 34, val := Value.builtin "len" } :: { hash := PyData.keyHash P (Str.ofString "locals"), key := Value.str (Str.ofString "locals") 35, val := Value.builtin "locals" } :: { hash := PyData.keyHash P (Str.ofString "max"), key := Value.str (Str.ofString "max") 36, val := Value.builtin "max" } :: { hash := PyData.keyHash P (Str.ofString "min"), key := Value.str (Str.ofString "min") 37, val := Value.builtin "min" } :: { hash := PyData.keyHash P (Str.ofString "next"), key := Value.str (Str.ofString "next") 38, val := Value.builtin "next" } :: { hash := PyData.keyHash P (Str.ofString "anext"), key := Value.str (Str.ofString "anext") 39, val := Value.builtin "anext" } :: { hash := PyData.keyHash P (Str.ofString "oct"), key := Value.str (Str.ofString "oct") 40, val := Value.builtin "oct" } :: { hash := PyData.keyHash P (Str.ofString "ord"), key := Value.str (Str.ofString "ord") 41, val := Value.builtin "ord" } :: { hash := PyData.keyHash P (Str.ofString "pow"), key := Value.str (Str.ofString "pow") 42, val := Value.builtin "pow" } :: { hash := PyData.keyHash P (Str.ofString "print"), key := Value.str (Str.ofString "print") 43, val := Value.builtin "print" } :: { hash := PyData.keyHash P (Str.ofString "repr"), key := Value.str (Str.ofString "repr") 44, val := Value.builtin "repr" } :: { hash := PyData.keyHash P (Str.ofString "round"), key := Value.str (Str.ofString "round") 45, val := Value.builtin "round" } :: { hash := PyData.keyHash P (Str.ofString "setattr"), key := Value.str (Str.ofString "setattr") 46, val := Value.builtin "setattr" } :: { hash := PyData.keyHash P (Str.ofString "sorted"), key := Value.str (Str.ofString "sorted") 47, val := Value.builtin "sorted" } :: { hash := PyData.keyHash P (Str.ofString "sum"), key := Value.str (Str.ofString "sum") 48, val := Value.builtin "sum" } :: { hash := PyData.keyHash P (Str.ofString "vars"), key := Value.str (Str.ofString "vars") 49, val := Value.builtin "vars" } :: { hash := PyData.keyHash P (Str.ofString "None"), key := Value.str (Str.ofString "None") 50, val := Value.none } :: { hash := PyData.keyHash P (Str.ofString "Ellipsis"), key := Value.str (Str.ofString "Ellipsis") 51, val := Value.ellipsis } :: { hash := PyData.keyHash P (Str.ofString "NotImplemented"), key := Value.str (Str.ofString "NotImplemented") 52, val := Value.notImplemented } :: { hash := PyData.keyHash P (Str.ofString "False"), key := Value.str (Str.ofString "False") 53, val := Value.bool false } :: { hash := PyData.keyHash P (Str.ofString "True"), key := Value.str (Str.ofString "True") 54, val := Value.bool true } :: { hash := PyData.keyHash P (Str.ofString "bool"), key := Value.str (Str.ofString "bool") 55, val := Value.type "bool" } :: { hash := PyData.keyHash P (Str.ofString "memoryview"), key := Value.str (Str.ofString "memoryview") 56, val := Value.type "memoryview" } :: { hash := PyData.keyHash P (Str.ofString "bytearray"), key := Value.str (Str.ofString "bytearray") 57, val := Value.type "bytearray" } :: { hash := PyData.keyHash P (Str.ofString "bytes"), key := Value.str (Str.ofString "bytes") 58, val := Value.type "bytes" } :: { hash := PyData.keyHash P (Str.ofString "classmethod"), key := Value.str (Str.ofString "classmethod") 59, val := Value.type "classmethod" } :: { hash := PyData.keyHash P (Str.ofString "complex"), key := Value.str (Str.ofString "complex") 60, val := Value.type "complex" } :: { hash := PyData.keyHash P (Str.ofString "dict"), key := Value.str (Str.ofString "dict") 61, val := Value.type "dict" } :: { hash := PyData.keyHash P (Str.ofString "enumerate"), key := Value.str (Str.ofString "enumerate") 62, val := Value.type "enumerate" } :: { hash := PyData.keyHash P (Str.ofString "filter"), key := Value.str (Str.ofString "filter") 63, val := Value.type "filter" } :: { hash := PyData.keyHash P (Str.ofString "float"), key := Value.str (Str.ofString "float") 64, val := Value.type "float" } :: { hash := PyData.keyHash P (Str.ofString "frozenset"), key := Value.str (Str.ofString "frozenset") 65, val := Value.type "frozenset" } :: { hash := PyData.keyHash P (Str.ofString "property"), key := Value.str (Str.ofString "property") 66, val := Value.type "property" } :: { hash := PyData.keyHash P (Str.ofString "int"), key := Value.str (Str.ofString "int") 67, val := Value.type "int" } :: { hash := PyData.keyHash P (Str.ofString "list"), key := Value.str (Str.ofString "list") 68, val := Value.type "list" } :: { hash := PyData.keyHash P (Str.ofString "map"), key := Value.str (Str.ofString "map") 69, val := Value.type "map" } :: { hash := PyData.keyHash P (Str.ofString "object"), key := Value.str (Str.ofString "object") 70, val := Value.type "object" } :: { hash := PyData.keyHash P (Str.ofString "range"), key := Value.str (Str.ofString "range") 71, val := Value.type "range" } :: { hash := PyData.keyHash P (Str.ofString "reversed"), key := Value.str (Str.ofString "reversed") 72, val := Value.type "reversed" } :: { hash := PyData.keyHash P (Str.ofString "set"), key := Value.str (Str.ofString "set") 73, val := Value.type "set" } :: { hash := PyData.keyHash P (Str.ofString "slice"), key := Value.str (Str.ofString "slice") 74, val := Value.type "slice" } :: { hash := PyData.keyHash P (Str.ofString "staticmethod"), key := Value.str (Str.ofString "staticmethod") 75, val := Value.type "staticmethod" } :: { hash := PyData.keyHash P (Str.ofString "str"), key := Value.str (Str.ofString "str") 76, val := Value.type "str" } :: { hash := PyData.keyHash P (Str.ofString "super"), key := Value.str (Str.ofString "super") 77, val := Value.type "super" } :: { hash := PyData.keyHash P (Str.ofString "tuple"), key := Value.str (Str.ofString "tuple") 78, val := Value.type "tuple" } :: { hash := PyData.keyHash P (Str.ofString "type"), key := Value.str (Str.ofString "type") 79, val := Value.type "type" } :: { hash := PyData.keyHash P (Str.ofString "zip"), key := Value.str (Str.ofString "zip") 80, val := Value.type "zip" } :: { hash := PyData.keyHash P (Str.ofString "__debug__"), key := Value.str (Str.ofString "__debug__") 81, val := Value.bool true } :: { hash := PyData.keyHash P (Str.ofString "BaseException"), key := Value.str (Str.ofString "BaseException") 82, val := Value.type "BaseException" } :: { hash := PyData.keyHash P (Str.ofString "BaseExceptionGroup"), key := Value.str (Str.ofString "BaseExceptionGroup") 83, val := Value.type "BaseExceptionGroup" } :: { hash := PyData.keyHash P (Str.ofString "Exception"), key := Value.str (Str.ofString "Exception") 84, val := Value.type "Exception" } :: { hash := PyData.keyHash P (Str.ofString "GeneratorExit"), key := Value.str (Str.ofString "GeneratorExit") 85, val := Value.type "GeneratorExit" } :: { hash := PyData.keyHash P (Str.ofString "KeyboardInterrupt"), key := Value.str (Str.ofString "KeyboardInterrupt") 86, val := Value.type "KeyboardInterrupt" } :: { hash := PyData.keyHash P (Str.ofString "SystemExit"), key := Value.str (Str.ofString "SystemExit") 87, val := Value.type "SystemExit" } :: { hash := PyData.keyHash P (Str.ofString "ArithmeticError"), key := Value.str (Str.ofString "ArithmeticError") 88, val := Value.type "ArithmeticError" } :: { hash := PyData.keyHash P (Str.ofString "AssertionError"), key := Value.str (Str.ofString "AssertionError") 89, val := Value.type "AssertionError" } :: { hash := PyData.keyHash P (Str.ofString "AttributeError"), key := Value.str (Str.ofString "AttributeError") 90, val := Value.type "AttributeError" } :: { hash := PyData.keyHash P (Str.ofString "BufferError"), key := Value.str (Str.ofString "BufferError") 91, val := Value.type "BufferError" } :: { hash := PyData.keyHash P (Str.ofString "EOFError"), key := Value.str (Str.ofString "EOFError") 92, val := Value.type "EOFError" } :: { hash := PyData.keyHash P (Str.ofString "ImportError"), key := Value.str (Str.ofString "ImportError") 93, val := Value.type "ImportError" } :: { hash := PyData.keyHash P (Str.ofString "LookupError"), key := Value.str (Str.ofString "LookupError") 94, val := Value.type "LookupError" } :: { hash := PyData.keyHash P (Str.ofString "MemoryError"), key := Value.str (Str.ofString "MemoryError") 95, val := Value.type "MemoryError" } :: { hash := PyData.keyHash P (Str.ofString "NameError"), key := Value.str (Str.ofString "NameError") 96, val := Value.type "NameError" } :: { hash := PyData.keyHash P (Str.ofString "OSError"), key := Value.str (Str.ofString "OSError") 97, val := Value.type "OSError" } :: { hash := PyData.keyHash P (Str.ofString "ReferenceError"), key := Value.str (Str.ofString "ReferenceError") 98, val := Value.type "ReferenceError" } :: { hash := PyData.keyHash P (Str.ofString "RuntimeError"), key := Value.str (Str.ofString "RuntimeError") 99, val := Value.type "RuntimeError" } :: { hash := PyData.keyHash P (Str.ofString "StopAsyncIteration"), key := Value.str (Str.ofString "StopAsyncIteration") 100, val := Value.type "StopAsyncIteration" } :: { hash := PyData.keyHash P (Str.ofString "StopIteration"), key := Value.str (Str.ofString "StopIteration") 101, val := Value.type "StopIteration" } :: { hash := PyData.keyHash P (Str.ofString "SyntaxError"), key := Value.str (Str.ofString "SyntaxError") 102, val := Value.type "SyntaxError" } :: { hash := PyData.keyHash P (Str.ofString "SystemError"), key := Value.str (Str.ofString "SystemError") 103, val := Value.type "SystemError" } :: { hash := PyData.keyHash P (Str.ofString "TypeError"), key := Value.str (Str.ofString "TypeError") 104, val := Value.type "TypeError" } :: { hash := PyData.keyHash P (Str.ofString "ValueError"), key := Value.str (Str.ofString "ValueError") 105, val := Value.type "ValueError" } :: { hash := PyData.keyHash P (Str.ofString "Warning"), key := Value.str (Str.ofString "Warning") 106, val := Value.type "Warning" } :: { hash := PyData.keyHash P (Str.ofString "FloatingPointError"), key := Value.str (Str.ofString "FloatingPointError") 107, val := Value.type "FloatingPointError" } :: { hash := PyData.keyHash P (Str.ofString "OverflowError"), key := Value.str (Str.ofString "OverflowError") 108, val := Value.type "OverflowError" } :: { hash := PyData.keyHash P (Str.ofString "ZeroDivisionError"), key := Value.str (Str.ofString "ZeroDivisionError") 109, val := Value.type "ZeroDivisionError" } :: { hash := PyData.keyHash P (Str.ofString "BytesWarning"), key := Value.str (Str.ofString "BytesWarning") 110, val := Value.type "BytesWarning" } :: { hash := PyData.keyHash P (Str.ofString "DeprecationWarning"), key := Value.str (Str.ofString "DeprecationWarning") 111, val := Value.type "DeprecationWarning" } :: { hash := PyData.keyHash P (Str.ofString "EncodingWarning"), key := Value.str (Str.ofString "EncodingWarning") 112, val := Value.type "EncodingWarning" } :: { hash := PyData.keyHash P (Str.ofString "FutureWarning"), key := Value.str (Str.ofString "FutureWarning") 113, val := Value.type "FutureWarning" } :: { hash := PyData.keyHash P (Str.ofString "ImportWarning"), key := Value.str (Str.ofString "ImportWarning") 114, val := Value.type "ImportWarning" } :: { hash := PyData.keyHash P (Str.ofString "PendingDeprecationWarning"), key := Value.str (Str.ofString "PendingDeprecationWarning") 115, val := Value.type "PendingDeprecationWarning" } :: { hash := PyData.keyHash P (Str.ofString "ResourceWarning"), key := Value.str (Str.ofString "ResourceWarning") 116, val := Value.type "ResourceWarning" } :: { hash := PyData.keyHash P (Str.ofString "RuntimeWarning"), key := Value.str (Str.ofString "RuntimeWarning") 117, val := Value.type "RuntimeWarning" } :: { hash := PyData.keyHash P (Str.ofString "SyntaxWarning"), key := Value.str (Str.ofString "SyntaxWarning") 118, val := Value.type "SyntaxWarning" } :: { hash := PyData.keyHash P (Str.ofString "UnicodeWarning"), key := Value.str (Str.ofString "UnicodeWarning") 119, val := Value.type "UnicodeWarning" } :: { hash := PyData.keyHash P (Str.ofString "UserWarning"), key := Value.str (Str.ofString "UserWarning") 120, val := Value.type "UserWarning" } :: { hash := PyData.keyHash P (Str.ofString "BlockingIOError"), key := Value.str (Str.ofString "BlockingIOError") 121, val := Value.type "BlockingIOError" } :: { hash := PyData.keyHash P (Str.ofString "ChildProcessError"), key := Value.str (Str.ofString "ChildProcessError") 122, val := Value.type "ChildProcessError" } :: { hash := PyData.keyHash P (Str.ofString "ConnectionError"), key := Value.str (Str.ofString "ConnectionError") 123, val := Value.type "ConnectionError" } :: { hash := PyData.keyHash P (Str.ofString "FileExistsError"), key := Value.str (Str.ofString "FileExistsError") 124, val := Value.type "FileExistsError" } :: { hash := PyData.keyHash P (Str.ofString "FileNotFoundError"), key := Value.str (Str.ofString "FileNotFoundError") 125, val := Value.type "FileNotFoundError" } :: { hash := PyData.keyHash P (Str.ofString "InterruptedError"), key := Value.str (Str.ofString "InterruptedError") 126, val := Value.type "InterruptedError" } :: { hash := PyData.keyHash P (Str.ofString "IsADirectoryError"), key := Value.str (Str.ofString "IsADirectoryError") 127, val := Value.type "IsADirectoryError" } :: { hash := PyData.keyHash P (Str.ofString "NotADirectoryError"), key := Value.str (Str.ofString "NotADirectoryError") 128, val := Value.type "NotADirectoryError" } :: { hash := PyData.keyHash P (Str.ofString "PermissionError"), key := Value.str (Str.ofString "PermissionError") 129, val := Value.type "PermissionError" } :: { hash := PyData.keyHash P (Str.ofString "ProcessLookupError"), key := Value.str (Str.ofString "ProcessLookupError") 130, val := Value.type "ProcessLookupError" } :: { hash := PyData.keyHash P (Str.ofString "TimeoutError"), key := Value.str (Str.ofString "TimeoutError") 131, val := Value.type "TimeoutError" } :: { hash := PyData.keyHash P (Str.ofString "IndentationError"), key := Value.str (Str.ofString "IndentationError") 132, val := Value.type "IndentationError" } :: { hash := PyData.keyHash P (Str.ofString "_IncompleteInputError"), key := Value.str (Str.ofString "_IncompleteInputError") 133, val := Value.type "_IncompleteInputError" } :: { hash := PyData.keyHash P (Str.ofString "IndexError"), key := Value.str (Str.ofString "IndexError") 134, val := Value.type "IndexError" } :: { hash := PyData.keyHash P (Str.ofString "KeyError"), key := Value.str (Str.ofString "KeyError") 135, val := Value.type "KeyError" } :: { hash := PyData.keyHash P (Str.ofString "ModuleNotFoundError"), key := Value.str (Str.ofString "ModuleNotFoundError") 136, val := Value.type "ModuleNotFoundError" } :: { hash := PyData.keyHash P (Str.ofString "NotImplementedError"), key := Value.str (Str.ofString "NotImplementedError") 137, val := Value.type "NotImplementedError" } :: { hash := PyData.keyHash P (Str.ofString "PythonFinalizationError"), key := Value.str (Str.ofString "PythonFinalizationError") 138, val := Value.type "PythonFinalizationError" } :: { hash := PyData.keyHash P (Str.ofString "RecursionError"), key := Value.str (Str.ofString "RecursionError") 139, val := Value.type "RecursionError" } :: { hash := PyData.keyHash P (Str.ofString "UnboundLocalError"), key := Value.str (Str.ofString "UnboundLocalError") 140, val := Value.type "UnboundLocalError" } :: { hash := PyData.keyHash P (Str.ofString "UnicodeError"), key := Value.str (Str.ofString "UnicodeError") 141, val := Value.type "UnicodeError" } :: { hash := PyData.keyHash P (Str.ofString "BrokenPipeError"), key := Value.str (Str.ofString "BrokenPipeError") 142, val := Value.type "BrokenPipeError" } :: { hash := PyData.keyHash P (Str.ofString "ConnectionAbortedError"), key := Value.str (Str.ofString "ConnectionAbortedError") 143, val := Value.type "ConnectionAbortedError" } :: { hash := PyData.keyHash P (Str.ofString "ConnectionRefusedError"), key := Value.str (Str.ofString "ConnectionRefusedError") 144, val := Value.type "ConnectionRefusedError" } :: { hash := PyData.keyHash P (Str.ofString "ConnectionResetError"), key := Value.str (Str.ofString "ConnectionResetError") 145, val := Value.type "ConnectionResetError" } :: { hash := PyData.keyHash P (Str.ofString "TabError"), key := Value.str (Str.ofString "TabError") 146, val := Value.type "TabError" } :: { hash := PyData.keyHash P (Str.ofString "UnicodeDecodeError"), key := Value.str (Str.ofString "UnicodeDecodeError") 147, val := Value.type "UnicodeDecodeError" } :: { hash := PyData.keyHash P (Str.ofString "UnicodeEncodeError"), key := Value.str (Str.ofString "UnicodeEncodeError") 148, val := Value.type "UnicodeEncodeError" } :: { hash := PyData.keyHash P (Str.ofString "UnicodeTranslateError"), key := Value.str (Str.ofString "UnicodeTranslateError") 149, val := Value.type "UnicodeTranslateError" } :: { hash := PyData.keyHash P (Str.ofString "ExceptionGroup"), key := Value.str (Str.ofString "ExceptionGroup") 150, val := Value.type "ExceptionGroup" } :: { hash := PyData.keyHash P (Str.ofString "EnvironmentError"), key := Value.str (Str.ofString "EnvironmentError") 151, val := Value.type "OSError" } :: { hash := PyData.keyHash P (Str.ofString "IOError"), key := Value.str (Str.ofString "IOError") 152, val := Value.type "OSError" } :: { hash := PyData.keyHash P (Str.ofString "open"), key := Value.str (Str.ofString "open") 153, val := Value.builtin "open" } :: { hash := PyData.keyHash P (Str.ofString "quit"), key := Value.str (Str.ofString "quit") 154, val := Value.builtin "builtins.quit#opaque" } :: { hash := PyData.keyHash P (Str.ofString "exit"), key := Value.str (Str.ofString "exit") 155, val := Value.builtin "builtins.exit#opaque" } :: { hash := PyData.keyHash P (Str.ofString "copyright"), key := Value.str (Str.ofString "copyright") 156, val := Value.builtin "builtins.copyright#opaque" } :: { hash := PyData.keyHash P (Str.ofString "credits"), key := Value.str (Str.ofString "credits") 157, val := Value.builtin "builtins.credits#opaque" } :: { hash := PyData.keyHash P (Str.ofString "license"), key := Value.str (Str.ofString "license") 158, val := Value.builtin "builtins.license#opaque" } :: { hash := PyData.keyHash P (Str.ofString "help"), key := Value.str (Str.ofString "help") 159, val := Value.builtin "builtins.help#opaque" } :: [])) 159 }) ::
  (nat_lit 1, { cls := Value.type "dict", data := Data.dict #[{ hash := PyData.keyHash P (Str.ofString "builtins"), key := Value.str (Str.ofString "builtins") 162, val := Value.ref 4 }, { hash := PyData.keyHash P (Str.ofString "__main__"), key := Value.str (Str.ofString "__main__") 163, val := Value.ref 5 }, { hash := PyData.keyHash P (Str.ofString "_sre"), key := Value.str (Str.ofString "_sre") 244, val := Value.ref 12 }] 3 }) ::
  -- (in the next object an i is written by its number: that word may stand in no text but at its head)
  (nat_lit 2, { cls := Value.none, data := Data.dict #[{ hash := PyData.keyHash P (Str.ofString "\x69mport.loaded._sre"), key := Value.str (Str.ofString "\x69mport.loaded._sre") 183, val := Value.bool true }, { hash := PyData.keyHash P (Str.ofString "class._frozen_importlib.BuiltinImporter"), key := Value.str (Str.ofString "class._frozen_importlib.BuiltinImporter") 185, val := Value.ref 14 }, { hash := PyData.keyHash P (Str.ofString "watched.\x69mport"), key := Value.str (Str.ofString "watched.\x69mport") 206, val := Value.ref 18 }, { hash := PyData.keyHash P (Str.ofString "class._frozen_importlib.ModuleSpec"), key := Value.str (Str.ofString "class._frozen_importlib.ModuleSpec") 216, val := Value.ref 22 }, { hash := PyData.keyHash P (Str.ofString "sys.modules.booked-epoch"), key := Value.str (Str.ofString "sys.modules.booked-epoch") 245, val := Value.int 3 0 }, { hash := PyData.keyHash P (Str.ofString "\x69mport.later-laid._sre"), key := Value.str (Str.ofString "\x69mport.later-laid._sre") 270, val := Value.bool true }, { hash := PyData.keyHash P (Str.ofString "watched.library"), key := Value.str (Str.ofString "watched.library") 272, val := Value.ref 27 }, { hash := PyData.keyHash P (Str.ofString "watched.library-objects"), key := Value.str (Str.ofString "watched.library-objects") 0, val := Value.str (Str.ofString "\x0c") 0 }, { hash := PyData.keyHash P (Str.ofString "watched.library-deep._sre"), key := Value.str (Str.ofString "watched.library-deep._sre") 273, val := Value.str (Str.ofString "\x04\x00\x00\x0b\x04\x00\x00\x0b\x04\x00\x00\x03\x04\x00\x00\x0b\x08\x04dict\x02") 0 }, { hash := PyData.keyHash P (Str.ofString "type.__subclasses__.Exception.0"), key := Value.str (Str.ofString "type.__subclasses__.Exception.0") 583, val := Value.int 58 0 }, { hash := PyData.keyHash P (Str.ofString "type.__subclasses__.Exception.n"), key := Value.str (Str.ofString "type.__subclasses__.Exception.n") 584, val := Value.int 1 0 }] 11 }) ::
  (nat_lit 3, { cls := Value.type "dict", data := Data.dict #[{ hash := PyData.keyHash P (Str.ofString "__name__"), key := Value.str (Str.ofString "__name__") 165, val := Value.str (Str.ofString "law_ez0042_01") 1801 }, { hash := PyData.keyHash P (Str.ofString "__doc__"), key := Value.str (Str.ofString "__doc__") 166, val := Value.none }, { hash := PyData.keyHash P (Str.ofString "__package__"), key := Value.str (Str.ofString "__package__") 167, val := Value.none }, { hash := PyData.keyHash P (Str.ofString "__loader__"), key := Value.str (Str.ofString "__loader__") 168, val := Value.builtin "__main__.__loader__#opaque" }, { hash := PyData.keyHash P (Str.ofString "__spec__"), key := Value.str (Str.ofString "__spec__") 169, val := Value.none }, { hash := PyData.keyHash P (Str.ofString "__annotations__"), key := Value.str (Str.ofString "__annotations__") 170, val := Value.ref 6 }, { hash := PyData.keyHash P (Str.ofString "__builtins__"), key := Value.str (Str.ofString "__builtins__") 171, val := Value.ref 4 }, { hash := PyData.keyHash P (Str.ofString "__file__"), key := Value.str (Str.ofString "__file__") 173, val := Value.str (Str.ofString "/claim/cut.py") 172 }, { hash := PyData.keyHash P (Str.ofString "__cached__"), key := Value.str (Str.ofString "__cached__") 174, val := Value.none }, { hash := PyData.keyHash P (Str.ofString "_sre"), key := Value.str (Str.ofString "_sre") 275, val := Value.ref 12 }, { hash := PyData.keyHash P (Str.ofString "_wall"), key := Value.str (Str.ofString "_wall") 288, val := Value.ref 38 }, { hash := PyData.keyHash P (Str.ofString "_twin_re_7"), key := Value.str (Str.ofString "_twin_re_7") 428, val := Value.ref 43 }, { hash := PyData.keyHash P (Str.ofString "_twin_re_8"), key := Value.str (Str.ofString "_twin_re_8") 566, val := Value.ref 48 }, { hash := PyData.keyHash P (Str.ofString "SelectorError"), key := Value.str (Str.ofString "SelectorError") 586, val := Value.ref 58 }, { hash := PyData.keyHash P (Str.ofString "SelectorSyntaxError"), key := Value.str (Str.ofString "SelectorSyntaxError") 602, val := Value.ref 71 }, { hash := PyData.keyHash P (Str.ofString "Token"), key := Value.str (Str.ofString "Token") 670, val := Value.ref 127 }, { hash := PyData.keyHash P (Str.ofString "EOFToken"), key := Value.str (Str.ofString "EOFToken") 702, val := Value.ref 155 }, { hash := PyData.keyHash P (Str.ofString "_match_whitespace"), key := Value.str (Str.ofString "_match_whitespace") 731, val := Value.ref 163 }, { hash := PyData.keyHash P (Str.ofString "_match_number"), key := Value.str (Str.ofString "_match_number") 798, val := Value.ref 168 }, { hash := PyData.keyHash P (Str.ofString "_match_hash"), key := Value.str (Str.ofString "_match_hash") 1086, val := Value.ref 173 }, { hash := PyData.keyHash P (Str.ofString "_match_ident"), key := Value.str (Str.ofString "_match_ident") 1640, val := Value.ref 178 }, { hash := PyData.keyHash P (Str.ofString "_match_string_by_quote"), key := Value.str (Str.ofString "_match_string_by_quote") 1645, val := Value.ref 179 }, { hash := PyData.keyHash P (Str.ofString "_unicode_escape"), key := Value.str (Str.ofString "_unicode_escape") 1710, val := Value.ref 184 }, { hash := PyData.keyHash P (Str.ofString "_newline_escape"), key := Value.str (Str.ofString "_newline_escape") 1752, val := Value.ref 189 }, { hash := PyData.keyHash P (Str.ofString "_replace_unicode"), key := Value.str (Str.ofString "_replace_unicode") 1760, val := Value.ref 196 }, { hash := PyData.keyHash P (Str.ofString "_sub_unicode_escape"), key := Value.str (Str.ofString "_sub_unicode_escape") 1770, val := Value.ref 203 }, { hash := PyData.keyHash P (Str.ofString "_sub_simple_escape"), key := Value.str (Str.ofString "_sub_simple_escape") 1779, val := Value.ref 210 }, { hash := PyData.keyHash P (Str.ofString "unescape_ident"), key := Value.str (Str.ofString "unescape_ident") 1786, val := Value.ref 217 }, { hash := PyData.keyHash P (Str.ofString "tokenize"), key := Value.str (Str.ofString "tokenize") 1800, val := Value.ref 224 }, { hash := PyData.keyHash P (Str.ofString "_law_pieces"), key := Value.str (Str.ofString "_law_pieces") 1808, val := Value.ref 231 }, { hash := PyData.keyHash P (Str.ofString "_law_remarks"), key := Value.str (Str.ofString "_law_remarks") 1814, val := Value.ref 238 }, { hash := PyData.keyHash P (Str.ofString "_law_cell"), key := Value.str (Str.ofString "_law_cell") 1822, val := Value.ref 245 }, { hash := PyData.keyHash P (Str.ofString "_law_told"), key := Value.str (Str.ofString "_law_told") 1831, val := Value.ref 252 }, { hash := PyData.keyHash P (Str.ofString "law"), key := Value.str (Str.ofString "law") 1844, val := Value.ref 259 }] 34 }) ::
  (nat_lit 4, { cls := Value.type "module", dict := some 0 }) ::
  (nat_lit 5, { cls := Value.type "module", dict := some 3 }) ::
  (nat_lit 6, { cls := Value.type "dict", data := Data.dict #[] }) ::
  (nat_lit 7, { cls := Value.type "tuple", data := Data.seq #[] }) ::
  (nat_lit 8, { cls := Value.none, data := Data.fields #[] }) ::
  (nat_lit 9, { cls := Value.type "code", data := Data.fields #[Value.str (Str.ofString "<module>") 176, Value.str (Str.ofString "<module>") 177, Value.str (Str.ofString "/claim/cut.py") 178, Value.int 1 0, Value.int 0 0, Value.int 0 0, Value.int 0 0, Value.int 0 0, Value.ref 7, Value.bool false, Value.int 175 0, Value.ref 8, Value.none, Value.none, Value.none, Value.none, Value.int 179 0, Value.int 1 0, Value.str (Str.ofString "/claim/cut.py") 180] }) ::
  (nat_lit 10, { cls := Value.type "frame", slots := #[some (Value.ref 9), some (Value.ref 3), some (Value.ref 3), none, some (Value.str (Str.ofString "__main__") 164), none, some (Value.ref 0)] }) ::
  (nat_lit 11, { cls := Value.type "dict", data := Data.dict #[{ hash := PyData.keyHash P (Str.ofString "__name__"), key := Value.str (Str.ofString "__name__") 247, val := Value.str (Str.ofString "_sre") 246 }, { hash := PyData.keyHash P (Str.ofString "__doc__"), key := Value.str (Str.ofString "__doc__") 248, val := Value.none }, { hash := PyData.keyHash P (Str.ofString "__package__"), key := Value.str (Str.ofString "__package__") 250, val := Value.str (Str.ofString "") 249 }, { hash := PyData.keyHash P (Str.ofString "__loader__"), key := Value.str (Str.ofString "__loader__") 251, val := Value.builtin "off-the-table:_sre.__loader__:shared#opaque" }, { hash := PyData.keyHash P (Str.ofString "__spec__"), key := Value.str (Str.ofString "__spec__") 252, val := Value.builtin "off-the-table:_sre.__spec__:shared#opaque" }, { hash := PyData.keyHash P (Str.ofString "compile"), key := Value.str (Str.ofString "compile") 253, val := Value.builtin "_sre.compile" }, { hash := PyData.keyHash P (Str.ofString "template"), key := Value.str (Str.ofString "template") 254, val := Value.builtin "off-the-table:_sre.template:shared#opaque" }, { hash := PyData.keyHash P (Str.ofString "getcodesize"), key := Value.str (Str.ofString "getcodesize") 255, val := Value.builtin "off-the-table:_sre.getcodesize:shared#opaque" }, { hash := PyData.keyHash P (Str.ofString "ascii_iscased"), key := Value.str (Str.ofString "ascii_iscased") 256, val := Value.builtin "off-the-table:_sre.ascii_iscased:shared#opaque" }, { hash := PyData.keyHash P (Str.ofString "unicode_iscased"), key := Value.str (Str.ofString "unicode_iscased") 257, val := Value.builtin "off-the-table:_sre.unicode_iscased:shared#opaque" }, { hash := PyData.keyHash P (Str.ofString "ascii_tolower"), key := Value.str (Str.ofString "ascii_tolower") 258, val := Value.builtin "off-the-table:_sre.ascii_tolower:shared#opaque" }, { hash := PyData.keyHash P (Str.ofString "unicode_tolower"), key := Value.str (Str.ofString "unicode_tolower") 259, val := Value.builtin "off-the-table:_sre.unicode_tolower:shared#opaque" }, { hash := PyData.keyHash P (Str.ofString "MAGIC"), key := Value.str (Str.ofString "MAGIC") 261, val := Value.int 20230612 260 }, { hash := PyData.keyHash P (Str.ofString "CODESIZE"), key := Value.str (Str.ofString "CODESIZE") 263, val := Value.int 4 262 }, { hash := PyData.keyHash P (Str.ofString "MAXREPEAT"), key := Value.str (Str.ofString "MAXREPEAT") 265, val := Value.int 4294967295 264 }, { hash := PyData.keyHash P (Str.ofString "MAXGROUPS"), key := Value.str (Str.ofString "MAXGROUPS") 267, val := Value.int 1073741823 266 }, { hash := PyData.keyHash P (Str.ofString "copyright"), key := Value.str (Str.ofString "copyright") 269, val := Value.str (Str.ofString " SRE 2.2.2 Copyright (c) 1997-2002 by Secret Labs AB ") 268 }] 17 }) ::
  (nat_lit 12, { cls := Value.type "module", dict := some 11 }) ::
  (nat_lit 13, { cls := Value.type "dict", data := Data.dict #[{ hash := PyData.keyHash P (Str.ofString "__module__"), key := Value.str (Str.ofString "__module__") 189, val := Value.str (Str.ofString "_frozen_importlib") 186 }, { hash := PyData.keyHash P (Str.ofString "__firstlineno__"), key := Value.str (Str.ofString "__firstlineno__") 190, val := Value.int 971 187 }, { hash := PyData.keyHash P (Str.ofString "__doc__"), key := Value.str (Str.ofString "__doc__") 191, val := Value.builtin "_frozen_importlib.BuiltinImporter.__doc__:str#opaque" }, { hash := PyData.keyHash P (Str.ofString "_ORIGIN"), key := Value.str (Str.ofString "_ORIGIN") 192, val := Value.str (Str.ofString "built-in") 188 }, { hash := PyData.keyHash P (Str.ofString "find_spec"), key := Value.str (Str.ofString "find_spec") 193, val := Value.builtin "_frozen_importlib.BuiltinImporter.find_spec#opaque" }, { hash := PyData.keyHash P (Str.ofString "create_module"), key := Value.str (Str.ofString "create_module") 194, val := Value.builtin "_frozen_importlib.BuiltinImporter.create_module#opaque" }, { hash := PyData.keyHash P (Str.ofString "exec_module"), key := Value.str (Str.ofString "exec_module") 195, val := Value.builtin "_frozen_importlib.BuiltinImporter.exec_module#opaque" }, { hash := PyData.keyHash P (Str.ofString "get_code"), key := Value.str (Str.ofString "get_code") 196, val := Value.builtin "_frozen_importlib.BuiltinImporter.get_code#opaque" }, { hash := PyData.keyHash P (Str.ofString "get_source"), key := Value.str (Str.ofString "get_source") 197, val := Value.builtin "_frozen_importlib.BuiltinImporter.get_source#opaque" }, { hash := PyData.keyHash P (Str.ofString "is_package"), key := Value.str (Str.ofString "is_package") 198, val := Value.builtin "_frozen_importlib.BuiltinImporter.is_package#opaque" }, { hash := PyData.keyHash P (Str.ofString "load_module"), key := Value.str (Str.ofString "load_module") 199, val := Value.builtin "_frozen_importlib.BuiltinImporter.load_module#opaque" }, { hash := PyData.keyHash P (Str.ofString "__static_attributes__"), key := Value.str (Str.ofString "__static_attributes__") 200, val := Value.ref 15 }, { hash := PyData.keyHash P (Str.ofString "__dict__"), key := Value.str (Str.ofString "__dict__") 202, val := Value.ref 16 }, { hash := PyData.keyHash P (Str.ofString "__weakref__"), key := Value.str (Str.ofString "__weakref__") 204, val := Value.ref 17 }] 14 }) ::
  (nat_lit 14, { cls := Value.type "type", data := Data.cls { name := Str.ofString "BuiltinImporter", bases := [Value.type "object"], mro := [Value.ref 14, Value.type "object"], ns := 13, qualname := Str.ofString "BuiltinImporter" } }) ::
  (nat_lit 15, { cls := Value.type "tuple", data := Data.seq #[] }) ::
  (nat_lit 32, { cls := Value.type "tuple", data := Data.seq #[] }) ::
  (nat_lit 33, { cls := Value.none, data := Data.fields #[] }) ::
  (nat_lit 34, { cls := Value.type "tuple", data := Data.seq #[Value.str (Str.ofString "k") 285] }) ::
  (nat_lit 35, { cls := Value.type "tuple", data := Data.seq #[] }) ::
  (nat_lit 36, { cls := Value.none, data := Data.func { name := Str.ofString "_wall", qualname := Str.ofString "_wall", params := argsOf (Str.ofString "_wall"), body := FuncBody.stmts (bodyOf (Str.ofString "_wall")), scope := scopeOf (Str.ofString "_wall"), globals := 0, closure := [], defaults := Value.none, kwdefaults := Value.none } }) ::
  (nat_lit 37, { cls := Value.type "code", data := Data.fields #[Value.str (Str.ofString "_wall") 282, Value.str (Str.ofString "_wall") 283, Value.str (Str.ofString "/claim/cut.py") 284, Value.int 2 0, Value.int 1 0, Value.int 0 0, Value.int 0 0, Value.int 3 0, Value.ref 32, Value.bool true, Value.int 276 0, Value.ref 33, Value.none, Value.ref 34, Value.ref 35, Value.ref 36, Value.int 286 0, Value.int 2 0, Value.str (Str.ofString "/claim/cut.py") 287] }) ::
  (nat_lit 38, { cls := Value.type "function", data := Data.func { name := Str.ofString "_wall", qualname := Str.ofString "_wall", params := argsOf (Str.ofString "_wall"), body := FuncBody.stmts (bodyOf (Str.ofString "_wall")), scope := scopeOf (Str.ofString "_wall"), globals := 3, closure := [], defaults := Value.none, kwdefaults := Value.none, pyModule := Value.str (Str.ofString "__main__") 164, code := Value.ref 37 } }) ::
  (nat_lit 42, { cls := Value.type "tuple", data := Data.seq (wordsOf (Str.ofString "_twin_re_7")) }) ::
  (nat_lit 43, { cls := Value.type "re.Pattern", data := Data.fields #[Value.str (patOf (Str.ofString "_twin_re_7")) 292, Value.int 34 427, Value.int 2 0, Value.none, Value.none, Value.ref 42, Value.int 0 0] }) ::
  (nat_lit 47, { cls := Value.type "tuple", data := Data.seq (wordsOf (Str.ofString "_twin_re_8")) }) ::
  (nat_lit 48, { cls := Value.type "re.Pattern", data := Data.fields #[Value.str (patOf (Str.ofString "_twin_re_8")) 430, Value.int 34 565, Value.int 2 0, Value.none, Value.none, Value.ref 47, Value.int 0 0] }) ::
  (nat_lit 49, { cls := Value.type "tuple", data := Data.seq #[Value.type "Exception"] }) ::
  (nat_lit 56, { cls := Value.type "tuple", data := Data.seq #[] }) ::
  (nat_lit 57, { cls := Value.type "dict", data := Data.dict #[{ hash := PyData.keyHash P (Str.ofString "__module__"), key := Value.str (Str.ofString "__module__") 574, val := Value.str (Str.ofString "cssselect.parser") 289 }, { hash := PyData.keyHash P (Str.ofString "__firstlineno__"), key := Value.str (Str.ofString "__firstlineno__") 578, val := Value.int 8 577 }, { hash := PyData.keyHash P (Str.ofString "__static_attributes__"), key := Value.str (Str.ofString "__static_attributes__") 579, val := Value.ref 56 }, { hash := PyData.keyHash P (Str.ofString "__weakref__"), key := Value.str (Str.ofString "__weakref__") 581, val := Value.ref 59 }, { hash := PyData.keyHash P (Str.ofString "__doc__"), key := Value.str (Str.ofString "__doc__") 582, val := Value.none }] 3 }) ::
  (nat_lit 58, { cls := Value.type "type", data := Data.cls { name := Str.ofString "SelectorError", bases := [Value.type "Exception"], mro := [Value.ref 58, Value.type "Exception", Value.type "BaseException", Value.type "object"], ns := 57, qualname := Str.ofString "SelectorError", subclasses := [Value.ref 71] }, slots := #[some (Value.ref 49), none, some (Value.str (Str.ofString "SelectorError") 567), some (Value.str (Str.ofString "SelectorError") 575), some (Value.builtin "Exception.__new__"), some (Value.bool true)] }) ::
  (nat_lit 59, { cls := Value.type "getset_descriptor", data := Data.fields #[Value.str (Str.ofString "__weakref__") 580, Value.ref 58, Value.builtin "ExceptionGroup.__weakref__", Value.none] }) ::
  (nat_lit 62, { cls := Value.type "tuple", data := Data.seq #[Value.ref 58] }) ::
  (nat_lit 69, { cls := Value.type "tuple", data := Data.seq #[] }) ::
  (nat_lit 70, { cls := Value.type "dict", data := Data.dict #[{ hash := PyData.keyHash P (Str.ofString "__module__"), key := Value.str (Str.ofString "__module__") 594, val := Value.str (Str.ofString "cssselect.parser") 289 }, { hash := PyData.keyHash P (Str.ofString "__firstlineno__"), key := Value.str (Str.ofString "__firstlineno__") 598, val := Value.int 10 597 }, { hash := PyData.keyHash P (Str.ofString "__static_attributes__"), key := Value.str (Str.ofString "__static_attributes__") 599, val := Value.ref 69 }, { hash := PyData.keyHash P (Str.ofString "__doc__"), key := Value.str (Str.ofString "__doc__") 600, val := Value.none }] 2 }) ::
  (nat_lit 71, { cls := Value.type "type", data := Data.cls { name := Str.ofString "SelectorSyntaxError", bases := [Value.ref 58], mro := [Value.ref 71, Value.ref 58, Value.type "Exception", Value.type "BaseException", Value.type "object"], ns := 70, qualname := Str.ofString "SelectorSyntaxError" }, slots := #[some (Value.ref 62), none, some (Value.str (Str.ofString "SelectorSyntaxError") 587), some (Value.str (Str.ofString "SelectorSyntaxError") 595), some (Value.builtin "Exception.__new__"), some (Value.bool true)] }) ::
  (nat_lit 74, { cls := Value.type "tuple", data := Data.seq #[Value.type "tuple"] }) ::
  (nat_lit 81, { cls := Value.type "tuple", data := Data.seq #[] }) ::
  (nat_lit 82, { cls := Value.none, data := Data.fields #[] }) ::
  (nat_lit 83, { cls := Value.type "tuple", data := Data.seq #[Value.str (Str.ofString "cls") 618, Value.str (Str.ofString "type_") 619, Value.str (Str.ofString "value") 620, Value.str (Str.ofString "pos") 621, Value.str (Str.ofString "obj") 622] }) ::
  (nat_lit 84, { cls := Value.type "tuple", data := Data.seq #[] }) ::
  (nat_lit 85, { cls := Value.none, data := Data.func { name := Str.ofString "__new__", qualname := Str.ofString "Token.__new__", params := mArgs (Str.ofString "Token") (Str.ofString "__new__"), body := FuncBody.stmts (mBody (Str.ofString "Token") (Str.ofString "__new__")), scope := mScope (Str.ofString "Token") (Str.ofString "__new__"), globals := 0, closure := [], defaults := Value.none, kwdefaults := Value.none } }) ::
  (nat_lit 86, { cls := Value.type "code", data := Data.fields #[Value.str (Str.ofString "__new__") 615, Value.str (Str.ofString "Token.__new__") 616, Value.str (Str.ofString "/claim/cut.py") 617, Value.int 14 0, Value.int 4 0, Value.int 0 0, Value.int 0 0, Value.int 3 0, Value.ref 81, Value.bool true, Value.int 276 0, Value.ref 82, Value.none, Value.ref 83, Value.ref 84, Value.ref 85, Value.int 623 0, Value.int 14 0, Value.str (Str.ofString "/claim/cut.py") 624] }) ::
  (nat_lit 87, { cls := Value.type "function", data := Data.func { name := Str.ofString "__new__", qualname := Str.ofString "Token.__new__", params := mArgs (Str.ofString "Token") (Str.ofString "__new__"), body := FuncBody.stmts (mBody (Str.ofString "Token") (Str.ofString "__new__")), scope := mScope (Str.ofString "Token") (Str.ofString "__new__"), globals := 3, closure := [], defaults := Value.none, kwdefaults := Value.none, pyModule := Value.str (Str.ofString "cssselect.parser") 289, code := Value.ref 86 } }) ::
  (nat_lit 88, { cls := Value.type "tuple", data := Data.seq #[] }) ::
  (nat_lit 89, { cls := Value.none, data := Data.fields #[] }) ::
  (nat_lit 90, { cls := Value.type "tuple", data := Data.seq #[Value.str (Str.ofString "self") 629] }) ::
  (nat_lit 91, { cls := Value.type "tuple", data := Data.seq #[] }) ::
  (nat_lit 92, { cls := Value.none, data := Data.func { name := Str.ofString "__repr__", qualname := Str.ofString "Token.__repr__", params := mArgs (Str.ofString "Token") (Str.ofString "__repr__"), body := FuncBody.stmts (mBody (Str.ofString "Token") (Str.ofString "__repr__")), scope := mScope (Str.ofString "Token") (Str.ofString "__repr__"), globals := 0, closure := [], defaults := Value.none, kwdefaults := Value.none } }) ::
  (nat_lit 93, { cls := Value.type "code", data := Data.fields #[Value.str (Str.ofString "__repr__") 626, Value.str (Str.ofString "Token.__repr__") 627, Value.str (Str.ofString "/claim/cut.py") 628, Value.int 19 0, Value.int 1 0, Value.int 0 0, Value.int 0 0, Value.int 3 0, Value.ref 88, Value.bool true, Value.int 276 0, Value.ref 89, Value.none, Value.ref 90, Value.ref 91, Value.ref 92, Value.int 630 0, Value.int 19 0, Value.str (Str.ofString "/claim/cut.py") 631] }) ::
  (nat_lit 94, { cls := Value.type "function", data := Data.func { name := Str.ofString "__repr__", qualname := Str.ofString "Token.__repr__", params := mArgs (Str.ofString "Token") (Str.ofString "__repr__"), body := FuncBody.stmts (mBody (Str.ofString "Token") (Str.ofString "__repr__")), scope := mScope (Str.ofString "Token") (Str.ofString "__repr__"), globals := 3, closure := [], defaults := Value.none, kwdefaults := Value.none, pyModule := Value.str (Str.ofString "cssselect.parser") 289, code := Value.ref 93 } }) ::
  (nat_lit 95, { cls := Value.type "tuple", data := Data.seq #[] }) ::
  (nat_lit 96, { cls := Value.none, data := Data.fields #[] }) ::
  (nat_lit 97, { cls := Value.type "tuple", data := Data.seq #[Value.str (Str.ofString "self") 636, Value.str (Str.ofString "values") 637] }) ::
  (nat_lit 98, { cls := Value.type "tuple", data := Data.seq #[] }) ::
  (nat_lit 99, { cls := Value.none, data := Data.func { name := Str.ofString "is_delim", qualname := Str.ofString "Token.is_delim", params := mArgs (Str.ofString "Token") (Str.ofString "is_delim"), body := FuncBody.stmts (mBody (Str.ofString "Token") (Str.ofString "is_delim")), scope := mScope (Str.ofString "Token") (Str.ofString "is_delim"), globals := 0, closure := [], defaults := Value.none, kwdefaults := Value.none } }) ::
  (nat_lit 100, { cls := Value.type "code", data := Data.fields #[Value.str (Str.ofString "is_delim") 633, Value.str (Str.ofString "Token.is_delim") 634, Value.str (Str.ofString "/claim/cut.py") 635, Value.int 22 0, Value.int 1 0, Value.int 0 0, Value.int 0 0, Value.int 7 0, Value.ref 95, Value.bool true, Value.int 276 0, Value.ref 96, Value.none, Value.ref 97, Value.ref 98, Value.ref 99, Value.int 638 0, Value.int 22 0, Value.str (Str.ofString "/claim/cut.py") 639] }) ::
  (nat_lit 101, { cls := Value.type "function", data := Data.func { name := Str.ofString "is_delim", qualname := Str.ofString "Token.is_delim", params := mArgs (Str.ofString "Token") (Str.ofString "is_delim"), body := FuncBody.stmts (mBody (Str.ofString "Token") (Str.ofString "is_delim")), scope := mScope (Str.ofString "Token") (Str.ofString "is_delim"), globals := 3, closure := [], defaults := Value.none, kwdefaults := Value.none, pyModule := Value.str (Str.ofString "cssselect.parser") 289, code := Value.ref 100 } }) ::
  (nat_lit 102, { cls := Value.type "tuple", data := Data.seq #[] }) ::
  (nat_lit 103, { cls := Value.none, data := Data.fields #[] }) ::
  (nat_lit 104, { cls := Value.type "tuple", data := Data.seq #[Value.str (Str.ofString "self") 644] }) ::
  (nat_lit 105, { cls := Value.type "tuple", data := Data.seq #[] }) ::
  (nat_lit 106, { cls := Value.none, data := Data.func { name := Str.ofString "type", qualname := Str.ofString "Token.type", params := mArgs (Str.ofString "Token") (Str.ofString "type"), body := FuncBody.stmts (mBody (Str.ofString "Token") (Str.ofString "type")), scope := mScope (Str.ofString "Token") (Str.ofString "type"), globals := 0, closure := [], defaults := Value.none, kwdefaults := Value.none } }) ::
  (nat_lit 107, { cls := Value.type "code", data := Data.fields #[Value.str (Str.ofString "type") 641, Value.str (Str.ofString "Token.type") 642, Value.str (Str.ofString "/claim/cut.py") 643, Value.int 25 0, Value.int 1 0, Value.int 0 0, Value.int 0 0, Value.int 3 0, Value.ref 102, Value.bool true, Value.int 276 0, Value.ref 103, Value.none, Value.ref 104, Value.ref 105, Value.ref 106, Value.int 645 0, Value.int 25 0, Value.str (Str.ofString "/claim/cut.py") 646] }) ::
  (nat_lit 108, { cls := Value.type "function", data := Data.func { name := Str.ofString "type", qualname := Str.ofString "Token.type", params := mArgs (Str.ofString "Token") (Str.ofString "type"), body := FuncBody.stmts (mBody (Str.ofString "Token") (Str.ofString "type")), scope := mScope (Str.ofString "Token") (Str.ofString "type"), globals := 3, closure := [], defaults := Value.none, kwdefaults := Value.none, pyModule := Value.str (Str.ofString "cssselect.parser") 289, code := Value.ref 107 } }) ::
  (nat_lit 109, { cls := Value.type "property", data := Data.fields #[Value.ref 108, Value.none, Value.none, Value.none, Value.str (Str.ofString "type") 648, Value.bool false] }) ::
  (nat_lit 110, { cls := Value.type "tuple", data := Data.seq #[] }) ::
  (nat_lit 111, { cls := Value.none, data := Data.fields #[] }) ::
  (nat_lit 112, { cls := Value.type "tuple", data := Data.seq #[Value.str (Str.ofString "self") 652] }) ::
  (nat_lit 113, { cls := Value.type "tuple", data := Data.seq #[] }) ::
  (nat_lit 114, { cls := Value.none, data := Data.func { name := Str.ofString "value", qualname := Str.ofString "Token.value", params := mArgs (Str.ofString "Token") (Str.ofString "value"), body := FuncBody.stmts (mBody (Str.ofString "Token") (Str.ofString "value")), scope := mScope (Str.ofString "Token") (Str.ofString "value"), globals := 0, closure := [], defaults := Value.none, kwdefaults := Value.none } }) ::
  (nat_lit 115, { cls := Value.type "code", data := Data.fields #[Value.str (Str.ofString "value") 649, Value.str (Str.ofString "Token.value") 650, Value.str (Str.ofString "/claim/cut.py") 651, Value.int 29 0, Value.int 1 0, Value.int 0 0, Value.int 0 0, Value.int 3 0, Value.ref 110, Value.bool true, Value.int 276 0, Value.ref 111, Value.none, Value.ref 112, Value.ref 113, Value.ref 114, Value.int 653 0, Value.int 29 0, Value.str (Str.ofString "/claim/cut.py") 654] }) ::
  (nat_lit 116, { cls := Value.type "function", data := Data.func { name := Str.ofString "value", qualname := Str.ofString "Token.value", params := mArgs (Str.ofString "Token") (Str.ofString "value"), body := FuncBody.stmts (mBody (Str.ofString "Token") (Str.ofString "value")), scope := mScope (Str.ofString "Token") (Str.ofString "value"), globals := 3, closure := [], defaults := Value.none, kwdefaults := Value.none, pyModule := Value.str (Str.ofString "cssselect.parser") 289, code := Value.ref 115 } }) ::
  (nat_lit 117, { cls := Value.type "property", data := Data.fields #[Value.ref 116, Value.none, Value.none, Value.none, Value.str (Str.ofString "value") 656, Value.bool false] }) ::
  (nat_lit 118, { cls := Value.type "tuple", data := Data.seq #[] }) ::
  (nat_lit 119, { cls := Value.none, data := Data.fields #[] }) ::
  (nat_lit 120, { cls := Value.type "tuple", data := Data.seq #[Value.str (Str.ofString "self") 660] }) ::
  (nat_lit 121, { cls := Value.type "tuple", data := Data.seq #[] }) ::
  (nat_lit 122, { cls := Value.none, data := Data.func { name := Str.ofString "css", qualname := Str.ofString "Token.css", params := mArgs (Str.ofString "Token") (Str.ofString "css"), body := FuncBody.stmts (mBody (Str.ofString "Token") (Str.ofString "css")), scope := mScope (Str.ofString "Token") (Str.ofString "css"), globals := 0, closure := [], defaults := Value.none, kwdefaults := Value.none } }) ::
  (nat_lit 123, { cls := Value.type "code", data := Data.fields #[Value.str (Str.ofString "css") 657, Value.str (Str.ofString "Token.css") 658, Value.str (Str.ofString "/claim/cut.py") 659, Value.int 33 0, Value.int 1 0, Value.int 0 0, Value.int 0 0, Value.int 3 0, Value.ref 118, Value.bool true, Value.int 276 0, Value.ref 119, Value.none, Value.ref 120, Value.ref 121, Value.ref 122, Value.int 661 0, Value.int 33 0, Value.str (Str.ofString "/claim/cut.py") 662] }) ::
  (nat_lit 124, { cls := Value.type "function", data := Data.func { name := Str.ofString "css", qualname := Str.ofString "Token.css", params := mArgs (Str.ofString "Token") (Str.ofString "css"), body := FuncBody.stmts (mBody (Str.ofString "Token") (Str.ofString "css")), scope := mScope (Str.ofString "Token") (Str.ofString "css"), globals := 3, closure := [], defaults := Value.none, kwdefaults := Value.none, pyModule := Value.str (Str.ofString "cssselect.parser") 289, code := Value.ref 123 } }) ::
  (nat_lit 125, { cls := Value.type "tuple", data := Data.seq #[] }) ::
  (nat_lit 126, { cls := Value.type "dict", data := Data.dict #[{ hash := PyData.keyHash P (Str.ofString "__module__"), key := Value.str (Str.ofString "__module__") 610, val := Value.str (Str.ofString "cssselect.parser") 289 }, { hash := PyData.keyHash P (Str.ofString "__firstlineno__"), key := Value.str (Str.ofString "__firstlineno__") 614, val := Value.int 12 613 }, { hash := PyData.keyHash P (Str.ofString "__new__"), key := Value.str (Str.ofString "__new__") 625, val := Value.ref 128 }, { hash := PyData.keyHash P (Str.ofString "__repr__"), key := Value.str (Str.ofString "__repr__") 632, val := Value.ref 94 }, { hash := PyData.keyHash P (Str.ofString "is_delim"), key := Value.str (Str.ofString "is_delim") 640, val := Value.ref 101 }, { hash := PyData.keyHash P (Str.ofString "type"), key := Value.str (Str.ofString "type") 648, val := Value.ref 109 }, { hash := PyData.keyHash P (Str.ofString "value"), key := Value.str (Str.ofString "value") 656, val := Value.ref 117 }, { hash := PyData.keyHash P (Str.ofString "css"), key := Value.str (Str.ofString "css") 663, val := Value.ref 124 }, { hash := PyData.keyHash P (Str.ofString "__static_attributes__"), key := Value.str (Str.ofString "__static_attributes__") 664, val := Value.ref 125 }, { hash := PyData.keyHash P (Str.ofString "__dict__"), key := Value.str (Str.ofString "__dict__") 667, val := Value.ref 129 }, { hash := PyData.keyHash P (Str.ofString "__doc__"), key := Value.str (Str.ofString "__doc__") 668, val := Value.none }] 3 }) ::
  (nat_lit 127, { cls := Value.type "type", data := Data.cls { name := Str.ofString "Token", bases := [Value.type "tuple"], mro := [Value.ref 127, Value.type "tuple", Value.type "object"], ns := 126, qualname := Str.ofString "Token", subclasses := [Value.ref 155] }, slots := #[some (Value.ref 74), none, some (Value.str (Str.ofString "Token") 603), some (Value.str (Str.ofString "Token") 611), some Value.none, some (Value.bool false)] }) ::
  (nat_lit 128, { cls := Value.type "staticmethod", data := Data.fields #[Value.ref 87] }) ::
  (nat_lit 129, { cls := Value.type "getset_descriptor", data := Data.fields #[Value.str (Str.ofString "__dict__") 666, Value.ref 127, Value.builtin "function.__dict__", Value.builtin "function.__dict__#set"] }) ::
  (nat_lit 132, { cls := Value.type "tuple", data := Data.seq #[Value.ref 127] }) ::
  (nat_lit 139, { cls := Value.type "tuple", data := Data.seq #[] }) ::
  (nat_lit 140, { cls := Value.none, data := Data.fields #[] }) ::
  (nat_lit 141, { cls := Value.type "tuple", data := Data.seq #[Value.str (Str.ofString "cls") 686, Value.str (Str.ofString "pos") 687] }) ::
  (nat_lit 142, { cls := Value.type "tuple", data := Data.seq #[] }) ::
  (nat_lit 143, { cls := Value.none, data := Data.func { name := Str.ofString "__new__", qualname := Str.ofString "EOFToken.__new__", params := mArgs (Str.ofString "EOFToken") (Str.ofString "__new__"), body := FuncBody.stmts (mBody (Str.ofString "EOFToken") (Str.ofString "__new__")), scope := mScope (Str.ofString "EOFToken") (Str.ofString "__new__"), globals := 0, closure := [], defaults := Value.none, kwdefaults := Value.none } }) ::
  (nat_lit 144, { cls := Value.type "code", data := Data.fields #[Value.str (Str.ofString "__new__") 683, Value.str (Str.ofString "EOFToken.__new__") 684, Value.str (Str.ofString "/claim/cut.py") 685, Value.int 37 0, Value.int 2 0, Value.int 0 0, Value.int 0 0, Value.int 3 0, Value.ref 139, Value.bool true, Value.int 276 0, Value.ref 140, Value.none, Value.ref 141, Value.ref 142, Value.ref 143, Value.int 688 0, Value.int 37 0, Value.str (Str.ofString "/claim/cut.py") 689] }) ::
  (nat_lit 145, { cls := Value.type "function", data := Data.func { name := Str.ofString "__new__", qualname := Str.ofString "EOFToken.__new__", params := mArgs (Str.ofString "EOFToken") (Str.ofString "__new__"), body := FuncBody.stmts (mBody (Str.ofString "EOFToken") (Str.ofString "__new__")), scope := mScope (Str.ofString "EOFToken") (Str.ofString "__new__"), globals := 3, closure := [], defaults := Value.none, kwdefaults := Value.none, pyModule := Value.str (Str.ofString "cssselect.parser") 289, code := Value.ref 144 } }) ::
  (nat_lit 146, { cls := Value.type "tuple", data := Data.seq #[] }) ::
  (nat_lit 147, { cls := Value.none, data := Data.fields #[] }) ::
  (nat_lit 148, { cls := Value.type "tuple", data := Data.seq #[Value.str (Str.ofString "self") 694] }) ::
  (nat_lit 149, { cls := Value.type "tuple", data := Data.seq #[] }) ::
  (nat_lit 150, { cls := Value.none, data := Data.func { name := Str.ofString "__repr__", qualname := Str.ofString "EOFToken.__repr__", params := mArgs (Str.ofString "EOFToken") (Str.ofString "__repr__"), body := FuncBody.stmts (mBody (Str.ofString "EOFToken") (Str.ofString "__repr__")), scope := mScope (Str.ofString "EOFToken") (Str.ofString "__repr__"), globals := 0, closure := [], defaults := Value.none, kwdefaults := Value.none } }) ::
  (nat_lit 151, { cls := Value.type "code", data := Data.fields #[Value.str (Str.ofString "__repr__") 691, Value.str (Str.ofString "EOFToken.__repr__") 692, Value.str (Str.ofString "/claim/cut.py") 693, Value.int 40 0, Value.int 1 0, Value.int 0 0, Value.int 0 0, Value.int 3 0, Value.ref 146, Value.bool true, Value.int 276 0, Value.ref 147, Value.none, Value.ref 148, Value.ref 149, Value.ref 150, Value.int 695 0, Value.int 40 0, Value.str (Str.ofString "/claim/cut.py") 696] }) ::
  (nat_lit 152, { cls := Value.type "function", data := Data.func { name := Str.ofString "__repr__", qualname := Str.ofString "EOFToken.__repr__", params := mArgs (Str.ofString "EOFToken") (Str.ofString "__repr__"), body := FuncBody.stmts (mBody (Str.ofString "EOFToken") (Str.ofString "__repr__")), scope := mScope (Str.ofString "EOFToken") (Str.ofString "__repr__"), globals := 3, closure := [], defaults := Value.none, kwdefaults := Value.none, pyModule := Value.str (Str.ofString "cssselect.parser") 289, code := Value.ref 151 } }) ::
  (nat_lit 153, { cls := Value.type "tuple", data := Data.seq #[] }) ::
  (nat_lit 154, { cls := Value.type "dict", data := Data.dict #[{ hash := PyData.keyHash P (Str.ofString "__module__"), key := Value.str (Str.ofString "__module__") 678, val := Value.str (Str.ofString "cssselect.parser") 289 }, { hash := PyData.keyHash P (Str.ofString "__firstlineno__"), key := Value.str (Str.ofString "__firstlineno__") 682, val := Value.int 35 681 }, { hash := PyData.keyHash P (Str.ofString "__new__"), key := Value.str (Str.ofString "__new__") 690, val := Value.ref 156 }, { hash := PyData.keyHash P (Str.ofString "__repr__"), key := Value.str (Str.ofString "__repr__") 697, val := Value.ref 152 }, { hash := PyData.keyHash P (Str.ofString "__static_attributes__"), key := Value.str (Str.ofString "__static_attributes__") 698, val := Value.ref 153 }, { hash := PyData.keyHash P (Str.ofString "__doc__"), key := Value.str (Str.ofString "__doc__") 700, val := Value.none }] 2 }) ::
  (nat_lit 155, { cls := Value.type "type", data := Data.cls { name := Str.ofString "EOFToken", bases := [Value.ref 127], mro := [Value.ref 155, Value.ref 127, Value.type "tuple", Value.type "object"], ns := 154, qualname := Str.ofString "EOFToken" }, slots := #[some (Value.ref 132), none, some (Value.str (Str.ofString "EOFToken") 671), some (Value.str (Str.ofString "EOFToken") 679), some Value.none, some (Value.bool false)] }) ::
  (nat_lit 156, { cls := Value.type "staticmethod", data := Data.fields #[Value.ref 145] }) ::
  (nat_lit 162, { cls := Value.type "tuple", data := Data.seq (wordsOf (Str.ofString "_match_whitespace")) }) ::
  (nat_lit 163, { cls := Value.type "re.Pattern", data := Data.fields #[Value.str (patOf (Str.ofString "_match_whitespace")) 704, Value.int 32 730, Value.int 0 0, Value.none, Value.none, Value.ref 162, Value.int 0 0] }) ::
  (nat_lit 167, { cls := Value.type "tuple", data := Data.seq (wordsOf (Str.ofString "_match_number")) }) ::
  (nat_lit 168, { cls := Value.type "re.Pattern", data := Data.fields #[Value.str (patOf (Str.ofString "_match_number")) 733, Value.int 32 797, Value.int 0 0, Value.none, Value.none, Value.ref 167, Value.int 0 0] }) ::
  (nat_lit 172, { cls := Value.type "tuple", data := Data.seq (wordsOf (Str.ofString "_match_hash")) }) ::
  (nat_lit 173, { cls := Value.type "re.Pattern", data := Data.fields #[Value.str (patOf (Str.ofString "_match_hash")) 800, Value.int 34 1085, Value.int 1 0, Value.none, Value.none, Value.ref 172, Value.int 0 0] }) ::
  (nat_lit 177, { cls := Value.type "tuple", data := Data.seq (wordsOf (Str.ofString "_match_ident")) }) ::
  (nat_lit 178, { cls := Value.type "re.Pattern", data := Data.fields #[Value.str (patOf (Str.ofString "_match_ident")) 1088, Value.int 34 1639, Value.int 2 0, Value.none, Value.none, Value.ref 177, Value.int 0 0] }) ::
  (nat_lit 179, { cls := Value.type "dict", data := Data.dict #[{ hash := PyData.keyHash P (Str.ofString "'"), key := Value.str (Str.ofString "'") 1641, val := Value.ref 43 }, { hash := PyData.keyHash P (Str.ofString "\""), key := Value.str (Str.ofString "\"") 1642, val := Value.ref 48 }] 2 }) ::
  (nat_lit 183, { cls := Value.type "tuple", data := Data.seq (wordsOf (Str.ofString "_unicode_escape")) }) ::
  (nat_lit 184, { cls := Value.type "re.Pattern", data := Data.fields #[Value.str (patOf (Str.ofString "_unicode_escape")) 1647, Value.int 34 1709, Value.int 1 0, Value.none, Value.none, Value.ref 183, Value.int 0 0] }) ::
  (nat_lit 188, { cls := Value.type "tuple", data := Data.seq (wordsOf (Str.ofString "_newline_escape")) }) ::
  (nat_lit 189, { cls := Value.type "re.Pattern", data := Data.fields #[Value.str (patOf (Str.ofString "_newline_escape")) 1712, Value.int 32 1751, Value.int 0 0, Value.none, Value.none, Value.ref 188, Value.int 0 0] }) ::
  (nat_lit 190, { cls := Value.type "tuple", data := Data.seq #[] }) ::
  (nat_lit 191, { cls := Value.none, data := Data.fields #[] }) ::
  (nat_lit 192, { cls := Value.type "tuple", data := Data.seq #[Value.str (Str.ofString "match") 1756, Value.str (Str.ofString "codepoint") 1757] }) ::
  (nat_lit 193, { cls := Value.type "tuple", data := Data.seq #[] }) ::
  (nat_lit 194, { cls := Value.none, data := Data.func { name := Str.ofString "_replace_unicode", qualname := Str.ofString "_replace_unicode", params := argsOf (Str.ofString "_replace_unicode"), body := FuncBody.stmts (bodyOf (Str.ofString "_replace_unicode")), scope := scopeOf (Str.ofString "_replace_unicode"), globals := 0, closure := [], defaults := Value.none, kwdefaults := Value.none } }) ::
  (nat_lit 195, { cls := Value.type "code", data := Data.fields #[Value.str (Str.ofString "_replace_unicode") 1753, Value.str (Str.ofString "_replace_unicode") 1754, Value.str (Str.ofString "/claim/cut.py") 1755, Value.int 49 0, Value.int 1 0, Value.int 0 0, Value.int 0 0, Value.int 3 0, Value.ref 190, Value.bool true, Value.int 276 0, Value.ref 191, Value.none, Value.ref 192, Value.ref 193, Value.ref 194, Value.int 1758 0, Value.int 49 0, Value.str (Str.ofString "/claim/cut.py") 1759] }) ::
  (nat_lit 196, { cls := Value.type "function", data := Data.func { name := Str.ofString "_replace_unicode", qualname := Str.ofString "_replace_unicode", params := argsOf (Str.ofString "_replace_unicode"), body := FuncBody.stmts (bodyOf (Str.ofString "_replace_unicode")), scope := scopeOf (Str.ofString "_replace_unicode"), globals := 3, closure := [], defaults := Value.none, kwdefaults := Value.none, pyModule := Value.str (Str.ofString "cssselect.parser") 289, code := Value.ref 195 } }) ::
  (nat_lit 197, { cls := Value.type "tuple", data := Data.seq #[] }) ::
  (nat_lit 198, { cls := Value.none, data := Data.fields #[] }) ::
  (nat_lit 199, { cls := Value.type "tuple", data := Data.seq #[Value.str (Str.ofString "value") 1764, Value.str (Str.ofString "result") 1765, Value.str (Str.ofString "pos") 1766, Value.str (Str.ofString "match") 1767] }) ::
  (nat_lit 200, { cls := Value.type "tuple", data := Data.seq #[] }) ::
  (nat_lit 201, { cls := Value.none, data := Data.func { name := Str.ofString "_sub_unicode_escape", qualname := Str.ofString "_sub_unicode_escape", params := argsOf (Str.ofString "_sub_unicode_escape"), body := FuncBody.stmts (bodyOf (Str.ofString "_sub_unicode_escape")), scope := scopeOf (Str.ofString "_sub_unicode_escape"), globals := 0, closure := [], defaults := Value.none, kwdefaults := Value.none } }) ::
  (nat_lit 202, { cls := Value.type "code", data := Data.fields #[Value.str (Str.ofString "_sub_unicode_escape") 1761, Value.str (Str.ofString "_sub_unicode_escape") 1762, Value.str (Str.ofString "/claim/cut.py") 1763, Value.int 54 0, Value.int 1 0, Value.int 0 0, Value.int 0 0, Value.int 3 0, Value.ref 197, Value.bool true, Value.int 276 0, Value.ref 198, Value.none, Value.ref 199, Value.ref 200, Value.ref 201, Value.int 1768 0, Value.int 54 0, Value.str (Str.ofString "/claim/cut.py") 1769] }) ::
  (nat_lit 203, { cls := Value.type "function", data := Data.func { name := Str.ofString "_sub_unicode_escape", qualname := Str.ofString "_sub_unicode_escape", params := argsOf (Str.ofString "_sub_unicode_escape"), body := FuncBody.stmts (bodyOf (Str.ofString "_sub_unicode_escape")), scope := scopeOf (Str.ofString "_sub_unicode_escape"), globals := 3, closure := [], defaults := Value.none, kwdefaults := Value.none, pyModule := Value.str (Str.ofString "cssselect.parser") 289, code := Value.ref 202 } }) ::
  (nat_lit 204, { cls := Value.type "tuple", data := Data.seq #[] }) ::
  (nat_lit 205, { cls := Value.none, data := Data.fields #[] }) ::
  (nat_lit 206, { cls := Value.type "tuple", data := Data.seq #[Value.str (Str.ofString "value") 1774, Value.str (Str.ofString "result") 1775, Value.str (Str.ofString "pos") 1776] }) ::
  (nat_lit 207, { cls := Value.type "tuple", data := Data.seq #[] }) ::
  (nat_lit 208, { cls := Value.none, data := Data.func { name := Str.ofString "_sub_simple_escape", qualname := Str.ofString "_sub_simple_escape", params := argsOf (Str.ofString "_sub_simple_escape"), body := FuncBody.stmts (bodyOf (Str.ofString "_sub_simple_escape")), scope := scopeOf (Str.ofString "_sub_simple_escape"), globals := 0, closure := [], defaults := Value.none, kwdefaults := Value.none } }) ::
  (nat_lit 209, { cls := Value.type "code", data := Data.fields #[Value.str (Str.ofString "_sub_simple_escape") 1771, Value.str (Str.ofString "_sub_simple_escape") 1772, Value.str (Str.ofString "/claim/cut.py") 1773, Value.int 61 0, Value.int 1 0, Value.int 0 0, Value.int 0 0, Value.int 3 0, Value.ref 204, Value.bool true, Value.int 276 0, Value.ref 205, Value.none, Value.ref 206, Value.ref 207, Value.ref 208, Value.int 1777 0, Value.int 61 0, Value.str (Str.ofString "/claim/cut.py") 1778] }) ::
  (nat_lit 210, { cls := Value.type "function", data := Data.func { name := Str.ofString "_sub_simple_escape", qualname := Str.ofString "_sub_simple_escape", params := argsOf (Str.ofString "_sub_simple_escape"), body := FuncBody.stmts (bodyOf (Str.ofString "_sub_simple_escape")), scope := scopeOf (Str.ofString "_sub_simple_escape"), globals := 3, closure := [], defaults := Value.none, kwdefaults := Value.none, pyModule := Value.str (Str.ofString "cssselect.parser") 289, code := Value.ref 209 } }) ::
  (nat_lit 211, { cls := Value.type "tuple", data := Data.seq #[] }) ::
  (nat_lit 212, { cls := Value.none, data := Data.fields #[] }) ::
  (nat_lit 213, { cls := Value.type "tuple", data := Data.seq #[Value.str (Str.ofString "value") 1783] }) ::
  (nat_lit 214, { cls := Value.type "tuple", data := Data.seq #[] }) ::
  (nat_lit 215, { cls := Value.none, data := Data.func { name := Str.ofString "unescape_ident", qualname := Str.ofString "unescape_ident", params := argsOf (Str.ofString "unescape_ident"), body := FuncBody.stmts (bodyOf (Str.ofString "unescape_ident")), scope := scopeOf (Str.ofString "unescape_ident"), globals := 0, closure := [], defaults := Value.none, kwdefaults := Value.none } }) ::
  (nat_lit 216, { cls := Value.type "code", data := Data.fields #[Value.str (Str.ofString "unescape_ident") 1780, Value.str (Str.ofString "unescape_ident") 1781, Value.str (Str.ofString "/claim/cut.py") 1782, Value.int 69 0, Value.int 1 0, Value.int 0 0, Value.int 0 0, Value.int 3 0, Value.ref 211, Value.bool true, Value.int 276 0, Value.ref 212, Value.none, Value.ref 213, Value.ref 214, Value.ref 215, Value.int 1784 0, Value.int 69 0, Value.str (Str.ofString "/claim/cut.py") 1785] }) ::
  (nat_lit 217, { cls := Value.type "function", data := Data.func { name := Str.ofString "unescape_ident", qualname := Str.ofString "unescape_ident", params := argsOf (Str.ofString "unescape_ident"), body := FuncBody.stmts (bodyOf (Str.ofString "unescape_ident")), scope := scopeOf (Str.ofString "unescape_ident"), globals := 3, closure := [], defaults := Value.none, kwdefaults := Value.none, pyModule := Value.str (Str.ofString "cssselect.parser") 289, code := Value.ref 216 } }) ::
  (nat_lit 218, { cls := Value.type "tuple", data := Data.seq #[] }) ::
  (nat_lit 219, { cls := Value.none, data := Data.fields #[] }) ::
  (nat_lit 220, { cls := Value.type "tuple", data := Data.seq #[Value.str (Str.ofString "s") 1790, Value.str (Str.ofString "pos") 1791, Value.str (Str.ofString "len_s") 1792, Value.str (Str.ofString "match") 1793, Value.str (Str.ofString "value") 1794, Value.str (Str.ofString "quote") 1795, Value.str (Str.ofString "end_pos") 1796, Value.str (Str.ofString "pos2") 1797] }) ::
  (nat_lit 221, { cls := Value.type "tuple", data := Data.seq #[] }) ::
  (nat_lit 222, { cls := Value.none, data := Data.func { name := Str.ofString "tokenize", qualname := Str.ofString "tokenize", params := argsOf (Str.ofString "tokenize"), body := FuncBody.stmts (bodyOf (Str.ofString "tokenize")), scope := scopeOf (Str.ofString "tokenize"), globals := 0, closure := [], defaults := Value.none, kwdefaults := Value.none } }) ::
  (nat_lit 223, { cls := Value.type "code", data := Data.fields #[Value.str (Str.ofString "tokenize") 1787, Value.str (Str.ofString "tokenize") 1788, Value.str (Str.ofString "/claim/cut.py") 1789, Value.int 71 0, Value.int 1 0, Value.int 0 0, Value.int 0 0, Value.int 35 0, Value.ref 218, Value.bool true, Value.int 276 0, Value.ref 219, Value.none, Value.ref 220, Value.ref 221, Value.ref 222, Value.int 1798 0, Value.int 71 0, Value.str (Str.ofString "/claim/cut.py") 1799] }) ::
  (nat_lit 224, { cls := Value.type "function", data := Data.func { name := Str.ofString "tokenize", qualname := Str.ofString "tokenize", params := argsOf (Str.ofString "tokenize"), body := FuncBody.stmts (bodyOf (Str.ofString "tokenize")), scope := scopeOf (Str.ofString "tokenize"), globals := 3, closure := [], defaults := Value.none, kwdefaults := Value.none, pyModule := Value.str (Str.ofString "cssselect.parser") 289, code := Value.ref 223 } }) ::
  (nat_lit 225, { cls := Value.type "tuple", data := Data.seq #[] }) ::
  (nat_lit 226, { cls := Value.none, data := Data.fields #[] }) ::
  (nat_lit 227, { cls := Value.type "tuple", data := Data.seq #[] }) ::
  (nat_lit 228, { cls := Value.type "tuple", data := Data.seq #[] }) ::
  (nat_lit 229, { cls := Value.none, data := Data.func { name := Str.ofString "_law_pieces", qualname := Str.ofString "_law_pieces", params := argsOf (Str.ofString "_law_pieces"), body := FuncBody.stmts (bodyOf (Str.ofString "_law_pieces")), scope := scopeOf (Str.ofString "_law_pieces"), globals := 0, closure := [], defaults := Value.none, kwdefaults := Value.none } }) ::
  (nat_lit 230, { cls := Value.type "code", data := Data.fields #[Value.str (Str.ofString "_law_pieces") 1803, Value.str (Str.ofString "_law_pieces") 1804, Value.str (Str.ofString "/claim/cut.py") 1805, Value.int 125 0, Value.int 0 0, Value.int 0 0, Value.int 0 0, Value.int 3 0, Value.ref 225, Value.bool true, Value.int 276 0, Value.ref 226, Value.none, Value.ref 227, Value.ref 228, Value.ref 229, Value.int 1806 0, Value.int 125 0, Value.str (Str.ofString "/claim/cut.py") 1807] }) ::
  (nat_lit 231, { cls := Value.type "function", data := Data.func { name := Str.ofString "_law_pieces", qualname := Str.ofString "_law_pieces", params := argsOf (Str.ofString "_law_pieces"), body := FuncBody.stmts (bodyOf (Str.ofString "_law_pieces")), scope := scopeOf (Str.ofString "_law_pieces"), globals := 3, closure := [], defaults := Value.none, kwdefaults := Value.none, pyModule := Value.str (Str.ofString "law_ez0042_01") 1801, code := Value.ref 230 } }) ::
  (nat_lit 232, { cls := Value.type "tuple", data := Data.seq #[] }) ::
  (nat_lit 233, { cls := Value.none, data := Data.fields #[] }) ::
  (nat_lit 234, { cls := Value.type "tuple", data := Data.seq #[] }) ::
  (nat_lit 235, { cls := Value.type "tuple", data := Data.seq #[] }) ::
  (nat_lit 236, { cls := Value.none, data := Data.func { name := Str.ofString "_law_remarks", qualname := Str.ofString "_law_remarks", params := argsOf (Str.ofString "_law_remarks"), body := FuncBody.stmts (bodyOf (Str.ofString "_law_remarks")), scope := scopeOf (Str.ofString "_law_remarks"), globals := 0, closure := [], defaults := Value.none, kwdefaults := Value.none } }) ::
  (nat_lit 237, { cls := Value.type "code", data := Data.fields #[Value.str (Str.ofString "_law_remarks") 1809, Value.str (Str.ofString "_law_remarks") 1810, Value.str (Str.ofString "/claim/cut.py") 1811, Value.int 127 0, Value.int 0 0, Value.int 0 0, Value.int 0 0, Value.int 3 0, Value.ref 232, Value.bool true, Value.int 276 0, Value.ref 233, Value.none, Value.ref 234, Value.ref 235, Value.ref 236, Value.int 1812 0, Value.int 127 0, Value.str (Str.ofString "/claim/cut.py") 1813] }) ::
  (nat_lit 238, { cls := Value.type "function", data := Data.func { name := Str.ofString "_law_remarks", qualname := Str.ofString "_law_remarks", params := argsOf (Str.ofString "_law_remarks"), body := FuncBody.stmts (bodyOf (Str.ofString "_law_remarks")), scope := scopeOf (Str.ofString "_law_remarks"), globals := 3, closure := [], defaults := Value.none, kwdefaults := Value.none, pyModule := Value.str (Str.ofString "law_ez0042_01") 1801, code := Value.ref 237 } }) ::
  (nat_lit 239, { cls := Value.type "tuple", data := Data.seq #[] }) ::
  (nat_lit 240, { cls := Value.none, data := Data.fields #[] }) ::
  (nat_lit 241, { cls := Value.type "tuple", data := Data.seq #[Value.str (Str.ofString "script") 1818, Value.str (Str.ofString "at") 1819] }) ::
  (nat_lit 242, { cls := Value.type "tuple", data := Data.seq #[] }) ::
  (nat_lit 243, { cls := Value.none, data := Data.func { name := Str.ofString "_law_cell", qualname := Str.ofString "_law_cell", params := argsOf (Str.ofString "_law_cell"), body := FuncBody.stmts (bodyOf (Str.ofString "_law_cell")), scope := scopeOf (Str.ofString "_law_cell"), globals := 0, closure := [], defaults := Value.none, kwdefaults := Value.none } }) ::
  (nat_lit 244, { cls := Value.type "code", data := Data.fields #[Value.str (Str.ofString "_law_cell") 1815, Value.str (Str.ofString "_law_cell") 1816, Value.str (Str.ofString "/claim/cut.py") 1817, Value.int 129 0, Value.int 2 0, Value.int 0 0, Value.int 0 0, Value.int 3 0, Value.ref 239, Value.bool true, Value.int 276 0, Value.ref 240, Value.none, Value.ref 241, Value.ref 242, Value.ref 243, Value.int 1820 0, Value.int 129 0, Value.str (Str.ofString "/claim/cut.py") 1821] }) ::
  (nat_lit 245, { cls := Value.type "function", data := Data.func { name := Str.ofString "_law_cell", qualname := Str.ofString "_law_cell", params := argsOf (Str.ofString "_law_cell"), body := FuncBody.stmts (bodyOf (Str.ofString "_law_cell")), scope := scopeOf (Str.ofString "_law_cell"), globals := 3, closure := [], defaults := Value.none, kwdefaults := Value.none, pyModule := Value.str (Str.ofString "law_ez0042_01") 1801, code := Value.ref 244 } }) ::
  (nat_lit 246, { cls := Value.type "tuple", data := Data.seq #[] }) ::
  (nat_lit 247, { cls := Value.none, data := Data.fields #[] }) ::
  (nat_lit 248, { cls := Value.type "tuple", data := Data.seq #[Value.str (Str.ofString "text") 1826, Value.str (Str.ofString "found") 1827, Value.str (Str.ofString "one") 1828] }) ::
  (nat_lit 249, { cls := Value.type "tuple", data := Data.seq #[] }) ::
  (nat_lit 250, { cls := Value.none, data := Data.func { name := Str.ofString "_law_told", qualname := Str.ofString "_law_told", params := argsOf (Str.ofString "_law_told"), body := FuncBody.stmts (bodyOf (Str.ofString "_law_told")), scope := scopeOf (Str.ofString "_law_told"), globals := 0, closure := [], defaults := Value.none, kwdefaults := Value.none } }) ::
  (nat_lit 251, { cls := Value.type "code", data := Data.fields #[Value.str (Str.ofString "_law_told") 1823, Value.str (Str.ofString "_law_told") 1824, Value.str (Str.ofString "/claim/cut.py") 1825, Value.int 131 0, Value.int 1 0, Value.int 0 0, Value.int 0 0, Value.int 3 0, Value.ref 246, Value.bool true, Value.int 276 0, Value.ref 247, Value.none, Value.ref 248, Value.ref 249, Value.ref 250, Value.int 1829 0, Value.int 131 0, Value.str (Str.ofString "/claim/cut.py") 1830] }) ::
  (nat_lit 252, { cls := Value.type "function", data := Data.func { name := Str.ofString "_law_told", qualname := Str.ofString "_law_told", params := argsOf (Str.ofString "_law_told"), body := FuncBody.stmts (bodyOf (Str.ofString "_law_told")), scope := scopeOf (Str.ofString "_law_told"), globals := 3, closure := [], defaults := Value.none, kwdefaults := Value.none, pyModule := Value.str (Str.ofString "law_ez0042_01") 1801, code := Value.ref 251 } }) ::
  (nat_lit 253, { cls := Value.type "tuple", data := Data.seq #[] }) ::
  (nat_lit 254, { cls := Value.none, data := Data.fields #[] }) ::
  (nat_lit 255, { cls := Value.type "tuple", data := Data.seq #[Value.str (Str.ofString "script") 1835, Value.str (Str.ofString "text") 1836, Value.str (Str.ofString "due") 1837, Value.str (Str.ofString "at") 1838, Value.str (Str.ofString "cell") 1839, Value.str (Str.ofString "piece") 1840, Value.str (Str.ofString "end") 1841] }) ::
  (nat_lit 256, { cls := Value.type "tuple", data := Data.seq #[] }) ::
  (nat_lit 257, { cls := Value.none, data := Data.func { name := Str.ofString "law", qualname := Str.ofString "law", params := argsOf (Str.ofString "law"), body := FuncBody.stmts (bodyOf (Str.ofString "law")), scope := scopeOf (Str.ofString "law"), globals := 0, closure := [], defaults := Value.none, kwdefaults := Value.none } }) ::
  (nat_lit 258, { cls := Value.type "code", data := Data.fields #[Value.str (Str.ofString "law") 1832, Value.str (Str.ofString "law") 1833, Value.str (Str.ofString "/claim/cut.py") 1834, Value.int 139 0, Value.int 1 0, Value.int 0 0, Value.int 0 0, Value.int 3 0, Value.ref 253, Value.bool true, Value.int 276 0, Value.ref 254, Value.none, Value.ref 255, Value.ref 256, Value.ref 257, Value.int 1842 0, Value.int 139 0, Value.str (Str.ofString "/claim/cut.py") 1843] }) ::
  (nat_lit 259, { cls := Value.type "function", data := Data.func { name := Str.ofString "law", qualname := Str.ofString "law", params := argsOf (Str.ofString "law"), body := FuncBody.stmts (bodyOf (Str.ofString "law")), scope := scopeOf (Str.ofString "law"), globals := 3, closure := [], defaults := Value.none, kwdefaults := Value.none, pyModule := Value.str (Str.ofString "law_ez0042_01") 1801, code := Value.ref 258 } }) :: []
end Mine
end

section
open PySem PySem.W PySem.Calls PyProof.Rows
set_option Elab.async false
set_option maxRecDepth 100000
set_option maxHeartbeats 0
namespace Mine
/-- an object of the written-out heap -/
def kob (P : Params) (a : Nat) : Obj := ((KX P).lookup a).getD default
/-- the list display of the words of the pattern n, the first word's token t -/
def oInts (n : Str) (t : Nat) : Obj := { cls := .type "list", data := .seq ((natsOf n).zipIdx.map fun x => Value.int (Int.ofNat x.1) (t + x.2)).toArray }
def o29 : Obj := { cls := Value.none, data := Data.fields #[Value.int 2 0, Value.int 0 0, Value.ref 37, Value.int 8 0, Value.int 0 0, Value.ref 54, Value.int 10 0, Value.int 0 0, Value.ref 67, Value.int 12 0, Value.int 0 0, Value.ref 79, Value.int 35 0, Value.int 0 0, Value.ref 137, Value.int 49 0, Value.int 0 0, Value.ref 195, Value.int 54 0, Value.int 0 0, Value.ref 202, Value.int 61 0, Value.int 0 0, Value.ref 209, Value.int 69 0, Value.int 0 0, Value.ref 216, Value.int 71 0, Value.int 0 0, Value.ref 223, Value.int 125 0, Value.int 0 0, Value.ref 230, Value.int 127 0, Value.int 0 0, Value.ref 237, Value.int 129 0, Value.int 0 0, Value.ref 244, Value.int 131 0, Value.int 0 0, Value.ref 251, Value.int 139 0, Value.int 0 0, Value.ref 258] }
def seg12 : List Stmt := (Pw.main.body.drop 13).take 1
def seg13 : List Stmt := (Pw.main.body.drop 14).take 2
def seg15 : List Stmt := (Pw.main.body.drop 16).take 11
noncomputable def T12 (P : Params) : BT := (((T11 P).ins 179 (kob P 179)).set 3 (addN P [("_match_string_by_quote", 1645, .ref 179)]))
noncomputable def T14 (P : Params) : BT := ((((((((((((T12 P).ins 180 (oInts "_unicode_escape" 1649)).ins 181 (({ cls := Value.type "dict", data := Data.dict #[] }))).ins 182 (({ cls := Value.type "tuple", data := Data.seq #[Value.none, Value.none] }))).ins 183 (kob P 183)).ins 184 (kob P 184)).ins 185 (oInts "_newline_escape" 1714)).ins 186 (({ cls := Value.type "dict", data := Data.dict #[] }))).ins 187 (({ cls := Value.type "tuple", data := Data.seq #[Value.none] }))).ins 188 (kob P 188)).ins 189 (kob P 189)).set 3 (addN P [("_unicode_escape", 1710, .ref 184), ("_newline_escape", 1752, .ref 189)]))
noncomputable def T25 (P : Params) : BT := (((((((((((((((((((((((((((((((((((((((((((((((((((((((((((((((((((((((((T14 P).ins 190 (kob P 190)).ins 191 (kob P 191)).ins 192 (kob P 192)).ins 193 (kob P 193)).ins 194 (kob P 194)).ins 195 (kob P 195)).ins 196 (kob P 196)).ins 197 (kob P 197)).ins 198 (kob P 198)).ins 199 (kob P 199)).ins 200 (kob P 200)).ins 201 (kob P 201)).ins 202 (kob P 202)).ins 203 (kob P 203)).ins 204 (kob P 204)).ins 205 (kob P 205)).ins 206 (kob P 206)).ins 207 (kob P 207)).ins 208 (kob P 208)).ins 209 (kob P 209)).ins 210 (kob P 210)).ins 211 (kob P 211)).ins 212 (kob P 212)).ins 213 (kob P 213)).ins 214 (kob P 214)).ins 215 (kob P 215)).ins 216 (kob P 216)).ins 217 (kob P 217)).ins 218 (kob P 218)).ins 219 (kob P 219)).ins 220 (kob P 220)).ins 221 (kob P 221)).ins 222 (kob P 222)).ins 223 (kob P 223)).ins 224 (kob P 224)).ins 225 (kob P 225)).ins 226 (kob P 226)).ins 227 (kob P 227)).ins 228 (kob P 228)).ins 229 (kob P 229)).ins 230 (kob P 230)).ins 231 (kob P 231)).ins 232 (kob P 232)).ins 233 (kob P 233)).ins 234 (kob P 234)).ins 235 (kob P 235)).ins 236 (kob P 236)).ins 237 (kob P 237)).ins 238 (kob P 238)).ins 239 (kob P 239)).ins 240 (kob P 240)).ins 241 (kob P 241)).ins 242 (kob P 242)).ins 243 (kob P 243)).ins 244 (kob P 244)).ins 245 (kob P 245)).ins 246 (kob P 246)).ins 247 (kob P 247)).ins 248 (kob P 248)).ins 249 (kob P 249)).ins 250 (kob P 250)).ins 251 (kob P 251)).ins 252 (kob P 252)).ins 253 (kob P 253)).ins 254 (kob P 254)).ins 255 (kob P 255)).ins 256 (kob P 256)).ins 257 (kob P 257)).ins 258 (kob P 258)).ins 259 (kob P 259)).set 3 (fun _ => kob P 3)).set 29 (fun _ => o29))
def pos12 : Pos := ⟨46, 0, 46, 22⟩
def pos14 : Pos := ⟨48, 0, 48, 15⟩
def pos25 : Pos := ⟨139, 0, 153, 71⟩
noncomputable def S12 (w : World) (os : OsState) : SharedT := { tree := T12 w.params, n := 180, life := {}, gens := #[], drawn := {}, toks := 1646, os := os }
noncomputable def S14 (w : World) (os : OsState) : SharedT := { tree := T14 w.params, n := 190, life := {}, gens := #[], drawn := {}, toks := 1753, os := os }
noncomputable def S25 (w : World) (os : OsState) : SharedT := { tree := T25 w.params, n := 260, life := {}, gens := #[], drawn := {}, toks := 1845, os := os }
theorem run_12 : ∀ (w : World), (fun (p : Program) (b : List Stmt) (os : OsState) =>
    segRunT treeTable p w 28 (some (.ref 6)) 1 43 (S11 w os) (piecesOf seg12 hd.env_1 (cd b) pos11 [topFrame q0])) = fun _ b os => some (.next, S12 w os, cd b, pos12) := by
  rw [PySem.W.Fast.te10110043849684766642, PySem.W.Fast.te14364793385576792824]
  refine byRow2 "special-get-raises" (fun w => ?_) (fun w => ?_)
  · kernel_rfl
  · kernel_rfl
theorem run_13 : ∀ (w : World), (fun (p : Program) (b : List Stmt) (os : OsState) =>
    segRunT treeTable p w 28 (some (.ref 6)) 1 194 (S12 w os) (piecesOf seg13 hd.env_1 (cd b) pos12 [topFrame q0])) = fun _ b os => some (.next, S14 w os, cd b, pos14) := by
  rw [PySem.W.Fast.te10110043849684766642, PySem.W.Fast.te14364793385576792824]
  intro w
  kernel_rfl
theorem run_15 : ∀ (w : World), (fun (p : Program) (b : List Stmt) (os : OsState) =>
    segRunT treeTable p w 28 (some (.ref 6)) 1 320 (S14 w os) (piecesOf seg15 hd.env_1 (cd b) pos14 [topFrame q0])) = fun _ b os => some (.next, S25 w os, cd b, pos25) := by
  rw [PySem.W.Fast.te10110043849684766642, PySem.W.Fast.te14364793385576792824]
  intro w
  kernel_rfl
end Mine
end

section
open PySem PySem.W PySem.Calls PyProof.Rows
set_option Elab.async false
set_option maxRecDepth 100000
set_option maxHeartbeats 0
namespace Mine
noncomputable def H0 (P : Params) : Heap := ⟨#[hd.o_1 P, hd.o_2 P, hd.o_3 P, hd.o_4 P, hd.o_5 P, hd.o_6 P, hd.o_7 P, hd.o_8 P, hd.o_9 P, hd.o_10 P, hd.o_11 P, hd.o_12 P, hd.o_13 P, hd.o_14 P, hd.o_15 P, hd.o_16 P, hd.o_17 P, hd.o_18 P, hd.o_19 P, hd.o_20 P, hd.o_21 P, hd.o_22 P, hd.o_23 P, hd.o_24 P, hd.o_25 P, hd.o_26 P, hd.o_27 P, hd.o_28 P], {}⟩
theorem opened : ∀ w : World, (fencedOpening treeTable Pw w 6000).map (fun s => (s.heap, s.gens, s.drawn, s.toks)) = some (H0 w.params, #[], {}, 276) := by
  unfold fencedOpening
  rw [PySem.W.Fast.te10274390034422433532, PySem.W.Fast.te14364793385576792824]
  intro w
  kernel_rfl
end Mine
end

section
open PySem PySem.W PySem.Calls PyProof.Rows
set_option Elab.async false
set_option maxRecDepth 100000
set_option maxHeartbeats 0
namespace Mine
noncomputable def S32 (w : World) (os : OsState) : SharedT := { tree := hd.tree_32 w.params, n := 32, life := {}, gens := #[], drawn := {}, toks := 282, os := os }
def bdy : List Stmt := behindTheImports Pw
theorem pre12 : ∀ (w : World), (fun (os : OsState) => topGo treeTable Pw w 28 (some (.ref 6)) 12 ⟨H0 w.params, #[], {}, 276, os⟩ (topStub Pw)) =
    fun os => some ((S32 w os).abs, ⟨denote treeTable (cd bdy), cd bdy, q0, [topFrame q0]⟩) := by
  rw [PySem.W.Fast.te15667345088766844465, PySem.W.Fast.te14364793385576792824, PySem.W.Fast.te11892475500146522536]
  intro w
  kernel_rfl
theorem block0 : ∀ (w : World), (fun (os : OsState) => segRun treeTable Pw w 28 (some (.ref 6)) 1 1 (S32 w os).abs (blockOf bdy hd.env_1 (cd bdy) q0 [topFrame q0])) =
    fun os => some (.next, (S32 w os).abs, cd bdy, q0) := by
  intro w
  kernel_rfl
theorem fin1 : ∀ (w : World) (os : OsState), topRun treeTable Pw w 28 (some (.ref 6)) 2 (S25 w os).abs ⟨doneF .next, cd bdy, pos25, [topFrame q0]⟩ = some (S25 w os).abs := by
  intro w os
  kernel_rfl
theorem body_is : bdy = hd.sts_32 ++ (hd.sts_53 ++ (hd.sts_70 ++ (hd.sts_86 ++ (hd.sts_147 ++ (hd.sts_183 ++ (p10 ++ (p11 ++ (seg12 ++ (seg13 ++ (seg15 ++ [])))))))))) := by kernel_rfl
noncomputable def H1 (P : Params) : Heap := absHeap (T25 P) 260 {}
theorem sizes : ∀ w : World, ((H0 w.params).isNs mainGlobals && (#[] : Array GenState).size == 0, (H0 w.params).objs.size, (H0 w.params).nsMap mainGlobals "__annotations__") = (true, 28, some (.ref 6)) := by
  intro w
  kernel_rfl
theorem seg10 (p : Program) (b : List Stmt) (w : World) (os : OsState) : segRun treeTable p w 28 (some (.ref 6)) 1 332 (S9 w os).abs (piecesOf p10 hd.env_1 (cd b) pos9 [topFrame q0]) = some (.next, (S10 w os).abs, cd b, pos10) := by
  rw [th10_eq]
  have e2 := segGo_of (run_compile10 p w os cp10 (fr10 p b w os) (topFrame q0))
  have e3 := segRun_of (run_d10 p b w os)
  exact seg_go (n := 314) (N := 18) (segGo_of (run_a10 p b w os)) (seg_go (n := 8) (N := 10) e2 e3)
theorem seg11 (p : Program) (b : List Stmt) (w : World) (os : OsState) : segRun treeTable p w 28 (some (.ref 6)) 1 598 (S10 w os).abs (piecesOf p11 hd.env_1 (cd b) pos10 [topFrame q0]) = some (.next, (S11 w os).abs, cd b, pos11) := by
  rw [th11_eq]
  have e2 := segGo_of (run_compile p w os posC (fr11 p b w os) (topFrame q0))
  have e3 := segRun_of (run_d p b w os)
  exact seg_go (n := 580) (N := 18) (segGo_of (run_a p b w os)) (seg_go (n := 8) (N := 10) e2 e3)
end Mine
end

section
open PySem PySem.W PySem.Calls PyProof.Rows
set_option Elab.async false
set_option maxRecDepth 100000
set_option maxHeartbeats 400000
namespace Mine
noncomputable abbrev rs (l : List Stmt) (p : Pos) : Thread := restOf l hd.env_1 (cd bdy) p [topFrame q0]
noncomputable abbrev tr (w : World) (N : Nat) (s : Shared) (t : Thread) : Option Shared := topRun treeTable Pw w 28 (some (.ref 6)) N s t
theorem r15 (w : World) (os : OsState) : tr w (320 + 2) (S14 w os).abs (rs (seg15 ++ []) pos14) = some (S25 w os).abs :=
  piece_app (segRun_of (congrFun (congrFun (congrFun (run_15 w) Pw) bdy) os)) (piece_nil (fin1 w os))
theorem r13 (w : World) (os : OsState) : tr w (194 + (320 + 2)) (S12 w os).abs (rs (seg13 ++ (seg15 ++ [])) pos12) = some (S25 w os).abs :=
  piece_app (segRun_of (congrFun (congrFun (congrFun (run_13 w) Pw) bdy) os)) (r15 w os)
theorem r12 (w : World) (os : OsState) : tr w (43 + (194 + (320 + 2))) (S11 w os).abs (rs (seg12 ++ (seg13 ++ (seg15 ++ []))) pos11) = some (S25 w os).abs :=
  piece_app (segRun_of (congrFun (congrFun (congrFun (run_12 w) Pw) bdy) os)) (r13 w os)
theorem r11 (w : World) (os : OsState) : tr w (598 + (43 + (194 + (320 + 2)))) (S10 w os).abs (rs (p11 ++ (seg12 ++ (seg13 ++ (seg15 ++ [])))) pos10) = some (S25 w os).abs :=
  piece_app (seg11 Pw bdy w os) (r12 w os)
theorem r10 (w : World) (os : OsState) : tr w (332 + (598 + (43 + (194 + (320 + 2))))) (S9 w os).abs (rs (p10 ++ (p11 ++ (seg12 ++ (seg13 ++ (seg15 ++ []))))) pos9) = some (S25 w os).abs :=
  piece_app (seg10 Pw bdy w os) (r11 w os)
theorem r32 (w : World) (os : OsState) : tr w (Nat.add 401 (Nat.add 197 (Nat.add 214 (Nat.add 500 (Nat.add 353 (Nat.add 111 (332 + (598 + (43 + (194 + (320 + 2)))))))))))
    (S32 w os).abs (rs (hd.sts_32 ++ (hd.sts_53 ++ (hd.sts_70 ++ (hd.sts_86 ++ (hd.sts_147 ++ (hd.sts_183 ++ (p10 ++ (p11 ++ (seg12 ++ (seg13 ++ (seg15 ++ []))))))))))) q0) = some (S25 w os).abs :=
  hd.chain Pw bdy w os _ _ _ (r10 w os)
theorem rbd (w : World) (os : OsState) : tr w (Nat.add 401 (Nat.add 197 (Nat.add 214 (Nat.add 500 (Nat.add 353 (Nat.add 111 (332 + (598 + (43 + (194 + (320 + 2)))))))))))
    (S32 w os).abs (rs bdy q0) = some (S25 w os).abs :=
  Eq.subst (motive := fun l => tr w _ (S32 w os).abs (rs l q0) = some (S25 w os).abs) body_is.symm (r32 w os)
theorem rblk (w : World) (os : OsState) : tr w (1 + Nat.add 401 (Nat.add 197 (Nat.add 214 (Nat.add 500 (Nat.add 353 (Nat.add 111 (332 + (598 + (43 + (194 + (320 + 2)))))))))))
    (S32 w os).abs ⟨denote treeTable (cd bdy), cd bdy, q0, [topFrame q0]⟩ = some (S25 w os).abs :=
  piece_block (congrFun (block0 w) os) (rbd w os)
theorem rall (w : World) (os : OsState) : tr w (12 + (1 + Nat.add 401 (Nat.add 197 (Nat.add 214 (Nat.add 500 (Nat.add 353 (Nat.add 111 (332 + (598 + (43 + (194 + (320 + 2))))))))))))
    ⟨H0 w.params, #[], {}, 276, os⟩ (topStub Pw) = some (S25 w os).abs :=
  go_top (congrFun (pre12 w) os) (rblk w os)
theorem s25_is (w : World) (os : OsState) : (S25 w os).abs = ⟨H1 w.params, #[], {}, 1845, os⟩ := by kernel_rfl
def stepsN : Nat := 12 + (1 + Nat.add 401 (Nat.add 197 (Nat.add 214 (Nat.add 500 (Nat.add 353 (Nat.add 111 (332 + (598 + (43 + (194 + (320 + 2)))))))))))
theorem ran (w : World) (os : OsState) : topRun treeTable Pw w 28 (some (.ref 6)) stepsN ⟨H0 w.params, #[], {}, 276, os⟩ (topStub Pw) = some ⟨H1 w.params, #[], {}, 1845, os⟩ :=
  (rall w os).trans (congrArg some (s25_is w os))
theorem steps_le : Nat.ble stepsN 6000 = true := by decide +kernel
end Mine
end

section
open PySem PySem.W PySem.Calls PyProof.Rows
set_option Elab.async false
set_option maxRecDepth 100000
set_option maxHeartbeats 400000
namespace Mine
def qv : Program := { Pw with main := { Pw.main with body := (Pw.main.body.drop 26).take 1 } }
def asK : List Addr := [0, 1, 2, 3, 4, 5, 6, 7, 8, 9, 10, 11, 12, 13, 14, 15, 32, 33, 34, 35, 36, 37, 38, 42, 43, 47, 48, 49, 56, 57, 58, 59, 62, 69, 70, 71, 74, 81, 82, 83, 84, 85, 86, 87, 88, 89, 90, 91, 92, 93, 94, 95, 96, 97, 98, 99, 100, 101, 102, 103, 104, 105, 106, 107, 108, 109, 110, 111, 112, 113, 114, 115, 116, 117, 118, 119, 120, 121, 122, 123, 124, 125, 126, 127, 128, 129, 132, 139, 140, 141, 142, 143, 144, 145, 146, 147, 148, 149, 150, 151, 152, 153, 154, 155, 156, 162, 163, 167, 168, 172, 173, 177, 178, 179, 183, 184, 188, 189, 190, 191, 192, 193, 194, 195, 196, 197, 198, 199, 200, 201, 202, 203, 204, 205, 206, 207, 208, 209, 210, 211, 212, 213, 214, 215, 216, 217, 218, 219, 220, 221, 222, 223, 224, 225, 226, 227, 228, 229, 230, 231, 232, 233, 234, 235, 236, 237, 238, 239, 240, 241, 242, 243, 244, 245, 246, 247, 248, 249, 250, 251, 252, 253, 254, 255, 256, 257, 258, 259]
theorem asK_is : ∀ P, asK = (KX P).map (·.1) := fun P => by kernel_rfl
noncomputable abbrev hk : Hook := kHook KX asK asK_is
noncomputable abbrev sEnd (w : World) (os : OsState) : Shared := ⟨H1 w.params, #[], {}, 1845, os⟩
theorem lookA : ∀ w : World, (fun os => (staticsOk (importedModules Pw.main.body) (H0 w.params) (H1 w.params) && namesBound Pw (H1 w.params) && gensDone (sEnd w os) && laidKept (H0 w.params) (H1 w.params))) = fun _ => true := by
  intro w
  kernel_rfl
def xtT : Shared → Bool := fun _ => true
def loose : List Str := ["_sre", "_wall", "_twin_re_7", "_twin_re_8", "SelectorError", "SelectorSyntaxError", "Token", "EOFToken", "_match_whitespace", "_match_number", "_match_hash", "_match_ident", "_match_string_by_quote", "_unicode_escape", "_newline_escape", "_replace_unicode", "_sub_unicode_escape", "_sub_simple_escape", "unescape_ident", "tokenize", "_law_pieces", "_law_remarks", "_law_cell", "_law_told"]
theorem lookB : ∀ w : World, (fun os => openSeen qv loose (importedModules Pw.main.body) xtT true (sEnd w os)) = fun _ => openGood qv loose := by
  rw [PySem.W.Fast.te4187177175401517315]
  intro w
  kernel_rfl
theorem lookC : ∀ w : World, (fun os => hk.obs (sEnd w os)) = fun _ => hk.val w := by
  intro w
  kernel_rfl
theorem leftO : LeftO Pw qv loose xtT hk.obs hk.val 6000 :=
  LeftO.of_pieces (H₀ := H0) (H₁ := H1) (gs₀ := #[]) (gs₁ := #[]) (d₀ := {}) (d₁ := {}) (k₀ := 276) (k₁ := 1845) (m₀ := 28) (ann := some (.ref 6)) (M := stepsN) opened sizes ran steps_le
    fun w => funext fun os => Prod.ext (congrFun (lookA w) os) (Prod.ext (congrFun (lookB w) os) (congrFun (lookC w) os))
end Mine
end

section
open PySem PySem.W PyProof.Rows PySem.Calls
set_option Elab.async false
set_option maxRecDepth 100000
set_option maxHeartbeats 4000000
namespace Mine
theorem pa_pat : PlainAttrs "re.Pattern" :=
  ⟨⟨"object.__getattribute__", by rw [typeLookup_type, builtinLookup_eq_fast]; kernel_rfl, by decide +kernel⟩, by rw [typeLookup_type, builtinLookup_eq_fast]; kernel_rfl⟩
theorem slot_match : Slot "re.Pattern" "match" "re.Pattern.match" :=
  .of (owner := "re.Pattern") (n := "match") (by rw [typeLookup_type, builtinLookup_eq_fast]; kernel_rfl) (by decide +kernel) (by decide +kernel) (by decide +kernel)
    (by first | exact .inl (by decide +kernel) | exact .inr (by decide +kernel)) (by rw [isSubtype_type]; kernel_rfl)
theorem type_match : typeOf (.builtin "re.Pattern.match") = pure (.type "method_descriptor") := by show builtinType _ = _; rw [builtinType_eq_fast]; kernel_rfl
theorem entry_match : entryFor table "re.Pattern.match" = some Builtin.«re.Pattern.match» := entryFor_of_tree (by kernel_rfl)
theorem args_match (a b c : Value) : argsOk "re.Pattern.match" ⟨[a, b, c], []⟩ := by unfold argsOk; kernel_rfl
theorem pa_mat : PlainAttrs "re.Match" :=
  ⟨⟨"object.__getattribute__", by rw [typeLookup_type, builtinLookup_eq_fast]; kernel_rfl, by decide +kernel⟩, by rw [typeLookup_type, builtinLookup_eq_fast]; kernel_rfl⟩
theorem slot_group : Slot "re.Match" "group" "re.Match.group" :=
  .of (owner := "re.Match") (n := "group") (by rw [typeLookup_type, builtinLookup_eq_fast]; kernel_rfl) (by decide +kernel) (by decide +kernel) (by decide +kernel)
    (by first | exact .inl (by decide +kernel) | exact .inr (by decide +kernel)) (by rw [isSubtype_type]; kernel_rfl)
theorem type_group : typeOf (.builtin "re.Match.group") = pure (.type "method_descriptor") := by show builtinType _ = _; rw [builtinType_eq_fast]; kernel_rfl
theorem entry_group : entryFor table "re.Match.group" = some Builtin.«re.Match.group» := entryFor_of_tree (by kernel_rfl)
theorem args_group (a : Value) : argsOk "re.Match.group" ⟨[a], []⟩ := by unfold argsOk; kernel_rfl
theorem args_group1 (a b : Value) : argsOk "re.Match.group" ⟨[a, b], []⟩ := by unfold argsOk; kernel_rfl
theorem slot_end : Slot "re.Match" "end" "re.Match.end" :=
  .of (owner := "re.Match") (n := "end") (by rw [typeLookup_type, builtinLookup_eq_fast]; kernel_rfl) (by decide +kernel) (by decide +kernel) (by decide +kernel)
    (by first | exact .inl (by decide +kernel) | exact .inr (by decide +kernel)) (by rw [isSubtype_type]; kernel_rfl)
theorem type_end : typeOf (.builtin "re.Match.end") = pure (.type "method_descriptor") := by show builtinType _ = _; rw [builtinType_eq_fast]; kernel_rfl
theorem entry_end : entryFor table "re.Match.end" = some Builtin.«re.Match.end» := entryFor_of_tree (by kernel_rfl)
theorem args_end (a : Value) : argsOk "re.Match.end" ⟨[a], []⟩ := by unfold argsOk; kernel_rfl
theorem slot_sub : Slot "re.Pattern" "sub" "re.Pattern.sub" :=
  .of (owner := "re.Pattern") (n := "sub") (by rw [typeLookup_type, builtinLookup_eq_fast]; kernel_rfl) (by decide +kernel) (by decide +kernel) (by decide +kernel)
    (by first | exact .inl (by decide +kernel) | exact .inr (by decide +kernel)) (by rw [isSubtype_type]; kernel_rfl)
theorem type_sub : typeOf (.builtin "re.Pattern.sub") = pure (.type "method_descriptor") := by show builtinType _ = _; rw [builtinType_eq_fast]; kernel_rfl
theorem entry_sub : entryFor table "re.Pattern.sub" = some Builtin.«re.Pattern.sub» := entryFor_of_tree (by kernel_rfl)
theorem args_sub (a b c : Value) : argsOk "re.Pattern.sub" ⟨[a, b, c], []⟩ := by unfold argsOk; kernel_rfl
theorem entry_subloop : entryFor table "re.Pattern.sub.loop" = some Builtin.«re.Pattern.sub.loop» := entryFor_of_tree (by kernel_rfl)
end Mine
end

section
open PySem PySem.W PyProof.Rows PySem.Calls PySem.Builtin.Re
set_option Elab.async false
set_option maxRecDepth 100000
set_option maxHeartbeats 4000000
namespace Mine
open Sre (M)
theorem runFor_some (n : Nat) (m : M) (h : m.outcome.isSome = true) : m.runFor n = m := by
  cases n with
  | zero => rfl
  | succ n => unfold M.runFor; rw [if_pos h]
theorem runFor_add (a b : Nat) (m : M) : m.runFor (a + b) = (m.runFor a).runFor b := by
  induction a generalizing m with
  | zero => rw [Nat.zero_add]; rfl
  | succ a ih =>
    rw [show a + 1 + b = (a + b) + 1 by omega]
    cases h : m.outcome.isSome with
    | true => rw [runFor_some _ _ h, runFor_some _ _ h, runFor_some _ _ h]
    | false =>
      show (if m.outcome.isSome = true then m else M.runFor (a + b) m.step) = M.runFor b (if m.outcome.isSome = true then m else M.runFor a m.step)
      rw [h]
      exact ih _
section
variable {prog : Program} {w : World} {A : Around} {E : Value → Shared → Prop} {s : Shared}
theorem wpAny_drive {Q : M → Shared → Prop} : ∀ (k turns : Nat) (m : M), k < turns → (m.runFor (4 * (k + 1))).outcome.isSome = true → Q (m.runFor (4 * (k + 1))) s →
    wpAny (model prog w) A (reDrive turns m) Q E s
  | k, 0, _, h, _, _ => absurd h (Nat.not_lt_zero _)
  | k, t + 1, m, h, ho, hq => by
    unfold reDrive
    show wpAny _ _ (if (m.runFor reTurnSteps).outcome.isSome = true then pure (m.runFor reTurnSteps) else (rule "sre.turn" >>= fun _ => reDrive t (m.runFor reTurnSteps))) Q E s
    have e : m.runFor (4 * (k + 1)) = (m.runFor reTurnSteps).runFor (4 * k) := by
      rw [show 4 * (k + 1) = reTurnSteps + 4 * k by show _ = 4 + 4 * k; omega]; exact runFor_add _ _ _
    cases hs : (m.runFor reTurnSteps).outcome.isSome with
    | true =>
      rw [if_pos rfl]
      rw [e, runFor_some _ _ hs] at hq
      exact wpAny_pure hq
    | false =>
      rw [if_neg Bool.false_ne_true]
      cases k with
      | zero => rw [e] at ho; change (m.runFor reTurnSteps).outcome.isSome = true at ho; rw [hs] at ho; cases ho
      | succ k =>
        rw [e] at ho hq
        exact wpAny_bind (wpAny_rule (wpAny_drive k t _ (by omega) ho hq))
theorem wpAny_runToEnd {k : Nat} {m : M} {Q : Option M → Shared → Prop} (hk : k < 2 ^ 64)
    (h : ((m.runFor (4 * (k + 1))).outcome = some .matched ∧ Q (some (m.runFor (4 * (k + 1)))) s) ∨ ((m.runFor (4 * (k + 1))).outcome = some .failed ∧ Q none s)) :
    wpAny (model prog w) A (reRunToEnd m) Q E s := by
  unfold reRunToEnd
  refine wpAny_bind (wpAny_drive k _ m hk (by rcases h with h | h <;> rw [h.1] <;> rfl) ?_)
  refine wpAny_bind (wpAny_forIn_list _ (fun _ _ s' => s' = s) _ (fun x rest b s' hi => ?_) (fun b s' hi => ?_) _ _ rfl)
  · subst hi
    by_cases hh : (M.runFor (4 * (k + 1)) m).seen.has x = true
    · rw [if_pos hh]; refine wpAny_bind (wpAny_rule (wpAny_pure ?_)); exact rfl
    · rw [if_neg hh]; refine wpAny_pure ?_; exact rfl
  · subst hi
    rcases h with ⟨h1, h2⟩ | ⟨h1, h2⟩
    · rw [h1]; exact wpAny_pure h2
    · rw [h1]; exact wpAny_pure h2

def spansOf (groups : Nat) (m : M) : List Value := (List.range groups).flatMap fun g =>
    match if ((2 * g + 1 : Nat) : Int) ≤ m.lastmark then (m.marks.getD (2 * g) none, m.marks.getD (2 * g + 1) none) else (none, none) with
    | (some b, some e) => [rawInt b, rawInt e]
    | _ => [rawInt (-1), rawInt (-1)]
def tupO (vs : List Value) : Obj := { cls := .type "tuple", data := .seq vs.toArray }
def matO (string pattern : Value) (pos lim : Nat) (li : Int) (a : Addr) : Obj := { cls := .type "re.Match", data := .fields #[string, pattern, rawInt pos, rawInt lim, rawInt li, .ref a] }
def badSpan (groups : Nat) (m : M) : Bool := (List.range groups).any (fun g => match m.marks.getD (2 * g) none, m.marks.getD (2 * g + 1) none with | some b, some e => ((2 * g + 1 : Nat) : Int) ≤ m.lastmark && e < b | _, _ => false)
theorem wpAny_newMatch {pattern string : Value} {groups pos lim : Nat} {m : M} {Q : Value → Shared → Prop} (hb : badSpan groups m = false) (hsz : (spansOf groups m).length ≤ 1000)
    (h : Q (.ref (s.heap.objs.size + 1)) { s with heap := (s.heap.push (tupO (rawInt m.start :: rawInt m.handed :: spansOf groups m))).push (matO string pattern pos lim m.lastindex s.heap.objs.size) }) :
    wpAny (model prog w) A (reNewMatch pattern string groups pos lim m) Q E s := by
  unfold reNewMatch
  show wpAny _ _ (if badSpan groups m = true then _ else _) Q E s
  rw [hb, if_neg Bool.false_ne_true]
  refine wpAny_bind (wpAny_newTuple ?_ (by show (spansOf groups m).length + 1 + 1 ≤ sizeLine; unfold sizeLine; omega))
  exact wpAny_newObj_type (by rw [Heap.size_push]; exact h) (by size_fits)
end

section
variable {prog : Program} {w : World} {A : Around} {E : Value → Shared → Prop} {s : Shared}
def patO (p f : Value) (groups : Int) (gi gn : Value) (W : Addr) : Obj := { cls := .type "re.Pattern", data := .fields #[p, f, .int groups 0, gi, gn, .ref W, .int 0 0] }
structure IsPat (h : Heap) (a : Addr) (code : Array Nat) (groups : Nat) : Prop where
  at_ : ∃ p f gi gn W items n sl, h.get? a = some ⟨.type "re.Pattern", none, .fields #[p, f, .int groups 0, gi, gn, .ref W, .int 0 0], sl⟩ ∧
    (∃ c d sl', h.get? W = some ⟨c, d, .seq items n, sl'⟩) ∧ (items.map reRawOf).map (·.toNat) = code
theorem IsPat.keeps {h h' : Heap} {a : Addr} {code : Array Nat} {g : Nat} (x : IsPat h a code g) (hk : ∀ b o, h.get? b = some o → h'.get? b = some o) : IsPat h' a code g := by
  obtain ⟨p, f, gi, gn, W, items, n, sl, h1, ⟨c, d, sl', h2⟩, h3⟩ := x.at_
  exact ⟨p, f, gi, gn, W, items, n, sl, hk _ _ h1, ⟨c, d, sl', hk _ _ h2⟩, h3⟩
theorem IsPat.typeIs {s : Shared} {a : Addr} {code : Array Nat} {g : Nat} (x : IsPat s.heap a code g) : s.TypeIs (.ref a) "re.Pattern" := by
  obtain ⟨p, f, gi, gn, W, items, n, sl, h1, _⟩ := x.at_
  exact ⟨_, h1, rfl⟩
theorem getMethod_match {a : Addr} {code : Array Nat} {g : Nat} {pl : Sem Bool} {Q : Value × List Value → Shared → Prop} (x : IsPat s.heap a code g) (h : Q (.builtin "re.Pattern.match", [.ref a]) s) :
    wpAny (model prog w) A (getMethod (.ref a) "match" pl) Q E s := by
  refine getMethod_builtin x.typeIs pa_pat slot_match type_match (fun b e => ?_) h
  cases e
  obtain ⟨p, f, gi, gn, W, items, n, sl, h1, _⟩ := x.at_
  exact ⟨_, h1, rfl⟩
def m0 (code : Array Nat) (S : Str) (groups : Nat) (p : Nat) : M := Sre.forMatch code S.cps groups (min p S.cps.size) (min (2 ^ 63 - 1) S.cps.size) false false
theorem wpAny_rawItems {W : Addr} {items : Array Value} {n : Nat} {Q : Array Int → Shared → Prop} (h : ∃ c d sl', s.heap.get? W = some ⟨c, d, .seq items n, sl'⟩) (hq : Q (items.map reRawOf) s) :
    wpAny (model prog w) A (reRawItems (.ref W)) Q E s := by
  obtain ⟨c, d, sl', h⟩ := h
  unfold reRawItems
  exact wpAny_bind (wpAny_seqItems h rfl (wpAny_pure hq))
theorem call_match {a : Addr} {code : Array Nat} {groups : Nat} {S : Str} {t tp : Tok} {p : Nat} {k : Nat} {Q : Value → Shared → Prop} (x : IsPat s.heap a code groups) (hp : p < 2 ^ 63) (hk : k < 2 ^ 64)
    (h : (((m0 code S groups p).runFor (4 * (k + 1))).outcome = some .failed ∧ Q .none s) ∨
      (∃ m, (m0 code S groups p).runFor (4 * (k + 1)) = m ∧ m.outcome = some .matched ∧ badSpan groups m = false ∧ (spansOf groups m).length ≤ 1000 ∧
        Q (.ref (s.heap.objs.size + 1)) { s with heap := (s.heap.push (tupO (rawInt m.start :: rawInt m.handed :: spansOf groups m))).push (matO (.str S t) (.ref a) (min p S.cps.size) (min (2 ^ 63 - 1) S.cps.size) m.lastindex s.heap.objs.size) })) :
    wpAny (model prog w) A (call (.builtin "re.Pattern.match") [.ref a, .str S t, .int p tp]) Q E s := by
  refine wpAny_call_entry slot_match x.typeIs entry_match ?_ (args_match _ _ _)
  obtain ⟨pa, f, gi, gn, W, items, n, sl, h1, h2, h3⟩ := x.at_
  show wpAny _ _ (reTarget "re.Pattern.match" "match" ⟨[.ref a, .str S t, .int p tp], []⟩ >>= _) _ _ _
  unfold reTarget
  refine wpAny_bind ?_
  dsimp only
  refine wpAny_bind (m := reNamed _ _ _ _ _ _) (wpAny_of_eq (a := [some (.str S t), some (.int p tp), none]) ?_ ?_)
  · unfold reNamed
    rfl
  refine wpAny_bind (m := reSsize _) ?_
  refine wpAny_of_eq (a := (p : Int)) ?_ ?_
  · unfold reSsize asIndex asInt?
    show (if decide ((p : Int) < -(2 ^ 63)) || decide ((p : Int) ≥ 2 ^ 63) then _ else _) = _
    rw [if_neg (by simp only [Bool.or_eq_true, decide_eq_true_eq]; omega)]
  refine wpAny_bind (wpAny_pure ?_)
  refine wpAny_bind (wpAny_fieldsOf h1 rfl ?_)
  refine wpAny_bind (m := reTextOf _) (wpAny_of_eq (a := (S.cps, 0)) rfl ?_)
  rw [if_neg, if_neg]
  rotate_left
  · exact Bool.false_ne_true
  · exact Bool.false_ne_true
  show wpAny _ _ (reRawItems (.ref W) >>= fun x => pure (ReTarget.mk (.ref a) (.str S t) (x.map (·.toNat)) S.cps 0 groups (min p S.cps.size) (min (2 ^ 63 - 1) S.cps.size))) _ _ _
  /- { pattern := .ref a, string := .str S t, code := x.map (·.toNat), text := S.cps, kind := 0, groups := groups, pos := min p S.cps.size, -/
  refine wpAny_bind (wpAny_rawItems h2 (wpAny_pure ?_))
  rw [h3]
  show wpAny _ _ (reRunToEnd (m0 code S groups p) >>= _) _ _ _
  refine wpAny_bind (wpAny_runToEnd hk ?_)
  rcases h with ⟨e, q⟩ | ⟨m, rfl, e, hb, hl, q⟩
  · exact .inr ⟨e, wpAny_pure ⟨_, rfl, q⟩⟩
  · exact .inl ⟨e, wpAny_bind (wpAny_newMatch hb hl (wpAny_pure ⟨_, rfl, q⟩))⟩
end
end Mine
end

section
open PySem PySem.W PyProof.Rows PySem.Calls PySem.Builtin.Re
set_option Elab.async false
set_option maxRecDepth 100000
set_option maxHeartbeats 4000000
namespace Mine
open Sre (M)
structure IsMat (h : Heap) (a : Addr) (S : Str) (b e : Nat) (more : List Value) : Prop where
  at_ : ∃ t pat pos lim li T n sl, h.get? a = some ⟨.type "re.Match", none, .fields #[.str S t, pat, pos, lim, li, .ref T], sl⟩ ∧
    (∃ c d sl', h.get? T = some ⟨c, d, .seq (rawInt b :: rawInt e :: more).toArray n, sl'⟩)
theorem IsMat.keeps {h h' : Heap} {a : Addr} {S : Str} {b e : Nat} {more : List Value} (x : IsMat h a S b e more) (hk : ∀ b o, h.get? b = some o → h'.get? b = some o) : IsMat h' a S b e more := by
  obtain ⟨t, pat, pos, lim, li, T, n, sl, h1, ⟨c, d, sl', h2⟩⟩ := x.at_
  exact ⟨t, pat, pos, lim, li, T, n, sl, hk _ _ h1, ⟨c, d, sl', hk _ _ h2⟩⟩
theorem IsMat.typeIs {s : Shared} {a : Addr} {S : Str} {b e : Nat} {more : List Value} (x : IsMat s.heap a S b e more) : s.TypeIs (.ref a) "re.Match" := by
  obtain ⟨t, pat, pos, lim, li, T, n, sl, h1, _⟩ := x.at_
  exact ⟨_, h1, rfl⟩
theorem IsMat.noDict {h : Heap} {a : Addr} {S : Str} {b e : Nat} {more : List Value} (x : IsMat h a S b e more) : ∀ a', Value.ref a = .ref a' → ∃ o, h.get? a' = some o ∧ o.dict = none := by
  intro a' e
  cases e
  obtain ⟨t, pat, pos, lim, li, T, n, sl, h1, _⟩ := x.at_
  exact ⟨_, h1, rfl⟩
theorem isMat_new {h : Heap} {S : Str} {t : Tok} {pat : Value} {pos lim : Nat} {li : Int} {b e : Nat} {more : List Value} :
    IsMat ((h.push (tupO (rawInt b :: rawInt e :: more))).push (matO (.str S t) pat pos lim li h.objs.size)) (h.objs.size + 1) S b e more := by
  have h1 := Heap.get?_push_size (h.push (tupO (rawInt b :: rawInt e :: more))) (o := matO (.str S t) pat pos lim li h.objs.size) rfl
  rw [Heap.size_push] at h1
  have h2 := Heap.get?_push_of_some (matO (.str S t) pat pos lim li h.objs.size) (Heap.get?_push_size h (o := tupO (rawInt b :: rawInt e :: more)) rfl)
  exact ⟨t, pat, rawInt pos, rawInt lim, rawInt li, h.objs.size, _, _, h1, _, _, _, h2⟩
section
variable {prog : Program} {w : World} {A : Around} {E : Value → Shared → Prop} {s : Shared} {a : Addr} {S : Str} {b e : Nat} {more : List Value}
theorem truthy_mat {Q : Bool → Shared → Prop} (x : IsMat s.heap a S b e more) (h : Q true s) : wpAny (model prog w) A (truthy (.ref a)) Q E s := by
  unfold truthy
  refine wpAny_bind (m := callSpecial? _ _) ?_
  unfold callSpecial?
  refine wpAny_bind (wpAny_specialOf x.typeIs (r := none) (by rw [typeLookup_type, builtinLookup_eq_fast]; kernel_rfl) ?_)
  refine wpAny_pure ?_
  dsimp only
  refine wpAny_bind (wpAny_specialOf x.typeIs (r := none) (by rw [typeLookup_type, builtinLookup_eq_fast]; kernel_rfl) ?_)
  exact wpAny_pure h
theorem getMethod_group {pl : Sem Bool} {Q : Value × List Value → Shared → Prop} (x : IsMat s.heap a S b e more) (h : Q (.builtin "re.Match.group", [.ref a]) s) :
    wpAny (model prog w) A (getMethod (.ref a) "group" pl) Q E s := getMethod_builtin x.typeIs pa_mat slot_group type_group x.noDict h
theorem getMethod_end {pl : Sem Bool} {Q : Value × List Value → Shared → Prop} (x : IsMat s.heap a S b e more) (h : Q (.builtin "re.Match.end", [.ref a]) s) :
    wpAny (model prog w) A (getMethod (.ref a) "end" pl) Q E s := getMethod_builtin x.typeIs pa_mat slot_end type_end x.noDict h
theorem wpAny_found {Q : ReFound → Shared → Prop} (x : IsMat s.heap a S b e more)
    (h : ∀ t pat pos lim li T, Q ⟨#[.str S t, pat, pos, lim, li, .ref T], ((rawInt b :: rawInt e :: more).toArray.map reRawOf)⟩ s) : wpAny (model prog w) A (reFound (.ref a)) Q E s := by
  obtain ⟨t, pat, pos, lim, li, T, n, sl, h1, h2⟩ := x.at_
  unfold reFound
  exact wpAny_bind (wpAny_fieldsOf h1 rfl (wpAny_bind (wpAny_rawItems h2 (wpAny_pure (h t pat pos lim li T)))))
theorem call_end {Q : Value → Shared → Prop} (x : IsMat s.heap a S b e more) (h : Q (.int e s.toks) { s with toks := s.toks + 1 }) :
    wpAny (model prog w) A (call (.builtin "re.Match.end") [.ref a]) Q E s := by
  refine wpAny_call_entry slot_end x.typeIs entry_end ?_ (args_end _)
  unfold Builtin.«re.Match.end» reOneGroup
  refine wpAny_bind (wpAny_bind (wpAny_of_eq (a := (.ref a, [])) rfl ?_))
  refine wpAny_bind (wpAny_found x fun t pat pos lim li T => ?_)
  refine wpAny_bind (wpAny_pure (wpAny_pure ?_))
  refine wpAny_bind (m := mkInt _) (wpAny_mkInt (wpAny_pure ⟨_, rfl, ?_⟩))
  simpa [reRawOf, rawInt] using h
theorem call_group {Q : Value → Shared → Prop} (x : IsMat s.heap a S b e more) (hsz : e - b ≤ 1000000) (h : Q (.str ⟨S.cps.extract b e⟩ s.toks) { s with toks := s.toks + 1 }) :
    wpAny (model prog w) A (call (.builtin "re.Match.group") [.ref a]) Q E s := by
  refine wpAny_call_entry slot_group x.typeIs entry_group ?_ (args_group _)
  unfold Builtin.«re.Match.group»
  refine wpAny_bind (m := noKeywords _ _) (wpAny_of_eq (a := ()) rfl ?_)
  refine wpAny_bind (wpAny_found x fun t pat pos lim li T => ?_)
  refine wpAny_bind (m := reGroupText _ _ _) ?_
  have e1 : ((rawInt b :: rawInt e :: more).toArray.map reRawOf).getD (2 * 0) (-1) = b := by simp [reRawOf, rawInt]
  have e2 : ((rawInt b :: rawInt e :: more).toArray.map reRawOf).getD (2 * 0 + 1) (-1) = e := by simp [reRawOf, rawInt]
  unfold reGroupText
  dsimp only
  rw [e1, e2, if_neg (by simp)]
  refine wpAny_bind (m := reTextOf _) (wpAny_of_eq (a := (S.cps, 0)) rfl ?_)
  show wpAny _ _ (mkStr _) _ _ _
  rw [Int.toNat_natCast, Int.toNat_natCast]
  refine wpAny_mkStr (wpAny_pure ⟨_, rfl, h⟩) ?_
  show (S.cps.extract b e).size ≤ sizeLine
  rw [Array.size_extract]
  unfold sizeLine
  omega
end
end Mine
end

section
set_option maxRecDepth 100000
open PySem
namespace Mine
open Sre Sre.M
section
variable (d : Nat) (T : Array Nat) (L : Nat)
def shO (o : Option Nat) : Option Nat := o.map (· + d)
def shK (k : Sre.Kept) : Sre.Kept := { k with marks := k.marks.map (shO d) }
def shF (f : Sre.Frame) : Sre.Frame := { f with pos := f.pos + d, kept := shK d f.kept, began := shO d f.began }
def shL (l : Sre.Loop) : Sre.Loop := { l with began := shO d l.began }
def sh (m : M) : M := { m with text := T, lim := L, start := m.start + d, pos := m.pos + d, handed := m.handed + d, marks := m.marks.map (shO d), loops := m.loops.map (shL d), frames := m.frames.map (shF d) }
variable (m : M)
theorem sh_word (k : Nat) : (sh d T L m).word k = m.word k := rfl
theorem sh_say (y : Bool) : (sh d T L m).say y = sh d T L (m.say y) := rfl
theorem sh_stick (y : String) : (sh d T L m).stick y = sh d T L (m.stick y) := rfl
theorem sh_keep (b : Bool) : (sh d T L m).keep b = shK d (m.keep b) := by
  unfold M.keep shK sh
  cases b
  · simp
  · simp [Array.map_extract]
theorem sh_putBack (k : Sre.Kept) : (sh d T L m).putBack (shK d k) = sh d T L (m.putBack k) := by
  unfold M.putBack shK sh
  cases k with | mk a b c e =>
  cases c <;> simp
theorem sh_attempt (f : Sre.Frame) (t p : Nat) (o : Bool) : (sh d T L m).attempt (shF d f) t (p + d) o = sh d T L (m.attempt f t p o) := by
  unfold M.attempt
  have e : (shF d f).kept.marks.size = f.kept.marks.size := by simp [shF, shK]
  rw [e]
  show (if m.weight + 1 + f.kept.marks.size > 16777216 then _ else _) = _
  split
  · rfl
  · rfl
theorem sh_frame (w : Wait) : (sh d T L m).frame w = shF d (m.frame w) := by
  unfold M.frame shF shK sh; simp [shO]
theorem sh_loopAt (i : Nat) : (sh d T L m).loopAt i = shL d (m.loopAt i) := by
  unfold M.loopAt sh
  simp only [Array.getD_eq_getD_getElem?, Array.getElem?_map]
  cases m.loops[i]? <;> rfl
theorem sh_setLoop (i : Nat) (f f' : Sre.Loop → Sre.Loop) (h : ∀ l, f' (shL d l) = shL d (f l)) : (sh d T L m).setLoop i f' = sh d T L (m.setLoop i f) := by
  unfold M.setLoop sh
  have : (m.loops.map (shL d)).modify i f' = (m.loops.modify i f).map (shL d) := by
    apply Array.ext (by simp)
    intro j h1 h2
    simp only [Array.getElem_modify, Array.getElem_map]
    split <;> simp_all
  simp only [this]
end
end Mine
end

section
set_option maxRecDepth 100000
open PySem
namespace Mine
open Sre Sre.M
section
variable (d : Nat) (T : Array Nat) (L : Nat) (m : M)
theorem sh_mark (i : Nat) : (sh d T L m).mark i = sh d T L (m.mark i) := by
  have key : ∀ (l : List Nat) (a : Array (Option Nat)), l.foldl (fun (a : Array (Option Nat)) (j : Nat) => if (j : Int) > m.lastmark then a.setIfInBounds j none else a) (a.map (shO d)) =
      (l.foldl (fun (a : Array (Option Nat)) (j : Nat) => if (j : Int) > m.lastmark then a.setIfInBounds j none else a) a).map (shO d) := by
    intro l
    induction l with
    | nil => intro a; rfl
    | cons x l ih =>
      intro a
      simp only [List.foldl_cons]
      rw [← ih]
      split
      · simp [Array.map_setIfInBounds, shO]
      · rfl
  have key2 : (if (i : Int) ≤ (sh d T L m).lastmark + 1 then (sh d T L m).marks else (List.range i).foldl (fun (a : Array (Option Nat)) (j : Nat) => if (j : Int) > (sh d T L m).lastmark then a.setIfInBounds j none else a) (sh d T L m).marks) =
      (if (i : Int) ≤ m.lastmark + 1 then m.marks else (List.range i).foldl (fun (a : Array (Option Nat)) (j : Nat) => if (j : Int) > m.lastmark then a.setIfInBounds j none else a) m.marks).map (shO d) := by
    show (if (i : Int) ≤ m.lastmark + 1 then m.marks.map (shO d) else (List.range i).foldl (fun (a : Array (Option Nat)) (j : Nat) => if (j : Int) > m.lastmark then a.setIfInBounds j none else a) (m.marks.map (shO d))) = _
    rw [key]
    split <;> rfl
  unfold M.mark
  dsimp only
  rw [key2]
  simp only [sh, Array.map_setIfInBounds, shO, Option.map_some]
theorem sh_alternative (a : Nat) (k : Sre.Kept) : (sh d T L m).alternative a (shK d k) = sh d T L (m.alternative a k) := by
  unfold M.alternative
  show (if (m.code.getD a 0 == 0) = true then _ else _) = _
  split
  · rfl
  · rw [← sh_attempt, sh_frame]; rfl
theorem sh_afterRun (w : Wait) (c : Int) (k : Sre.Kept) : (sh d T L m).afterRun w c (shK d k) = sh d T L (m.afterRun w c k) := by
  unfold M.afterRun
  rw [← sh_attempt, sh_frame]; rfl
theorem sh_afterLoop (w : Wait) (i : Nat) (c : Int) (wh : Option Nat → Bool) : (sh d T L m).afterLoop w i c wh = sh d T L (m.afterLoop w i c wh) := by
  unfold M.afterLoop
  have e : ((sh d T L m).loopAt i).outer = (m.loopAt i).outer := by rw [sh_loopAt]; rfl
  dsimp only
  rw [e, ← sh_attempt]
  have e2 : ({ sh d T L m with inner := (m.loopAt i).outer } : M) = sh d T L { m with inner := (m.loopAt i).outer } := rfl
  rw [e2, sh_frame, sh_keep]
  rfl
theorem sh_round (w : Wait) (i : Nat) (c : Int) (g : Bool) (k : Sre.Kept) : (sh d T L m).round w i c g (shK d k) = sh d T L (m.round w i c g k) := by
  unfold M.round
  dsimp only
  rw [sh_setLoop d T L m i (fun l => { l with count := c, began := if g = true then some m.pos else l.began }) _ (by
    intro l; cases g <;> rfl), ← sh_attempt, sh_frame, sh_loopAt]
  rfl
theorem sh_until : (sh d T L m).until_ true = sh d T L (m.until_ true) := by
  unfold M.until_
  show (match m.inner with | none => _ | some i => _) = _
  cases m.inner with
  | none => rfl
  | some i =>
    dsimp only
    rw [sh_loopAt]
    have hb : ((shL d (m.loopAt i)).began != some (sh d T L m).pos) = ((m.loopAt i).began != some m.pos) := by
      show (((m.loopAt i).began.map (· + d)) != some (m.pos + d)) = _
      cases (m.loopAt i).began with
      | none => rfl
      | some b =>
        show (some (b + d) != some (m.pos + d)) = (some b != some m.pos)
        rw [Bool.eq_iff_iff]
        simp
    rw [hb]
    simp only [Bool.not_true, Bool.false_eq_true, if_false, if_true]
    show (if (m.loopAt i).count + 1 < ↑(m.code.getD ((m.loopAt i).pc + 2) 0) then _ else if ((decide ((m.loopAt i).count + 1 < ↑(m.code.getD ((m.loopAt i).pc + 3) 0)) || m.code.getD ((m.loopAt i).pc + 3) 0 == maxRepeat) && ((m.loopAt i).began != some m.pos)) = true then _ else _) = _
    have k0 : shK d {} = {} := by simp [shK]
    by_cases c1 : (m.loopAt i).count + 1 < ↑(m.code.getD ((m.loopAt i).pc + 2) 0)
    · rw [if_pos c1, if_pos c1]
      have := sh_round d T L m .maxBelow i ((m.loopAt i).count + 1) false {}
      rw [k0] at this
      exact this
    · rw [if_neg c1, if_neg c1]
      by_cases c2 : ((decide ((m.loopAt i).count + 1 < ↑(m.code.getD ((m.loopAt i).pc + 3) 0)) || m.code.getD ((m.loopAt i).pc + 3) 0 == maxRepeat) && ((m.loopAt i).began != some m.pos)) = true
      · rw [if_pos c2, if_pos c2, sh_keep]; exact sh_round d T L m .maxMore i _ true _
      · rw [if_neg c2, if_neg c2]; exact sh_afterLoop d T L m .maxTail i _ _
end
end Mine
end

section
set_option maxRecDepth 100000
open PySem
namespace Mine
open Sre Sre.M
theorem run_sh (code W T : Array Nat) (d i : Nat) : ∀ (n p found : Nat) (seen : Seen), (∀ j, p ≤ j → j < p + n → T.getD (j + d) 0 = W.getD j 0) →
    Sre.run code T i n (p + d) found seen = Sre.run code W i n p found seen := by
  intro n
  induction n with
  | zero => intro p found seen _; rfl
  | succ n ih =>
    intro p found seen h
    unfold Sre.run
    rw [h p (Nat.le_refl _) (by omega)]
    refine congrArg _ (funext fun x => ?_)
    obtain ⟨yes, seen'⟩ := x
    dsimp only
    split
    · rw [show p + d + 1 = p + 1 + d by omega]
      exact ih (p + 1) (found + 1) seen' fun j h1 h2 => h j (by omega) (by omega)
    · rfl
theorem run_more (code W : Array Nat) (i : Nat) : ∀ (n n' p found k : Nat) (seen seen' : Seen), n ≤ n' → Sre.run code W i n p found seen = .ok (k, seen') → k < found + n →
    Sre.run code W i n' p found seen = .ok (k, seen') := by
  intro n
  induction n with
  | zero => intro n' p found k seen seen' _ h hk; cases h; omega
  | succ n ih =>
    intro n' p found k seen seen' hn h hk
    obtain ⟨n'', rfl⟩ : ∃ x, n' = x + 1 := ⟨n' - 1, by omega⟩
    unfold Sre.run at h ⊢
    cases ha : Sre.accepts code i (W.getD p 0) seen with
    | error e => rw [ha] at h; cases h
    | ok x =>
      obtain ⟨yes, s2⟩ := x
      rw [ha] at h
      change (if yes = true then Sre.run code W i n (p + 1) (found + 1) s2 else pure (found, s2)) = _ at h
      show (if yes = true then Sre.run code W i n'' (p + 1) (found + 1) s2 else pure (found, s2)) = _
      split at h
      · rename_i hy
        rw [if_pos hy]
        exact ih n'' (p + 1) (found + 1) k s2 seen' (by omega) h (by omega)
      · rename_i hy
        rw [if_neg hy]; exact h
def oneChar : Op → Bool
  | .ANY | .ANY_ALL | .LITERAL | .NOT_LITERAL | .IN | .LITERAL_IGNORE | .NOT_LITERAL_IGNORE | .IN_IGNORE | .LITERAL_UNI_IGNORE | .NOT_LITERAL_UNI_IGNORE
  | .IN_UNI_IGNORE | .LITERAL_LOC_IGNORE | .NOT_LITERAL_LOC_IGNORE | .IN_LOC_IGNORE => true
  | _ => false
def clrRun (m : M) : Bool :=
  let room := m.lim - m.pos
  Nat.ble m.pos m.lim && Nat.ble (m.word 2) room && (Nat.ble (m.word 3) room ||
    match Sre.run m.code m.text (m.pc + 4) (min (m.word 3) room) m.pos 0 (m.seen.add (m.word 0) |>.add (m.word 4)) with
    | .ok (n, _) => Nat.blt n (min (m.word 3) room)
    | .error _ => false)
def clrOp (ex : Bool) (m : M) : Op → Bool
  | .FAILURE | .SUCCESS | .JUMP | .INFO | .MARK | .BRANCH | .REPEAT | .MAX_UNTIL => true
  | .REPEAT_ONE => (ex && Nat.ble m.pos m.lim) || clrRun m
  | op => oneChar op && (ex || Nat.blt m.pos m.lim)
def clrWait (f : Sre.Frame) : Bool := match f.wait with
  | .nextStart | .nextBranch | .closeLoop | .maxBelow | .maxMore | .maxTail => true
  | .giveBack => decide (f.count ≤ 0) || Nat.ble 1 f.pos
  | _ => false
def clr (ex : Bool) (m : M) : Bool := match m.answer with
  | some _ => match m.frames with
    | [] => true
    | f :: _ => clrWait f
  | none => match ops[m.word 0]? with
    | none => true
    | some op => clrOp ex m op
structure Fit (d : Nat) (T : Array Nat) (L : Nat) (ex : Bool) (m : M) : Prop where
  txt : ∀ j, j < m.lim → T.getD (j + d) 0 = m.text.getD j 0
  lim : d + m.lim ≤ L
  ext : ex = true → L = d + m.lim
  plain : m.lastStart = 0 ∧ m.wholeText = false ∧ m.mustAdvance = false
section
variable (d : Nat) (T : Array Nat) (L : Nat) (m : M) (ex : Bool)
theorem sh_resume (F : Fit d T L ex m) (f : Sre.Frame) (yes : Bool) (hc : clrWait f = true) : (sh d T L m).resume (shF d f) yes = sh d T L (m.resume f yes) := by
  unfold M.resume
  have hb : (sh d T L m).putBack (shF d f).kept = sh d T L (m.putBack f.kept) := sh_putBack d T L m f.kept
  rw [hb]
  unfold clrWait at hc
  show (match f.wait with | .nextStart => _ | .nextBranch => _ | .giveBack => _ | .takeMore => _ | .closeLoop => _ | .maxBelow => _ | .minBelow => _ | .maxMore => _ | .maxTail => _ | .minTail => _ | .minMore => _ | .possBelow => _ | .possMore => _ | .atomic => _ | .look => _ | .lookNot => _) = _
  cases hw : f.wait <;> rw [hw] at hc <;> first | (cases hc; done) | skip
  · dsimp only
    cases yes with
    | true => rfl
    | false =>
      have e : (sh d T L m).lastStart = 0 := F.plain.1
      rw [e, F.plain.1]
      rfl
  · dsimp only
    cases yes with
    | true => rfl
    | false => exact sh_alternative d T L (m.putBack f.kept) (f.pc + m.code.getD f.pc 0) f.kept
  · dsimp only
    cases yes with
    | true => rfl
    | false =>
      simp only [Bool.false_eq_true, if_false]
      show (if f.count - 1 < ↑(m.word 2) then _ else _) = _
      by_cases h : f.count - 1 < ↑(m.word 2)
      · rw [if_pos h, if_pos h]; rfl
      · rw [if_neg h, if_neg h]
        have hp : 1 ≤ f.pos := by
          dsimp only at hc
          rw [Bool.or_eq_true] at hc
          rcases hc with hc | hc
          · have := of_decide_eq_true hc; omega
          · exact Nat.le_of_ble_eq_true hc
        have e : (shF d f).pos - 1 = f.pos - 1 + d := by show f.pos + d - 1 = _; omega
        rw [e]
        exact sh_afterRun d T L { m.putBack f.kept with pos := f.pos - 1 } .giveBack (f.count - 1) f.kept
  · dsimp only
    show ({ sh d T L m with inner := ((sh d T L m).loopAt f.loop).outer, loops := (sh d T L m).loops.pop } : M).say yes = _
    rw [sh_loopAt]
    simp [sh, M.say, shL, Array.map_pop]
  · dsimp only
    cases yes with
    | true => rfl
    | false =>
      simp only [Bool.false_eq_true, if_false]
      show M.say ((sh d T L m).setLoop f.loop fun l => { l with count := f.count - 1 }) false = _
      rw [sh_setLoop d T L m f.loop (fun l => { l with count := f.count - 1 }) _ (fun l => rfl)]; rfl
  · dsimp only
    have e : (sh d T L m).setLoop f.loop (fun l => { l with began := (shF d f).began }) = sh d T L (m.setLoop f.loop fun l => { l with began := f.began }) :=
      sh_setLoop d T L m f.loop (fun l => { l with began := f.began }) _ (fun l => rfl)
    cases yes with
    | true =>
      show ((sh d T L m).setLoop f.loop fun l => { l with began := (shF d f).began }).say true = _
      rw [e]; rfl
    | false =>
      show (((((sh d T L m).setLoop f.loop fun l => { l with began := (shF d f).began }).putBack (shF d f).kept).setLoop f.loop fun l => { l with count := f.count - 1 }).afterLoop .maxTail f.loop f.count fun _ => false) = _
      rw [e, show (shF d f).kept = shK d f.kept from rfl, sh_putBack, sh_setLoop d T L _ f.loop (fun l => { l with count := f.count - 1 }) _ (fun l => rfl)]
      exact sh_afterLoop d T L _ .maxTail f.loop f.count _
  · rfl
theorem sh_rep (F : Fit d T L ex m) (hc : clrOp ex m .REPEAT_ONE = true) : (((m.word 2 : Int) > ((L : Nat) : Int) - ((m.pos + d : Nat) : Int)) ↔ ((m.word 2 : Int) > (m.lim : Int) - m.pos)) ∧
    Sre.run m.code T (m.pc + 4) (min (m.word 3) (((L : Nat) : Int) - ((m.pos + d : Nat) : Int)).toNat) (m.pos + d) 0 ((m.seen.add (m.word 0)).add (m.word 4)) =
      Sre.run m.code m.text (m.pc + 4) (min (m.word 3) ((m.lim : Int) - m.pos).toNat) m.pos 0 ((m.seen.add (m.word 0)).add (m.word 4)) := by
  have hl := F.lim
  change ((ex && Nat.ble m.pos m.lim) || clrRun m) = true at hc
  rw [Bool.or_eq_true] at hc
  rcases hc with hc | hc
  · rw [Bool.and_eq_true] at hc
    have h1 := F.ext hc.1
    have h2 := Nat.le_of_ble_eq_true hc.2
    refine ⟨by omega, ?_⟩
    rw [show ((L : Nat) : Int) - ((m.pos + d : Nat) : Int) = (m.lim : Int) - m.pos by omega]
    exact run_sh _ _ _ _ _ _ _ _ _ fun j h3 h4 => F.txt j (by omega)
  · unfold clrRun at hc
    dsimp only at hc
    rw [Bool.and_eq_true, Bool.and_eq_true] at hc
    obtain ⟨⟨h1, h2⟩, h3⟩ := hc
    have h1 := Nat.le_of_ble_eq_true h1
    have h2 := Nat.le_of_ble_eq_true h2
    refine ⟨by omega, ?_⟩
    have et : ((m.lim : Int) - m.pos).toNat = m.lim - m.pos := by omega
    have et2 : (((L : Nat) : Int) - ((m.pos + d : Nat) : Int)).toNat = L - (m.pos + d) := by omega
    rw [et, et2]
    have e1 := run_sh m.code m.text T d (m.pc + 4) (min (m.word 3) (m.lim - m.pos)) m.pos 0 ((m.seen.add (m.word 0)).add (m.word 4)) fun j h3 h4 => F.txt j (by omega)
    rw [Bool.or_eq_true] at h3
    rcases h3 with h3 | h3
    · have h3 := Nat.le_of_ble_eq_true h3
      rw [← e1, show min (m.word 3) (L - (m.pos + d)) = min (m.word 3) (m.lim - m.pos) by omega]
    · cases hr : Sre.run m.code m.text (m.pc + 4) (min (m.word 3) (m.lim - m.pos)) m.pos 0 ((m.seen.add (m.word 0)).add (m.word 4)) with
      | error e => rw [hr] at h3; cases h3
      | ok x =>
        obtain ⟨n, s2⟩ := x
        rw [hr] at h3 e1
        have h3 : n < min (m.word 3) (m.lim - m.pos) := Nat.le_of_ble_eq_true h3
        exact run_more _ _ _ _ _ _ _ _ _ _ (by omega) e1 (by omega)
theorem sh_exec (F : Fit d T L ex m) (op : Op) (ho : ops[m.word 0]? = some op) (hc : clrOp ex m op = true) : (sh d T L m).exec = sh d T L m.exec := by
  have hpos : ∀ (h : (ex || Nat.blt m.pos m.lim) = true), ((sh d T L m).pos ≥ (sh d T L m).lim) = (m.pos ≥ m.lim) := by
    intro h
    show (m.pos + d ≥ L) = _
    apply propext
    cases ex with
    | true => have := F.ext rfl; omega
    | false => have h1 : m.pos < m.lim := Nat.le_of_ble_eq_true h; have := F.lim; omega
  have hro : ∀ (h : ex = true), ((sh d T L m).lim : Int) - (sh d T L m).pos = (m.lim : Int) - m.pos := by
    intro h
    show ((L : Nat) : Int) - ((m.pos + d : Nat) : Int) = _
    have := F.ext h
    omega
  unfold M.exec
  rw [sh_word, ho]
  dsimp only
  have one : ∀ (se : Seen), (ex || Nat.blt m.pos m.lim) = true →
      (if (sh d T L m).pos ≥ (sh d T L m).lim then M.say { sh d T L m with seen := se } false else
        match accepts m.code m.pc (T.getD (m.pos + d) 0) se with
        | .error why => M.stick { sh d T L m with seen := se } why
        | .ok (false, seen) => M.say { sh d T L m with seen := seen } false
        | .ok (true, seen) => { sh d T L m with seen := seen, pc := m.pc + itemWidth m.code m.pc, pos := m.pos + d + 1 }) =
      sh d T L (if m.pos ≥ m.lim then M.say { m with seen := se } false else
        match accepts m.code m.pc (m.text.getD m.pos 0) se with
        | .error why => M.stick { m with seen := se } why
        | .ok (false, seen) => M.say { m with seen := seen } false
        | .ok (true, seen) => { m with seen := seen, pc := m.pc + itemWidth m.code m.pc, pos := m.pos + 1 }) := by
    intro se h
    have h1 := hpos h
    by_cases c : m.pos ≥ m.lim
    · rw [if_pos c, if_pos (by rw [h1]; exact c)]; rfl
    · rw [if_neg c, if_neg (by rw [h1]; exact c), F.txt _ (by omega)]
      rcases accepts m.code m.pc (m.text.getD m.pos 0) se with e | ⟨yes, s2⟩
      · rfl
      · cases yes
        · rfl
        · simp only [sh, M.mk.injEq, and_true, true_and]
          omega
  cases op <;> first | (have hc' : false = true := hc; cases hc'; done) | (exact one _ hc) | skip
  case FAILURE => rfl
  case JUMP => rfl
  case INFO => rfl
  case SUCCESS =>
    show (if (m.outermost && ((m.wholeText && (m.pos + d != L)) || (m.mustAdvance && (m.pos + d == m.start + d)))) = true then M.say _ false else M.say _ true) =
      sh d T L (if (m.outermost && ((m.wholeText && (m.pos != m.lim)) || (m.mustAdvance && (m.pos == m.start)))) = true then M.say _ false else M.say _ true)
    have c1 : (m.outermost && ((m.wholeText && (m.pos + d != L)) || (m.mustAdvance && (m.pos + d == m.start + d)))) = false := by rw [F.plain.2.1, F.plain.2.2]; simp
    have c2 : (m.outermost && ((m.wholeText && (m.pos != m.lim)) || (m.mustAdvance && (m.pos == m.start)))) = false := by rw [F.plain.2.1, F.plain.2.2]; simp
    rw [if_neg (by rw [c1]; exact Bool.false_ne_true), if_neg (by rw [c2]; exact Bool.false_ne_true)]
    rfl
  case MARK => exact sh_mark d T L { m with seen := m.seen.add (m.word 0) } (m.word 1)
  case BRANCH =>
    show M.alternative (sh d T L { m with seen := m.seen.add (m.word 0) }) (m.pc + 1) ((sh d T L { m with seen := m.seen.add (m.word 0) }).keep m.inner.isSome) = _
    rw [sh_keep]
    exact sh_alternative d T L { m with seen := m.seen.add (m.word 0) } (m.pc + 1) _
  case MAX_UNTIL => exact sh_until d T L { m with seen := m.seen.add (m.word 0), pc := m.pc + 1 }
  case REPEAT =>
    have es : (m.loops.map (shL d)).size = m.loops.size := by simp
    have key := sh_attempt d T L { m with seen := m.seen.add (m.word 0), loops := m.loops.push { pc := m.pc, outer := m.inner }, inner := some m.loops.size }
      { wait := .closeLoop, pc := m.pc, pos := m.pos, outermost := m.outermost, loop := m.loops.size } (m.pc + 1 + m.word 1) m.pos m.outermost
    have e2 : sh d T L { m with seen := m.seen.add (m.word 0), loops := m.loops.push { pc := m.pc, outer := m.inner }, inner := some m.loops.size } =
      { sh d T L m with seen := m.seen.add (m.word 0), loops := (m.loops.map (shL d)).push { pc := m.pc, outer := m.inner }, inner := some (m.loops.map (shL d)).size } := by
      simp only [sh, Array.map_push, es]; rfl
    rw [e2] at key
    have e3 : shF d { wait := .closeLoop, pc := m.pc, pos := m.pos, outermost := m.outermost, loop := m.loops.size } =
      { wait := .closeLoop, pc := m.pc, pos := m.pos + d, outermost := m.outermost, loop := (m.loops.map (shL d)).size } := by
      simp only [shF, shK, es, shO, Array.map_empty, Option.map_none]
    rw [e3] at key
    exact key
  case REPEAT_ONE =>
    have key := sh_rep d T L m ex F hc
    have k1 : ((m.word 2 : Int) > ((L : Nat) : Int) - ((m.pos + d : Nat) : Int)) = ((m.word 2 : Int) > (m.lim : Int) - m.pos) := propext key.1
    show (if (m.word 2 : Int) > ((L : Nat) : Int) - ((m.pos + d : Nat) : Int) then M.say { sh d T L m with seen := m.seen.add (m.word 0) } false else
      match run m.code T (m.pc + 4) (min (m.word 3) (((L : Nat) : Int) - ((m.pos + d : Nat) : Int)).toNat) (m.pos + d) 0 ((m.seen.add (m.word 0)).add (m.word 4)) with
      | .error why => M.stick { sh d T L m with seen := m.seen.add (m.word 0) } why
      | .ok (n, seen) => if n < m.word 2 then M.say { sh d T L m with seen := seen } false else M.afterRun { sh d T L m with seen := seen, pos := m.pos + d + n } .giveBack n (({ sh d T L m with seen := seen, pos := m.pos + d + n } : M).keep m.inner.isSome)) =
      sh d T L (if (m.word 2 : Int) > (m.lim : Int) - m.pos then M.say { m with seen := m.seen.add (m.word 0) } false else
      match run m.code m.text (m.pc + 4) (min (m.word 3) ((m.lim : Int) - m.pos).toNat) m.pos 0 ((m.seen.add (m.word 0)).add (m.word 4)) with
      | .error why => M.stick { m with seen := m.seen.add (m.word 0) } why
      | .ok (n, seen) => if n < m.word 2 then M.say { m with seen := seen } false else M.afterRun { m with seen := seen, pos := m.pos + n } .giveBack n (({ m with seen := seen, pos := m.pos + n } : M).keep m.inner.isSome))
    by_cases c : (m.word 2 : Int) > (m.lim : Int) - m.pos
    · rw [if_pos c, if_pos (by rw [k1]; exact c)]; rfl
    · rw [if_neg c, if_neg (by rw [k1]; exact c), key.2]
      rcases run m.code m.text (m.pc + 4) (min (m.word 3) ((m.lim : Int) - m.pos).toNat) m.pos 0 ((m.seen.add (m.word 0)).add (m.word 4)) with e | ⟨n, s2⟩
      · rfl
      · dsimp only
        by_cases c2 : n < m.word 2
        · rw [if_pos c2, if_pos c2]; rfl
        · rw [if_neg c2, if_neg c2]
          have e2 : ({ sh d T L m with seen := s2, pos := m.pos + d + n } : M) = sh d T L { m with seen := s2, pos := m.pos + n } := by
            simp only [sh, M.mk.injEq, and_true, true_and]; omega
          rw [e2, sh_keep]
          exact sh_afterRun d T L { m with seen := s2, pos := m.pos + n } .giveBack n _
theorem sh_step (F : Fit d T L ex m) (hc : clr ex m = true) : (sh d T L m).step = sh d T L m.step := by
  rcases m with ⟨code, text, lim, start, lastStart, wholeText, mustAdvance, pc, pos, handed, outermost, marks, lastmark, lastindex, loops, inner, frames, weight, answer, seen, outcome⟩
  cases outcome with
  | some o => rfl
  | none =>
    cases answer with
    | some yes =>
      cases frames with
      | nil => rfl
      | cons f rest =>
        have e : (shF d f).kept.marks.size = f.kept.marks.size := by simp [shF, shK]
        have key := sh_resume d T L ⟨code, text, lim, start, lastStart, wholeText, mustAdvance, f.pc, f.pos, handed, f.outermost, marks, lastmark, lastindex, loops, inner, rest, weight - (1 + f.kept.marks.size), none, seen, none⟩ ex ⟨F.txt, F.lim, F.ext, F.plain⟩ f yes hc
        show M.resume ⟨code, T, L, start + d, lastStart, wholeText, mustAdvance, f.pc, f.pos + d, handed + d, f.outermost, marks.map (shO d), lastmark, lastindex, loops.map (shL d), inner, rest.map (shF d), weight - (1 + (shF d f).kept.marks.size), none, seen, none⟩ (shF d f) yes = _
        rw [e]
        exact key
    | none =>
      let m : M := ⟨code, text, lim, start, lastStart, wholeText, mustAdvance, pc, pos, handed, outermost, marks, lastmark, lastindex, loops, inner, frames, weight, none, seen, none⟩
      show (if pc < code.size then (sh d T L m).exec else M.stick (sh d T L m) "code:ran-off") = sh d T L (if pc < code.size then m.exec else m.stick "code:ran-off")
      split
      · cases ho : ops[m.word 0]? with
        | none =>
          unfold M.exec
          rw [sh_word, ho]; rfl
        | some op =>
          have hc : (match ops[m.word 0]? with | none => true | some op => clrOp ex m op) = true := hc
          rw [ho] at hc
          exact sh_exec d T L m ex F op ho hc
      · rfl
end
end Mine
end

section
set_option maxRecDepth 100000
open PySem
namespace Mine
open Sre Sre.M
def eqL : List Nat → List Nat → Bool
  | [], [] => true
  | a :: l, b :: r => Nat.beq a b && eqL l r
  | _, _ => false
theorem eqL_eq : ∀ {a b : List Nat}, eqL a b = true → a = b
  | [], [], _ => rfl
  | a :: l, b :: r, h => by
    have h := Bool.and_eq_true_iff.mp h
    rw [Nat.eq_of_beq_eq_true h.1, eqL_eq h.2]
  | [], _ :: _, h => by cases h
  | _ :: _, [], h => by cases h
def okM (W : List Nat) (m : M) : Bool := eqL m.text.toList W && (Nat.beq m.lim W.length && (Nat.beq m.lastStart 0 && (!m.wholeText && !m.mustAdvance)))
def go (ex : Bool) (W : List Nat) : Nat → M → Option M
  | 0, m => match m.outcome with | some _ => some m | none => none
  | n + 1, m => match m.outcome with
    | some _ => some m
    | none => match okM W m && clr ex m with
      | true => go ex W n m.step
      | false => none
structure Win (d : Nat) (T : Array Nat) (L : Nat) (ex : Bool) (W : List Nat) : Prop where
  txt : ∀ j, j < W.length → T.getD (j + d) 0 = W.getD j 0
  lim : d + W.length ≤ L
  ext : ex = true → L = d + W.length
section
variable {d : Nat} {T : Array Nat} {L : Nat} {ex : Bool} {W : List Nat}
theorem Win.fit (H : Win d T L ex W) {m : M} (h : okM W m = true) : Fit d T L ex m := by
  unfold okM at h
  simp only [Bool.and_eq_true] at h
  obtain ⟨h1, h2, h3, h4, h5⟩ := h
  have e1 : m.text = W.toArray := by rw [← eqL_eq h1]
  have e2 : m.lim = W.length := Nat.eq_of_beq_eq_true h2
  refine ⟨fun j hj => ?_, by rw [e2]; exact H.lim, fun e => by rw [e2]; exact H.ext e, Nat.eq_of_beq_eq_true h3, by simpa using h4, by simpa using h5⟩
  rw [e2] at hj
  rw [H.txt j hj, e1]
  simp
theorem go_sound (H : Win d T L ex W) : ∀ (n : Nat) (m m' : M), go ex W n m = some m' → (sh d T L m).runFor n = sh d T L m' ∧ m'.outcome.isSome = true := by
  intro n
  induction n with
  | zero =>
    intro m m' h
    unfold go at h
    split at h
    · rename_i o e; cases h; exact ⟨rfl, by rw [e]; rfl⟩
    · cases h
  | succ n ih =>
    intro m m' h
    unfold go at h
    split at h
    · rename_i o e
      cases h
      refine ⟨?_, by rw [e]; rfl⟩
      unfold M.runFor
      rw [if_pos (by show m.outcome.isSome = true; rw [e]; rfl)]
    · rename_i e
      split at h
      · rename_i hc
        have hc := Bool.and_eq_true_iff.mp hc
        unfold M.runFor
        rw [if_neg (by show ¬ m.outcome.isSome = true; rw [e]; exact Bool.false_ne_true), sh_step d T L m ex (H.fit hc.1) hc.2]
        exact ih _ _ h
      · cases h
theorem forMatch_sh (code : Array Nat) (g : Nat) (hl : d ≤ L) (hlen : d + W.length ≤ L) (ext : ex = true → L = d + W.length) (hle : (ex || Nat.ble (header code).1 W.length) = true) :
    forMatch code T g d L false false = sh d T L (forMatch code W.toArray g 0 W.length false false) := by
  have e : (Array.replicate (2 * g) (none : Option Nat)).map (shO d) = Array.replicate (2 * g) none := by simp [shO]
  have hc : ((header code).1 != 0 && decide (d ≤ L) && decide (L - d < (header code).1)) = ((header code).1 != 0 && decide (0 ≤ W.length) && decide (W.length - 0 < (header code).1)) := by
    cases ex with
    | true => have := ext rfl; subst this; simp
    | false =>
      have h1 : (header code).1 ≤ W.length := Nat.le_of_ble_eq_true hle
      have h2 : decide (L - d < (header code).1) = false := by simp; omega
      have h3 : decide (W.length - 0 < (header code).1) = false := by simp; omega
      rw [h2, h3]; simp
  have e2 : ({ code, text := T, lim := L, start := d, pc := (header code).2, pos := d, handed := d, marks := Array.replicate (2 * g) none, mustAdvance := false, seen := if (header code).2 == 0 then {} else ({} : Seen).add 14, wholeText := false } : M) =
      { code, text := T, lim := L, start := 0 + d, pc := (header code).2, pos := 0 + d, handed := 0 + d, marks := (Array.replicate (2 * g) none).map (shO d), mustAdvance := false, loops := (#[] : Array Loop).map (shL d), seen := if (header code).2 == 0 then {} else ({} : Seen).add 14, wholeText := false } := by
    rw [e, Nat.zero_add, Array.map_empty]
  unfold forMatch
  show (if ((header code).1 != 0 && decide (d ≤ L) && decide (L - d < (header code).1)) = true then _ else _) = sh d T L (if ((header code).1 != 0 && decide (0 ≤ W.length) && decide (W.length - 0 < (header code).1)) = true then _ else _)
  rw [hc]
  split
  · exact congrArg (fun m => M.say m false) e2
  · exact e2
end
end Mine
end

section
open PySem PySem.W PyProof.Rows PySem.Calls PySem.Builtin.Re
set_option Elab.async false
set_option maxRecDepth 100000
set_option maxHeartbeats 4000000
namespace Mine
open Sre Sre.M
def summ (g : Nat) (m : M) : Option (Option Nat) := match m.outcome with
  | some .failed => some none
  | some .matched => match Nat.beq m.start 0 && !badSpan g m with
    | true => some (some m.handed)
    | false => none
  | _ => none
def look (ex : Bool) (code : Array Nat) (g : Nat) (W : List Nat) : Option (Option Nat) := match ex || Nat.ble (header code).1 W.length with
  | true => match go ex W 400 (forMatch code W.toArray g 0 W.length false false) with
    | some m => summ g m
    | none => none
  | false => none
theorem badSpan_sh (d : Nat) (T : Array Nat) (L g : Nat) (m : M) : badSpan g (sh d T L m) = badSpan g m := by
  unfold badSpan
  refine congrArg (fun f => (List.range g).any f) (funext fun i => ?_)
  have e : ∀ k, (m.marks.map (shO d)).getD k none = shO d (m.marks.getD k none) := fun k => by
    simp only [Array.getD_eq_getD_getElem?, Array.getElem?_map]
    cases m.marks[k]? <;> rfl
  show (match (m.marks.map (shO d)).getD (2 * i) none, (m.marks.map (shO d)).getD (2 * i + 1) none with | some b, some e => decide (((2 * i + 1 : Nat) : Int) ≤ m.lastmark) && decide (e < b) | _, _ => false) = _
  rw [e, e]
  cases m.marks.getD (2 * i) none <;> cases m.marks.getD (2 * i + 1) none <;> simp [shO]
theorem spansOf_length (g : Nat) (m : M) : (spansOf g m).length = 2 * g := by
  unfold spansOf
  rw [List.length_flatMap]
  have : ∀ l : List Nat, (l.map fun g => (match if ((2 * g + 1 : Nat) : Int) ≤ m.lastmark then (m.marks.getD (2 * g) none, m.marks.getD (2 * g + 1) none) else (none, none) with
    | (some b, some e) => [rawInt b, rawInt e]
    | _ => [rawInt (-1), rawInt (-1)]).length).sum = 2 * l.length := by
    intro l
    induction l with
    | nil => rfl
    | cons x l ih =>
      rw [List.map_cons, List.sum_cons, ih, List.length_cons]
      have : ∀ q : Option Nat × Option Nat, (match q with | (some b, some e) => [rawInt b, rawInt e] | _ => [rawInt (-1), rawInt (-1)]).length = 2 := by
        rintro ⟨_ | b, _ | e⟩ <;> rfl
      rw [this]; omega
  exact (this _).trans (by rw [List.length_range])
theorem allLt_news {h₀ h : Heap} {L d : Addr} : ∀ {news : List (Addr × Obj)}, News h₀ L h news → h.objs.size ≤ d → AllLt d news
  | [], _, _ => trivial
  | (a, o) :: _, N, hd => ⟨Nat.lt_of_lt_of_le (Heap.lt_size (N (a, o) (.head _)).1) hd, allLt_news (fun p hp => N p (.tail _ hp)) hd⟩
section
variable {prog : Program} {w : World} {A : Around} {E : Value → Shared → Prop} {s : Shared} {a : Addr} {S : Str} {code : Array Nat} {g d : Nat} {ex : Bool} {W : List Nat} {r : Option Nat} {t tp : Tok} {p : Int}
  {h₀ : Heap} {L : Addr} {m : Str → Option Value} {news : List (Addr × Obj)}
theorem MATCH {Q : Value → Shared → Prop} (P : IsPat s.heap a code g) (H : Win d S.cps S.cps.size ex W) (hl : look ex code g W = some r) (hg : g ≤ 100) (F : Fr h₀ L s.heap m) (N : News h₀ L s.heap news) (hS : S.cps.size ≤ 1000000) (hp : p = d)
    (hq : match r with
      | none => Q .none s
      | some e => ∀ h' A₂ A₁ pos lim li sp, AllLt A₁ news → A₁ < A₂ → AllLt A₂ news → Fr h₀ L h' m → News h₀ L h' ((A₂, matO (.str S t) (.ref a) pos lim li A₁) :: (A₁, tupO (rawInt d :: rawInt (d + e : Nat) :: sp)) :: news) → Q (.ref A₂) { s with heap := h' }) :
    wpAny (model prog w) A (call (.builtin "re.Pattern.match") [.ref a, .str S t, .int p tp]) Q E s := by
  subst hp
  have hd : d ≤ S.cps.size := by have := H.lim; omega
  unfold look at hl
  split at hl
  · rename_i hle
    split at hl
    · rename_i mf hgo
      obtain ⟨e1, e2⟩ := go_sound H 400 _ _ hgo
      have em : m0 code S g d = sh d S.cps S.cps.size (forMatch code W.toArray g 0 W.length false false) := by
        unfold m0
        rw [Nat.min_eq_left hd, Nat.min_eq_right (by omega)]
        exact forMatch_sh code g hd H.lim H.ext hle
      rw [← em] at e1
      refine call_match (k := 99) P (by omega) (by omega) ?_
      rw [show 4 * (99 + 1) = 400 from rfl, e1]
      unfold summ at hl
      split at hl
      · rename_i ho
        cases hl
        exact .inl ⟨ho, hq⟩
      · rename_i ho
        split at hl
        · rename_i hb
          cases hl
          have hb := Bool.and_eq_true_iff.mp hb
          have hs0 : mf.start = 0 := Nat.eq_of_beq_eq_true hb.1
          refine .inr ⟨_, rfl, ho, by rw [badSpan_sh]; simpa using hb.2, by rw [spansOf_length]; omega, ?_⟩
          have F1 := F.push (tupO (rawInt d :: rawInt (d + mf.handed : Nat) :: spansOf g (sh d S.cps S.cps.size mf)))
          have N1 := News.push F N (tupO (rawInt d :: rawInt (d + mf.handed : Nat) :: spansOf g (sh d S.cps S.cps.size mf)))
          have F2 := F1.push (matO (.str S t) (.ref a) (min d S.cps.size) (min (2 ^ 63 - 1) S.cps.size) (sh d S.cps S.cps.size mf).lastindex s.heap.objs.size)
          have N2 := News.push F1 N1 (matO (.str S t) (.ref a) (min d S.cps.size) (min (2 ^ 63 - 1) S.cps.size) (sh d S.cps S.cps.size mf).lastindex s.heap.objs.size)
          have z := hq _ _ _ _ _ _ _ (allLt_news N (Nat.le_refl _)) (by rw [Heap.size_push]; exact Nat.lt_succ_self _) (allLt_news N (by rw [Heap.size_push]; exact Nat.le_succ _)) F2 N2
          rw [Heap.size_push] at z
          have ea : ((sh d S.cps S.cps.size mf).start : Int) = (d : Nat) := by show ((mf.start + d : Nat) : Int) = _; rw [hs0]; omega
          have eb : ((sh d S.cps S.cps.size mf).handed : Int) = (d + mf.handed : Nat) := by show ((mf.handed + d : Nat) : Int) = _; omega
          rw [ea, eb]
          exact z
        · cases hl
      · cases hl
    · cases hl
  · cases hl
theorem isMat_of {sp : List Value} {e : Nat} {pat : Value} {pos lim : Nat} {li : Int} {A₁ A₂ : Addr} (N : News h₀ L s.heap news) (h2 : (A₂, matO (.str S t) pat pos lim li A₁) ∈ news) (h1 : (A₁, tupO (rawInt d :: rawInt e :: sp)) ∈ news) :
    IsMat s.heap A₂ S d e sp := ⟨t, pat, rawInt pos, rawInt lim, rawInt li, A₁, _, _, N.get h2, _, _, _, N.get h1⟩
end
end Mine
end

section
open PySem PySem.W PyProof.Rows PySem.Calls
set_option Elab.async false
set_option maxRecDepth 100000
set_option maxHeartbeats 4000000
set_option pp.deepTerms false
set_option pp.maxSteps 3000
namespace Mine
theorem fill : (fun (_ : OpenLaw) (_ : Params → Frag) => True) PySem.Challenge.rw_ez0042_01 KX := by k_fill; trivial
def cUni : Array Nat := #[14, 8, 1, 2, 9, 1, 1, 92, 0, 16, 92, 17, 0, 24, 13, 1, 6, 39, 8, 22, 48, 57, 22, 97, 102, 0, 1, 17, 1, 23, 27, 0, 1, 7, 7, 16, 13, 16, 10, 15, 17, 15, 13, 11, 9, 13824, 1, 0, 0, 0, 0, 0, 0, 0, 15, 2, 0, 18, 1]
def whileOf : List Stmt → Option (Expr × List Stmt)
  | [] => none
  | .While t b _ _ :: _ => some (t, b)
  | _ :: r => whileOf r
def testOf (n : Str) : Expr := match whileOf (bodyOf n) with | some (t, _) => t | none => .Name "x" ⟨0,0,0,0⟩
def turnOf (n : Str) : List Stmt := match whileOf (bodyOf n) with | some (_, b) => b | none => []
structure IsDef (h : Heap) (f : Addr) (name : Str) : Prop where
  at_ : ∃ o pm cd doc, h.get? f = some o ∧ o.data = .func (docDef name (argsOf name) (bodyOf name) (scopeOf name) pm cd doc) ∧ h.CodeRec cd name
theorem isDef_of {P : Params} {h : Heap} {f c : Addr} {name : Str} {o oc : Obj} {pm doc : Value} {vs : Array Value} {t : Tok} (X : (KX P).In h) (e : (KX P).lookup f = some o) (hd : o.data = .func (docDef name (argsOf name) (bodyOf name) (scopeOf name) pm (.ref c) doc))
    (ec : (KX P).lookup c = some oc) (hc : oc.data = .fields vs) (hv : vs[1]? = some (.str name t)) : IsDef h f name :=
  ⟨o, pm, .ref c, doc, X _ _ e, hd, c, oc, vs, t, rfl, X _ _ ec, hc, hv⟩
theorem def_203 {P : Params} {h : Heap} (X : (KX P).In h) : IsDef h 203 "_sub_unicode_escape" := isDef_of (c := 202) X rfl rfl rfl rfl rfl
theorem pat_184 {P : Params} {h : Heap} (X : (KX P).In h) : IsPat h 184 cUni 1 := by
  exact ⟨_, _, _, _, _, _, _, _, X 184 _ rfl, ⟨_, _, _, X _ _ rfl⟩, by kernel_rfl⟩

abbrev nU : Str := "_sub_unicode_escape"
def noE : Value → Shared → Prop := fun _ _ => False
theorem fr_eq {h₀ h : Heap} {L : Addr} {m m' : Str → Option Value} (F : Fr h₀ L h m) (e : m = m') : Fr h₀ L h m' := e ▸ F
abbrev uM (V : Str) (tv : Tok) (R : Addr) (p : Int) (tp : Tok) (mo : Option Value) : Str → Option Value := fun y => if y = "value" then some (.str V tv) else if y = "result" then some (.ref R) else if y = "pos" then some (.int p tp) else if y = "match" then mo else none
theorem uM_set {V : Str} {tv : Tok} {R : Addr} {p : Int} {tp : Tok} {mo : Option Value} {p' : Int} {tp' : Tok} {v : Value} :
    (fun y => if y = Str.ofString "pos" then some (Value.int p' tp') else if y = Str.ofString "match" then some v else uM V tv R p tp mo y) = uM V tv R p' tp' (some v) := by
  funext y
  have e1 : ¬ (Str.ofString "pos" = Str.ofString "value") := by decide
  have e2 : ¬ (Str.ofString "pos" = Str.ofString "result") := by decide
  have e3 : ¬ (Str.ofString "match" = Str.ofString "value") := by decide
  have e4 : ¬ (Str.ofString "match" = Str.ofString "result") := by decide
  have e5 : ¬ (Str.ofString "match" = Str.ofString "pos") := by decide
  by_cases h1 : y = Str.ofString "pos"
  · subst h1; simp [uM, e1, e2]
  · by_cases h2 : y = Str.ofString "match"
    · subst h2; simp [uM, e3, e4, e5]
    · simp [uM, h1, h2]
theorem strsAre_push {its : Array Value} {ys : List Str} {x : Str} {t : Tok} (h : StrsAre its.toList ys) : StrsAre (its.push (.str x t)).toList (ys ++ [x]) := by
  rw [Array.toList_push]
  generalize its.toList = l at h
  induction h with
  | nil => exact .cons _ _ .nil
  | cons y t' _ ih => exact .cons y t' ih
theorem strsAre_length {vs : List Value} {ys : List Str} (h : StrsAre vs ys) : vs.length = ys.length := by
  induction h with
  | nil => rfl
  | cons y t _ ih => simp [ih]
section
local macro_rules | `(tactic| walk_at "getMethod ref") => `(tactic| (with_reducible refine getMethod_match (IsPat.keeps (by assumption) (Fr.keep (by assumption))) ?_))
local macro_rules | `(tactic| walk_at "call builtin:re.Pattern.match") => `(tactic| (refine MATCH (IsPat.keeps (by assumption) (Fr.keep (by assumption))) (by assumption) (by assumption) (by decide) (by assumption) (by assumption) (by omega) (by omega) ?_; dsimp only))
variable {w : World} {A : Around} {s : Shared} {h₀ : Heap} {L a : Addr} {cd : Value} {q : Program} {loose : List Str} {mean : ExcName → Option Value} {mg mb : Str → Option Value}
  {V : Str} {tv tp : Tok} {p : Int} {R : Addr} {mo : Option Value} {its : Array Value} {n : Nat} {d : Nat} {W : List Nat}
theorem uni_miss {Q : Flow → Shared → Prop}
  (F : Fr h₀ L s.heap (uM V tv R p tp mo)) (X : (KX w.params).In h₀) (N : News h₀ L s.heap [(R, listOf its n)]) (T : Top q loose mean mg mb h₀)
  (hp0 : p = d) (hpn : p < V.length) (hn : V.length < 1000) (P : IsPat h₀ 184 cUni 1) (H : Win d V.cps V.cps.size true W) (hl : look true cUni 1 W = some none) (hV : V.cps.size < 1000) (hsz : its.size < 1000)
  (hQ : ∀ h' tk tp' tk', Fr h₀ L h' (uM V tv R (p + 1) tp' (some .none)) → News h₀ L h' [(R, listOf (its.push (.str (Txt.item V p) tk)) (n + 1))] → Q .next { s with heap := h', toks := tk' }) :
  wpAny (model pw w) A (execs (turnOf nU) (envOf nU (scopeOf nU) L a cd)) Q noE s := by
  repeat' walk1
  refine hQ _ _ _ _ (fr_eq (by assumption) uM_set) (by assumption)
theorem uni_test {Q : Bool → Shared → Prop}
  (F : Fr h₀ L s.heap (uM V tv R p tp mo)) (X : (KX w.params).In h₀) (T : Top q loose mean mg mb h₀) (N : News h₀ L s.heap [(R, listOf its n)]) 
  (hp0 : p = d) (hn : V.length < 1000) (hQ : ∀ tk', Q (decide (p < V.length)) { s with toks := tk' }) :
  wpAny (model pw w) A (isTrue (testOf nU) (envOf nU (scopeOf nU) L a cd) (eval (testOf nU) (envOf nU (scopeOf nU) L a cd))) Q noE s := by
  change wpAny _ _ (PySem.isTrue (Expr.Compare _ _ _ _) _ _) Q noE s
  repeat' walk1
  exact hQ _
end
def rest (V : Str) (d : Nat) : List Nat := V.cps.toList.drop d
theorem win_rest {V : Str} {d : Nat} (h : d ≤ V.cps.size) : Win d V.cps V.cps.size true (rest V d) := by
  have hl : (rest V d).length = V.cps.size - d := by unfold rest; rw [List.length_drop, Array.length_toList]
  refine ⟨fun j hj => ?_, by omega, fun _ => by omega⟩
  rw [hl] at hj
  unfold rest
  have h1 : j + d < V.cps.size := by omega
  simp only [Array.getD_eq_getD_getElem?, List.getD_eq_getElem?_getD, List.getElem?_drop]
  rw [Nat.add_comm d j, Array.getElem?_toList]
theorem uM_start {V : Str} {tv : Tok} {R : Addr} {tp : Tok} : (fun y => if y = Str.ofString "result" then some (Value.ref R) else if y = Str.ofString "pos" then some (Value.int 0 tp) else
    (((argsOf nU).args.map (·.arg)).zip [Value.str V tv]).reverse.lookup y) = uM V tv R 0 tp none := by
  have e0 : (((argsOf nU).args.map (·.arg)).zip [Value.str V tv]).reverse = [(Str.ofString "value", Value.str V tv)] := by kernel_rfl
  rw [e0]
  funext y
  have e1 : ¬ (Str.ofString "pos" = Str.ofString "value") := by decide
  have e2 : ¬ (Str.ofString "pos" = Str.ofString "result") := by decide
  have e3 : ¬ (Str.ofString "result" = Str.ofString "value") := by decide
  by_cases h1 : y = Str.ofString "pos"
  · subst h1; simp [uM, e1, e2]
  · by_cases h2 : y = Str.ofString "result"
    · subst h2; simp [uM, e3]
    · by_cases h3 : y = Str.ofString "value"
      · subst h3; simp [uM, h1, h2, List.lookup]
      · have h4 : (y == Str.ofString "value") = false := by simpa using h3
        simp [uM, h1, h2, h3, List.lookup, h4]
abbrev ar (dp un : Nat) (gd : Option (List Code)) (fr : Option (List Env)) : Around := { handled := none, depth := dp, frames := fr, guards := gd, units := un }
theorem isList_of {h₀ h : Heap} {L R : Addr} {its : Array Value} {n : Nat} {news : List (Addr × Obj)} (N : News h₀ L h ((R, listOf its n) :: news)) : h.IsList R its := ⟨_, N.get (.head _), rfl, _, rfl⟩
theorem news_tail {h₀ h : Heap} {L : Addr} {x : Addr × Obj} {news : List (Addr × Obj)} (N : News h₀ L h (x :: news)) : News h₀ L h news := fun p hp => N p (.tail _ hp)
end Mine
end

section
open PySem PySem.W PyProof.Rows PySem.Calls
set_option Elab.async false
set_option maxRecDepth 100000
set_option maxHeartbeats 4000000
set_option pp.deepTerms false
set_option pp.maxSteps 3000
namespace Mine
abbrev nS : Str := "_sub_simple_escape"
theorem def_210 {P : Params} {h : Heap} (X : (KX P).In h) : IsDef h 210 nS := isDef_of (c := 209) X rfl rfl rfl rfl rfl
abbrev sM (V : Str) (tv : Tok) (R : Addr) (p : Int) (tp : Tok) : Str → Option Value := fun y => if y = "value" then some (.str V tv) else if y = "result" then some (.ref R) else if y = "pos" then some (.int p tp) else none
theorem sM_set {V : Str} {tv : Tok} {R : Addr} {p : Int} {tp : Tok} {p' : Int} {tp' : Tok} :
    (fun y => if y = Str.ofString "pos" then some (Value.int p' tp') else sM V tv R p tp y) = sM V tv R p' tp' := by
  funext y
  have e1 : ¬ (Str.ofString "pos" = Str.ofString "value") := by decide
  have e2 : ¬ (Str.ofString "pos" = Str.ofString "result") := by decide
  by_cases h1 : y = Str.ofString "pos"
  · subst h1; simp [sM, e1, e2]
  · simp [sM, h1]
theorem sM_set2 {V : Str} {tv : Tok} {R : Addr} {p : Int} {tp : Tok} {x : Int} {t1 t2 : Tok} :
    (fun y => if y = Str.ofString "pos" then some (Value.int (p + 1 + 1) t1) else if y = Str.ofString "pos" then some (Value.int x t2) else sM V tv R p tp y) = sM V tv R (p + 2) t1 := by
  rw [show p + 2 = p + 1 + 1 by omega]
  refine Eq.trans ?_ (sM_set (p := p) (tp := tp))
  funext y
  by_cases h1 : y = Str.ofString "pos"
  · simp [h1]
  · simp [h1]
section
variable {w : World} {A : Around} {s : Shared} {h₀ : Heap} {L a : Addr} {cd : Value} {q : Program} {loose : List Str} {mean : ExcName → Option Value} {mg mb : Str → Option Value}
  {V : Str} {tv tp : Tok} {p : Int} {R : Addr} {its : Array Value} {n : Nat} {d : Nat}
theorem sim_plain {Q : Flow → Shared → Prop}
  (F : Fr h₀ L s.heap (sM V tv R p tp)) (X : (KX w.params).In h₀) (N : News h₀ L s.heap [(R, listOf its n)]) (T : Top q loose mean mg mb h₀)
  (hp0 : p = d) (hpn : p < V.length) (hn : V.length < 1000) (hne : (Txt.item V p == Str.ofString "\\") = false) (hsz : its.size < 1000)
  (hQ : ∀ h' tk tp' tk', Fr h₀ L h' (sM V tv R (p + 1) tp') → News h₀ L h' [(R, listOf (its.push (.str (Txt.item V p) tk)) (n + 1))] → Q .next { s with heap := h', toks := tk' }) :
  wpAny (model pw w) A (execs (turnOf nS) (envOf nS (scopeOf nS) L a cd)) Q noE s := by
  repeat' walk1
  refine hQ _ _ _ _ (fr_eq (by assumption) sM_set) (by assumption)
theorem sim_esc {Q : Flow → Shared → Prop}
  (F : Fr h₀ L s.heap (sM V tv R p tp)) (X : (KX w.params).In h₀) (N : News h₀ L s.heap [(R, listOf its n)]) (T : Top q loose mean mg mb h₀)
  (hp0 : p = d) (hpn : p + 1 < V.length) (hn : V.length < 1000) (hne : (Txt.item V p == Str.ofString "\\") = true) (hni : ([Str.ofString "", Str.ofString "\n"].any fun x => x == Txt.slice V (some (p + 1)) (some (p + 2))) = false) (hsz : its.size < 1000)
  (hQ : ∀ h' tk tp' tk', Fr h₀ L h' (sM V tv R (p + 2) tp') → News h₀ L h' [(R, listOf (its.push (.str (Txt.item V (p + 1)) tk)) (n + 1))] → Q .next { s with heap := h', toks := tk' }) :
  wpAny (model pw w) A (execs (turnOf nS) (envOf nS (scopeOf nS) L a cd)) Q noE s := by
  repeat' walk1
  refine hQ _ _ _ _ (fr_eq (by assumption) sM_set2) (news_tail (by assumption))
theorem sim_test {Q : Bool → Shared → Prop}
  (F : Fr h₀ L s.heap (sM V tv R p tp)) (X : (KX w.params).In h₀) (T : Top q loose mean mg mb h₀) (N : News h₀ L s.heap [(R, listOf its n)]) 
  (hp0 : p = d) (hn : V.length < 1000) (hQ : ∀ tk', Q (decide (p < V.length)) { s with toks := tk' }) :
  wpAny (model pw w) A (isTrue (testOf nS) (envOf nS (scopeOf nS) L a cd) (eval (testOf nS) (envOf nS (scopeOf nS) L a cd))) Q noE s := by
  change wpAny _ _ (PySem.isTrue (Expr.Compare _ _ _ _) _ _) Q noE s
  repeat' walk1
  exact hQ _
end

inductive SRun (V : Str) : Nat → List Str → Prop
  | stop : SRun V V.length []
  | plain {d : Nat} {out : List Str} : d < V.length → (Txt.item V d == Str.ofString "\\") = false → SRun V (d + 1) out → SRun V d (Txt.item V d :: out)
  | esc {d : Nat} {out : List Str} : d + 1 < V.length → (Txt.item V d == Str.ofString "\\") = true → ([Str.ofString "", Str.ofString "\n"].any fun x => x == Txt.slice V (some ((d : Int) + 1)) (some ((d : Int) + 2))) = false →
      SRun V (d + 2) out → SRun V d (Txt.item V ((d : Int) + 1) :: out)
section
variable {w : World} {A : Around} {h₀ : Heap} {L a : Addr} {cd : Value} {q : Program} {loose : List Str} {mean : ExcName → Option Value} {mg mb : Str → Option Value}
  {V : Str} {tv : Tok} {R : Addr} 
theorem sim_loop {Q : Flow → Shared → Prop} (X : (KX w.params).In h₀) (T : Top q loose mean mg mb h₀) (hn : V.length < 1000) {d : Nat} {out : List Str} (U : SRun V d out) :
  ∀ (s : Shared) (p : Int) (tp : Tok) (its : Array Value) (n : Nat) (pre : List Str), p = d → Fr h₀ L s.heap (sM V tv R p tp) → News h₀ L s.heap [(R, listOf its n)] → StrsAre its.toList pre → pre.length + out.length ≤ 500 →
    (∀ h' p' tp' tk' its' n', Fr h₀ L h' (sM V tv R p' tp') → News h₀ L h' [(R, listOf its' n')] → StrsAre its'.toList (pre ++ out) → Q .next { s with heap := h', toks := tk' }) →
    WhlRest pw w A noE (envOf nS (scopeOf nS) L a cd) (testOf nS) (turnOf nS) [] Q 0 s := by
  induction U with
  | stop =>
    intro s p tp its n pre hp F N hs hlen hQ
    refine whl_turn (k := 0) (PassesOwn.never) (sim_test F X T N hp hn fun tk' => ?_)
    refine WhlIf.no (by rw [hp]; simp) (wpAny_pure ?_)
    exact hQ _ _ _ _ _ _ F N (by rw [List.append_nil]; exact hs)
  | @plain d out hd hl _ ih =>
    intro s p tp its n pre hp F N hs hlen hQ
    refine whl_turn (k := 0) (PassesOwn.never) (sim_test F X T N hp hn fun tk' => ?_)
    have hsz : its.size = pre.length := by rw [← strsAre_length hs, Array.length_toList]
    subst hp
    refine WhlIf.yes (by simp; exact hd) (sim_plain (s := { s with toks := tk' }) (its := its) (n := n) F X N T rfl (by omega) hn hl (by simp at hlen; omega) fun h' tk tp' tk' F' N' => ?_)
    exact ih _ _ _ _ _ (pre ++ [Txt.item V d]) (by omega) F' N' (strsAre_push hs) (by simp at hlen ⊢; omega) fun h'' p' tp'' tk'' its' n' F'' N'' hs' => hQ _ _ _ _ _ _ F'' N'' (by rw [List.append_assoc] at hs'; exact hs')
  | @esc d out hd hl hni _ ih =>
    intro s p tp its n pre hp F N hs hlen hQ
    refine whl_turn (k := 0) (PassesOwn.never) (sim_test F X T N hp hn fun tk' => ?_)
    have hsz : its.size = pre.length := by rw [← strsAre_length hs, Array.length_toList]
    subst hp
    refine WhlIf.yes (by simp; omega) (sim_esc (s := { s with toks := tk' }) (its := its) (n := n) F X N T rfl (by omega) hn hl hni (by simp at hlen; omega) fun h' tk tp' tk' F' N' => ?_)
    exact ih _ _ _ _ _ (pre ++ [Txt.item V ((d : Int) + 1)]) (by omega) F' N' (strsAre_push hs) (by simp at hlen ⊢; omega) fun h'' p' tp'' tk'' its' n' F'' N'' hs' => hQ _ _ _ _ _ _ F'' N'' (by rw [List.append_assoc] at hs'; exact hs')
end
theorem sM_start {V : Str} {tv : Tok} {R : Addr} {tp : Tok} : (fun y => if y = Str.ofString "result" then some (Value.ref R) else if y = Str.ofString "pos" then some (Value.int 0 tp) else
    (((argsOf nS).args.map (·.arg)).zip [Value.str V tv]).reverse.lookup y) = sM V tv R 0 tp := by
  have e0 : (((argsOf nS).args.map (·.arg)).zip [Value.str V tv]).reverse = [(Str.ofString "value", Value.str V tv)] := by kernel_rfl
  rw [e0]
  funext y
  have e1 : ¬ (Str.ofString "pos" = Str.ofString "value") := by decide
  have e2 : ¬ (Str.ofString "pos" = Str.ofString "result") := by decide
  have e3 : ¬ (Str.ofString "result" = Str.ofString "value") := by decide
  by_cases h1 : y = Str.ofString "pos"
  · subst h1; simp [sM, e1, e2]
  · by_cases h2 : y = Str.ofString "result"
    · subst h2; simp [sM, e3]
    · by_cases h3 : y = Str.ofString "value"
      · subst h3; simp [sM, h1, h2, List.lookup]
      · have h4 : (y == Str.ofString "value") = false := by simpa using h3
        simp [sM, h1, h2, h3, List.lookup, h4]
section
variable {w : World} {dp un : Nat} {gd : Option (List Code)} {fr : Option (List Env)} {q : Program} {loose : List Str} {mean : ExcName → Option Value} {mg mb : Str → Option Value} {s : Shared} {V : Str} {tv : Tok} {out : List Str}
theorem sim_call {Q : Value → Shared → Prop} (hroom : dp < 900) (X : (KX w.params).In s.heap) (T : Top q loose mean mg mb s.heap) (U : SRun V 0 out) (hn : V.length < 1000) (ho : out.length ≤ 500) (hw : (out.map (·.length)).sum + out.length ≤ 1048576)
    (hQ : ∀ h' t tk', (∀ b o, s.heap.get? b = some o → h'.get? b = some o) → Q (.str (Txt.join "" out) t) { s with heap := h', toks := tk' }) :
    wpAny (model pw w) (ar dp un gd fr) (call (.ref 210) [.str V tv]) Q noE s := by
  obtain ⟨o, pm, cd, doc, h1, h2, h3⟩ := (def_210 X).at_
  refine wpAny_call (call_pos_ret (Nat.lt_trans hroom (by decide)) h1 h2 T.nolimit h3 rfl (locs rfl) (fun h₁ F => ?_) rfl rfl rfl (by decide))
  have N : News s.heap s.heap.objs.size h₁ [] := News.nil
  iterate 21 walk1
  refine whl_start 0 (sim_loop X T hn U _ _ _ _ _ [] rfl (fr_eq (by assumption) sM_start) (news_tail (by assumption)) .nil (by simpa using ho) ?_)
  intro h' p' tp' tk' its' n' F' N' hs'
  try dsimp only
  repeat' walk1
  refine join_listW (isList_of N') (by simpa using hs') (by decide) hw fun t k => ?_
  exact hQ _ _ _ F'.keep
end
end Mine
end

section
open PySem PySem.W PyProof.Rows PySem.Calls PySem.W.X
set_option Elab.async false
set_option maxRecDepth 100000
set_option maxHeartbeats 4000000
set_option pp.deepTerms false
set_option pp.maxSteps 3000
namespace Mine
theorem Mem.keeps' {h₀ h : Heap} {news : List (Addr × Obj)} (D : Mem h₀ h [] news) : ∀ b o, h₀.get? b = some o → h.get? b = some o := fun b o e => D.keep b o e (by simp [away])
theorem end_str {Q : Value → Shared → Prop} {x y : Str} {t : Tok} {s : Shared} (e : x = y) (h : Q (.str y t) s) : Q (.str x t) s := e ▸ h
local macro_rules | `(tactic| x_close) => `(tactic| (refine end_str (y := "A") (by kernel_rfl) ?_; apply_assumption; exact Mem.keeps' (by assumption)))
theorem rep_call {w : World} {dp un : Nat} {gd : Option (List Code)} {fr : Option (List Env)} {Q E : Value → Shared → Prop} {h : Heap} {g : Array GenState} {d : Drawn} {t : Nat} {os : OsState} {t1 : Tok} {pat pos lim li : Value} {A₁ A₂ : Addr}
  (X : (KX w.params).In h) (hm : h.get? A₂ = some ⟨.type "re.Match", none, .fields #[.str "e\\41 f" t1, pat, pos, lim, li, .ref A₁], #[]⟩)
  (ht : h.get? A₁ = some ⟨.type "tuple", none, .seq #[rawInt 1, rawInt 5, rawInt 2, rawInt 4] 0, #[]⟩) 
  (hQ : ∀ h' t' tk', (∀ b o, h.get? b = some o → h'.get? b = some o) → Q (.str "A" t') ⟨h', g, d, tk', os⟩) :
  wpAny (model pw w) { handled := none, depth := 400, frames := fr, guards := gd, units := 100 } (PySem.call (.ref 196) [.ref A₂]) Q E ⟨h, g, d, t, os⟩ := by
  x_run
end Mine
end

section
open PySem PySem.W PyProof.Rows PySem.Calls PySem.Builtin.Re
set_option Elab.async false
set_option maxRecDepth 100000
set_option maxHeartbeats 4000000
set_option pp.deepTerms false
set_option pp.maxSteps 3000
namespace Mine
open Sre (M)
abbrev eV : Str := "e\\41 f"
theorem ar_mono {α : Type} {M : Model} {dp un dp' un' : Nat} {gd : Option (List Code)} {fr : Option (List Env)} {t : Sem α} {Q : α → Shared → Prop} {E : Value → Shared → Prop} {s : Shared} (hd : dp ≤ dp') (hu : un ≤ un')
    (h : wpAny M (ar dp' un' gd fr) t Q E s) : wpAny M (ar dp un gd fr) t Q E s := fun Γ p hΓ => h Γ p ⟨hΓ.1, Nat.le_trans hΓ.2.1 hd, hΓ.2.2.1, hΓ.2.2.2.1, Nat.le_trans hΓ.2.2.2.2 hu⟩
section
variable {w : World} {A : Around} {s : Shared} {h₀ : Heap} {L a : Addr} {q : Program} {loose : List Str} {mean : ExcName → Option Value} {mg mb : Str → Option Value} {m : Str → Option Value} {news : List (Addr × Obj)}
  {tv tp : Tok}
theorem match_hit {E Q : Value → Shared → Prop} (P : IsPat s.heap 184 cUni 1) (F : Fr h₀ L s.heap m) (N : News h₀ L s.heap news)
    (hq : ∀ h' A₂ A₁ pos lim li, AllLt A₁ news → A₁ < A₂ → AllLt A₂ news → Fr h₀ L h' m → News h₀ L h' ((A₂, matO (.str eV tv) (.ref 184) pos lim li A₁) :: (A₁, tupO [rawInt (1 : Nat), rawInt (5 : Nat), rawInt 2, rawInt 4]) :: news) → Q (.ref A₂) { s with heap := h' }) :
    wpAny (model pw w) A (call (.builtin "re.Pattern.match") [.ref 184, .str eV tv, .int 1 tp]) Q E s := by
  refine call_match (k := 99) (p := 1) P (by decide) (by decide) (.inr ⟨_, rfl, by kernel_rfl, by kernel_rfl, by rw [spansOf_length]; decide, ?_⟩)
  have e1 : (rawInt ((m0 cUni eV 1 1).runFor (4 * (99 + 1))).start :: rawInt ((m0 cUni eV 1 1).runFor (4 * (99 + 1))).handed :: spansOf 1 ((m0 cUni eV 1 1).runFor (4 * (99 + 1)))) = [rawInt (1 : Nat), rawInt (5 : Nat), rawInt 2, rawInt 4] := by kernel_rfl
  rw [e1]
  have F1 := F.push (tupO [rawInt (1 : Nat), rawInt (5 : Nat), rawInt 2, rawInt 4])
  have N1 := News.push F N (tupO [rawInt (1 : Nat), rawInt (5 : Nat), rawInt 2, rawInt 4])
  have F2 := F1.push (matO (.str eV tv) (.ref 184) (min 1 eV.cps.size) (min (2 ^ 63 - 1) eV.cps.size) ((m0 cUni eV 1 1).runFor (4 * (99 + 1))).lastindex s.heap.objs.size)
  have N2 := News.push F1 N1 (matO (.str eV tv) (.ref 184) (min 1 eV.cps.size) (min (2 ^ 63 - 1) eV.cps.size) ((m0 cUni eV 1 1).runFor (4 * (99 + 1))).lastindex s.heap.objs.size)
  have z := hq _ _ _ _ _ _ (allLt_news N (Nat.le_refl _)) (by rw [Heap.size_push]; exact Nat.lt_succ_self _) (allLt_news N (by rw [Heap.size_push]; exact Nat.le_succ _)) F2 N2
  rw [Heap.size_push] at z
  exact z
end
theorem ref_use {s : Shared} {h₀ : Heap} {L : Addr} {news : List (Addr × Obj)} {t1 : Tok} {pat : Value} {pos lim : Nat} {li : Int} {A₁ A₂ : Addr} {S : Str} {b e : Nat} {sp : List Value} (N : News h₀ L s.heap ((A₂, matO (.str S t1) pat pos lim li A₁) :: (A₁, tupO (rawInt b :: rawInt e :: sp)) :: news)) :
    IsMat s.heap A₂ S b e sp := isMat_of N (.head _) (.tail _ (.head _))
section
variable {w : World} {dp un : Nat} {gd : Option (List Code)} {fr : Option (List Env)} {s : Shared} {h₀ : Heap} {L a : Addr} {cd : Value} {q : Program} {loose : List Str} {mean : ExcName → Option Value} {mg mb : Str → Option Value}
  {tv tp : Tok} {R : Addr} {mo : Option Value} {its : Array Value} {n : Nat} 
theorem rep_use {E Q : Value → Shared → Prop} {m : Str → Option Value} {news : List (Addr × Obj)} {t1 : Tok} {pat : Value} {pos lim : Nat} {li : Int} {A₁ A₂ : Addr} (hd : dp ≤ 400) (hu : un ≤ 100) (X : (KX w.params).In h₀) (F : Fr h₀ L s.heap m)
    (N : News h₀ L s.heap ((A₂, matO (.str eV t1) pat pos lim li A₁) :: (A₁, tupO [rawInt (1 : Nat), rawInt (5 : Nat), rawInt 2, rawInt 4]) :: news))
    (hQ : ∀ h' t' tk', Fr h₀ L h' m → News h₀ L h' ((A₂, matO (.str eV t1) pat pos lim li A₁) :: (A₁, tupO [rawInt (1 : Nat), rawInt (5 : Nat), rawInt 2, rawInt 4]) :: news) → Q (.str "A" t') { s with heap := h', toks := tk' }) :
    wpAny (model pw w) (ar dp un gd fr) (call (.ref 196) [.ref A₂]) Q E s :=
  ar_mono hd hu (rep_call (dp := 0) (un := 0) (X.keeps F.keep) (N.get (.head _)) (N.get (.tail _ (.head _))) fun h' t' tk' hk => hQ h' t' tk' ⟨F.ns.keeps hk, fun b o e => hk b o (F.keep b o e), F.above⟩ fun p hp => ⟨hk _ _ (N p hp).1, (N p hp).2⟩)
local macro_rules | `(tactic| walk_at "getMethod ref") => `(tactic| (with_reducible refine getMethod_match (IsPat.keeps (by assumption) (Fr.keep (by assumption))) ?_))
local macro_rules | `(tactic| walk_at "call builtin:re.Pattern.match") => `(tactic| (refine match_hit (IsPat.keeps (by assumption) (Fr.keep (by assumption))) (by assumption) (by assumption) ?_; intro h' A₂ A₁ pos lim li l1 l2 l3 F' N'; (try simp only [AllLt, and_true] at l1 l3)))
local macro_rules | `(tactic| walk_at "getMethod ref") => `(tactic| (with_reducible refine getMethod_end (ref_use (by assumption)) ?_))
local macro_rules | `(tactic| walk_at "call builtin:re.Match.end") => `(tactic| (refine call_end (ref_use (by assumption)) ?_))
local macro_rules | `(tactic| walk_at "truthy ref") => `(tactic| (refine truthy_mat (ref_use (by assumption)) ?_))
local macro_rules | `(tactic| walk_at "call ref") => `(tactic| (refine rep_use (by assumption) (by assumption) (by assumption) (by assumption) (by assumption) ?_; intro h' t' tk' F' N'))
theorem uni_hit {Q : Flow → Shared → Prop}
  (F : Fr h₀ L s.heap (uM eV tv R 1 tp mo)) (X : (KX w.params).In h₀) (N : News h₀ L s.heap [(R, listOf its n)]) (T : Top q loose mean mg mb h₀) (P : IsPat h₀ 184 cUni 1) (hd : dp ≤ 400) (hu : un ≤ 100) (hsz : its.size < 1000)
  (hQ : ∀ h' tk tp' tk' mo', Fr h₀ L h' (uM eV tv R 5 tp' mo') → News h₀ L h' [(R, listOf (its.push (.str "A" tk)) (n + 1))] → Q .next { s with heap := h', toks := tk' }) :
  wpAny (model pw w) (ar dp un gd fr) (execs (turnOf nU) (envOf nU (scopeOf nU) L a cd)) Q noE s := by
  repeat' walk1
  refine hQ _ _ _ _ _ (fr_eq (by assumption) uM_set) (news_tail (news_tail (by assumption)))
end
inductive URun (V : Str) : Nat → List Str → Prop
  | stop : URun V V.length []
  | hit {out : List Str} : V = eV → URun V 5 out → URun V 1 ("A" :: out)
  | miss {d : Nat} {out : List Str} : d < V.length → look true cUni 1 (rest V d) = some none → URun V (d + 1) out → URun V d (Txt.item V d :: out)
section
variable {w : World} {dp un : Nat} {gd : Option (List Code)} {fr : Option (List Env)} {h₀ : Heap} {L a : Addr} {cd : Value} {q : Program} {loose : List Str} {mean : ExcName → Option Value} {mg mb : Str → Option Value}
  {V : Str} {tv : Tok} {R : Addr} 
theorem uni_loop {Q : Flow → Shared → Prop} (hd : dp ≤ 400) (hu : un ≤ 100) (X : (KX w.params).In h₀) (T : Top q loose mean mg mb h₀) (hn : V.length < 1000) {d : Nat} {out : List Str} (U : URun V d out) :
  ∀ (s : Shared) (p : Int) (tp : Tok) (mo : Option Value) (its : Array Value) (n : Nat) (pre : List Str), p = d → Fr h₀ L s.heap (uM V tv R p tp mo) → News h₀ L s.heap [(R, listOf its n)] → StrsAre its.toList pre → pre.length + out.length ≤ 500 →
    (∀ h' p' tp' tk' mo' its' n', Fr h₀ L h' (uM V tv R p' tp' mo') → News h₀ L h' [(R, listOf its' n')] → StrsAre its'.toList (pre ++ out) → Q .next { s with heap := h', toks := tk' }) →
    WhlRest pw w (ar dp un gd fr) noE (envOf nU (scopeOf nU) L a cd) (testOf nU) (turnOf nU) [] Q 0 s := by
  induction U with
  | stop =>
    intro s p tp mo its n pre hp F N hs hlen hQ
    refine whl_turn (k := 0) (PassesOwn.never) (uni_test F X T N hp hn fun tk' => ?_)
    refine WhlIf.no (by rw [hp]; simp) (wpAny_pure ?_)
    exact hQ _ _ _ _ _ _ _ F N (by rw [List.append_nil]; exact hs)
  | @hit out hV _ ih =>
    intro s p tp mo its n pre hp F N hs hlen hQ
    refine whl_turn (k := 0) (PassesOwn.never) (uni_test (d := 1) F X T N hp hn fun tk' => ?_)
    have hsz : its.size = pre.length := by rw [← strsAre_length hs, Array.length_toList]
    subst hV
    subst hp
    refine WhlIf.yes (by decide) (uni_hit (s := { s with toks := tk' }) (its := its) (n := n) F X N T (pat_184 X) hd hu (by simp at hlen; omega) fun h' tk tp' tk' mo' F' N' => ?_)
    exact ih _ _ _ _ _ _ (pre ++ [Str.ofString "A"]) rfl F' N' (strsAre_push hs) (by simp at hlen ⊢; omega) fun h'' p' tp'' tk'' mo' its' n' F'' N'' hs' => hQ _ _ _ _ _ _ _ F'' N'' (by rw [List.append_assoc] at hs'; exact hs')
  | @miss d out hd' hl _ ih =>
    intro s p tp mo its n pre hp F N hs hlen hQ
    refine whl_turn (k := 0) (PassesOwn.never) (uni_test F X T N hp hn fun tk' => ?_)
    have hsz : its.size = pre.length := by rw [← strsAre_length hs, Array.length_toList]
    refine WhlIf.yes (by rw [hp]; simp; exact hd') (uni_miss (s := { s with toks := tk' }) (its := its) (n := n) F X N T hp (by omega) hn (pat_184 X) (win_rest (Nat.le_of_lt hd')) hl hn (by simp at hlen; omega) fun h' tk tp' tk' F' N' => ?_)
    subst hp
    exact ih _ _ _ _ _ _ (pre ++ [Txt.item V d]) (by omega) F' N' (strsAre_push hs) (by simp at hlen ⊢; omega) fun h'' p' tp'' tk'' mo' its' n' F'' N'' hs' => hQ _ _ _ _ _ _ _ F'' N'' (by rw [List.append_assoc] at hs'; exact hs')
end

section
variable {w : World} {dp un : Nat} {gd : Option (List Code)} {fr : Option (List Env)} {q : Program} {loose : List Str} {mean : ExcName → Option Value} {mg mb : Str → Option Value} {s : Shared} {V : Str} {tv : Tok} {out : List Str}
theorem uni_call {Q : Value → Shared → Prop} (hroom : dp ≤ 390) (hu : un ≤ 90) (X : (KX w.params).In s.heap) (T : Top q loose mean mg mb s.heap) (U : URun V 0 out) (hn : V.length < 1000) (ho : out.length ≤ 500) (hw : (out.map (·.length)).sum + out.length ≤ 1048576)
    (hQ : ∀ h' t tk', (∀ b o, s.heap.get? b = some o → h'.get? b = some o) → Q (.str (Txt.join "" out) t) { s with heap := h', toks := tk' }) :
    wpAny (model pw w) (ar dp un gd fr) (call (.ref 203) [.str V tv]) Q noE s := by
  obtain ⟨o, pm, cd, doc, h1, h2, h3⟩ := (def_203 X).at_
  refine wpAny_call (call_pos_ret (Nat.lt_of_le_of_lt hroom (by decide)) h1 h2 T.nolimit h3 rfl (locs rfl) (fun h₁ F => ?_) rfl rfl rfl (by decide))
  have N : News s.heap s.heap.objs.size h₁ [] := News.nil
  iterate 21 walk1
  refine whl_start 0 (uni_loop (by dsimp only; omega) (by dsimp only; omega) X T hn U _ _ _ _ _ _ [] rfl (fr_eq (by assumption) uM_start) (news_tail (by assumption)) .nil (by simpa using ho) ?_)
  intro h' p' tp' tk' mo' its' n' F' N' hs'
  try dsimp only
  repeat' walk1
  refine join_listW (isList_of N') (by simpa using hs') (by decide) hw fun t k => ?_
  exact hQ _ _ _ F'.keep
end
end Mine
end

section
open PySem PySem.W PyProof.Rows PySem.Calls PySem.Builtin.Re
set_option Elab.async false
set_option maxRecDepth 100000
set_option maxHeartbeats 4000000
set_option pp.deepTerms false
set_option pp.maxSteps 3000
namespace Mine
abbrev nI : Str := "unescape_ident"
theorem def_217 {P : Params} {h : Heap} (X : (KX P).In h) : IsDef h 217 nI := isDef_of (c := 216) X rfl rfl rfl rfl rfl
structure Unesc (V r : Str) : Prop where
  at_ : ∃ o1 V1 o2, URun V 0 o1 ∧ Txt.join "" o1 = V1 ∧ SRun V1 0 o2 ∧ Txt.join "" o2 = r ∧ V.length < 1000 ∧ V1.length < 1000 ∧ (o1.length ≤ 500 ∧ o2.length ≤ 500) ∧ (o1.map (·.length)).sum + o1.length ≤ 1048576 ∧ (o2.map (·.length)).sum + o2.length ≤ 1048576
section
variable {w : World} {dp un : Nat} {gd : Option (List Code)} {fr : Option (List Env)} {q : Program} {loose : List Str} {mean : ExcName → Option Value} {mg mb : Str → Option Value} {s : Shared} {V r : Str} {tv : Tok}
theorem uni_use {Q E : Value → Shared → Prop} {h₀ : Heap} {L : Addr} {m : Str → Option Value} {news : List (Addr × Obj)} {out : List Str} (hd : dp ≤ 390) (hu : un ≤ 90) (X : (KX w.params).In h₀) (T : Top q loose mean mg mb h₀) (F : Fr h₀ L s.heap m) (N : News h₀ L s.heap news)
    (U : URun V 0 out) (hn : V.length < 1000) (ho : out.length ≤ 500) (hw : (out.map (·.length)).sum + out.length ≤ 1048576)
    (hQ : ∀ h' t' tk', Fr h₀ L h' m → News h₀ L h' news → Q (.str (Txt.join "" out) t') { s with heap := h', toks := tk' }) :
    wpAny (model pw w) (ar dp un gd fr) (call (.ref 203) [.str V tv]) Q E s :=
  wpAny_mono (uni_call hd hu (X.keeps F.keep) (T.keeps F.keep) U hn ho hw fun h' t' tk' hk => hQ h' t' tk' ⟨F.ns.keeps hk, fun b o e => hk b o (F.keep b o e), F.above⟩ fun p hp => ⟨hk _ _ (N p hp).1, (N p hp).2⟩) (fun _ _ x => x) fun _ _ x => x.elim
theorem sim_use {Q E : Value → Shared → Prop} {h₀ : Heap} {L : Addr} {m : Str → Option Value} {news : List (Addr × Obj)} {out : List Str} (hd : dp ≤ 390) (_hu : un ≤ 90) (X : (KX w.params).In h₀) (T : Top q loose mean mg mb h₀) (F : Fr h₀ L s.heap m) (N : News h₀ L s.heap news)
    (U : SRun V 0 out) (hn : V.length < 1000) (ho : out.length ≤ 500) (hw : (out.map (·.length)).sum + out.length ≤ 1048576)
    (hQ : ∀ h' t' tk', Fr h₀ L h' m → News h₀ L h' news → Q (.str (Txt.join "" out) t') { s with heap := h', toks := tk' }) :
    wpAny (model pw w) (ar dp un gd fr) (call (.ref 210) [.str V tv]) Q E s :=
  wpAny_mono (sim_call (Nat.lt_of_le_of_lt hd (by decide)) (X.keeps F.keep) (T.keeps F.keep) U hn ho hw fun h' t' tk' hk => hQ h' t' tk' ⟨F.ns.keeps hk, fun b o e => hk b o (F.keep b o e), F.above⟩ fun p hp => ⟨hk _ _ (N p hp).1, (N p hp).2⟩) (fun _ _ x => x) fun _ _ x => x.elim
local macro_rules | `(tactic| walk_at "call ref") => `(tactic| (first
  | (refine uni_use (by dsimp only; omega) (by dsimp only; omega) (by assumption) (by assumption) (by assumption) (by assumption) (by assumption) (by assumption) (by assumption) (by assumption) ?_; intro h' t' tk' F' N')
  | (refine sim_use (by dsimp only; omega) (by dsimp only; omega) (by assumption) (by assumption) (by assumption) (by assumption) (by assumption) (by assumption) (by assumption) (by assumption) ?_; intro h' t' tk' F' N')))
theorem unesc_call {Q : Value → Shared → Prop} (hroom : dp ≤ 380) (hu : un ≤ 80) (X : (KX w.params).In s.heap) (T : Top q loose mean mg mb s.heap) (U : Unesc V r)
    (hQ : ∀ h' t tk', (∀ b o, s.heap.get? b = some o → h'.get? b = some o) → Q (.str r t) { s with heap := h', toks := tk' }) :
    wpAny (model pw w) (ar dp un gd fr) (call (.ref 217) [.str V tv]) Q noE s := by
  obtain ⟨o1, V1, o2, U1, rfl, U2, rfl, n1, n2, ⟨l1, l2⟩, w1, w2⟩ := U.at_
  obtain ⟨o, pm, cd, doc, h1, h2, h3⟩ := (def_217 X).at_
  refine wpAny_call (call_pos_ret (Nat.lt_of_le_of_lt hroom (by decide)) h1 h2 T.nolimit h3 rfl (locs rfl) (fun h₁ F => ?_) rfl rfl rfl (by decide))
  have N : News s.heap s.heap.objs.size h₁ [] := News.nil
  have F := fr_eq F (m' := fun y => if y = "value" then some (.str V tv) else none) (by
    have e0 : (((argsOf nI).args.map (·.arg)).zip [Value.str V tv]).reverse = [(Str.ofString "value", Value.str V tv)] := by kernel_rfl
    rw [e0]
    funext y
    by_cases h3 : y = Str.ofString "value"
    · subst h3; simp [List.lookup]
    · have h4 : (y == Str.ofString "value") = false := by simpa using h3
      simp [h3, List.lookup, h4])
  repeat' walk1
  exact hQ _ _ _ (Fr.keep (by assumption))
end
end Mine
end

section
open PySem PySem.W PyProof.Rows PySem.Calls PySem.W.X
set_option Elab.async false
set_option maxRecDepth 100000
set_option maxHeartbeats 4000000
set_option pp.deepTerms false
set_option pp.maxSteps 3000
namespace Mine
structure TokAt (h : Heap) (a : Addr) (C : Addr) (k : Str) (v : Value) (p : Int) : Prop where
  at_ : ∃ D t1 n sl hs tk t3 m sl2, h.get? a = some ⟨.ref C, some D, .seq #[.str k t1, v] n, sl⟩ ∧ h.get? D = some ⟨.type "dict", none, .dict #[⟨hs, .str "pos" tk, .int p t3⟩] m, sl2⟩
theorem TokAt.keeps {h h' : Heap} {a C : Addr} {k : Str} {v : Value} {p : Int} (x : TokAt h a C k v p) (hk : ∀ b o, h.get? b = some o → h'.get? b = some o) : TokAt h' a C k v p := by
  obtain ⟨D, t1, n, sl, hs, tk, t3, m, sl2, h1, h2⟩ := x.at_
  exact ⟨D, t1, n, sl, hs, tk, t3, m, sl2, hk _ _ h1, hk _ _ h2⟩
theorem tok_end {Q : Value → Shared → Prop} {h h' : Heap} {a b C : Addr} {oa ob : Obj} {news : List (Addr × Obj)} {g : Array GenState} {d : Drawn} {tk' : Nat} {os : OsState} {k : Str} {v : Value} {p : Int} {t1 tk t3 : Tok} {n m : Nat} {sl sl2 : Array (Option Value)} {hs : Int}
    (D : Mem h h' [] ((a, oa) :: (b, ob) :: news)) (ea : oa = ⟨.ref C, some b, .seq #[.str k t1, v] n, sl⟩) (eb : ob = ⟨.type "dict", none, .dict #[⟨hs, .str "pos" tk, .int p t3⟩] m, sl2⟩)
    (hQ : ∀ a h' tk', (∀ b o, h.get? b = some o → h'.get? b = some o) → TokAt h' a C k v p → Q (.ref a) ⟨h', g, d, tk', os⟩) : Q (.ref a) ⟨h', g, d, tk', os⟩ := by
  subst ea eb
  exact hQ _ _ _ (Mine.Mem.keeps' D) ⟨_, _, _, _, _, _, _, _, _, D.at 0 _ _ rfl, D.at 1 _ _ rfl⟩
local macro_rules | `(tactic| x_close) => `(tactic| (refine tok_end (by assumption) rfl rfl ?_; assumption))
theorem tok_call {w : World} {gd : Option (List Code)} {fr : Option (List Env)} {Q E : Value → Shared → Prop} {h : Heap} {g : Array GenState} {d : Drawn} {t : Nat} {os : OsState} {k : Str} {t1 t3 : Tok} {v : Value} {p : Int}
  (X : (KX w.params).In h) (hQ : ∀ a h' tk', (∀ b o, h.get? b = some o → h'.get? b = some o) → TokAt h' a 127 k v p → Q (.ref a) ⟨h', g, d, tk', os⟩) :
  wpAny (model pw w) { handled := none, depth := 400, frames := fr, guards := gd, units := 100 } (PySem.call (.ref 127) [.str k t1, v, .int p t3]) Q E ⟨h, g, d, t, os⟩ := by
  x_run
theorem eof_call {w : World} {gd : Option (List Code)} {fr : Option (List Env)} {Q E : Value → Shared → Prop} {h : Heap} {g : Array GenState} {d : Drawn} {t : Nat} {os : OsState} {t3 : Tok} {p : Int}
  (X : (KX w.params).In h) (hQ : ∀ a h' tk', (∀ b o, h.get? b = some o → h'.get? b = some o) → TokAt h' a 155 "EOF" .none p → Q (.ref a) ⟨h', g, d, tk', os⟩) :
  wpAny (model pw w) { handled := none, depth := 400, frames := fr, guards := gd, units := 100 } (PySem.call (.ref 155) [.int p t3]) Q E ⟨h, g, d, t, os⟩ := by
  x_run
end Mine
end

section
open PySem PySem.W PyProof.Rows PySem.Calls PySem.W.X
set_option Elab.async false
set_option maxRecDepth 100000
set_option maxHeartbeats 4000000
namespace Mine
theorem ga_127 (P : Params) : findIn (KX P) (.ref 127) "__getattribute__" = some (some (.builtin "tuple.__getattribute__")) := by kernel_rfl
theorem gh_127 (P : Params) : findIn (KX P) (.ref 127) "__getattr__" = some none := by kernel_rfl
theorem ga_155 (P : Params) : findIn (KX P) (.ref 155) "__getattribute__" = some (some (.builtin "tuple.__getattribute__")) := by kernel_rfl
theorem gh_155 (P : Params) : findIn (KX P) (.ref 155) "__getattr__" = some none := by kernel_rfl
theorem type_tga : typeOf (.builtin "tuple.__getattribute__") = pure (.type "wrapper_descriptor") := by show builtinType _ = _; rw [builtinType_eq_fast]; kernel_rfl
section
variable {w : World} {A : Around} {E : Value → Shared → Prop} {s : Shared} {Q : Value → Shared → Prop}
theorem getAttr_tok {a C : Addr} {o : Obj} {name : Str} (X : (KX w.params).In s.heap) (ho : s.heap.get? a = some o) (hc : o.cls = .ref C)
    (g1 : findIn (KX w.params) (.ref C) "__getattribute__" = some (some (.builtin "tuple.__getattribute__"))) (g2 : findIn (KX w.params) (.ref C) "__getattr__" = some none)
    (h : wpAny (model pw w) A (call (.builtin "tuple.__getattribute__") [.ref a, .str name s.toks]) (fun v s' => (∀ id, v ≠ .builtin id) ∧ Q v s') (fun _ _ => False) { s with toks := s.toks + 1 }) :
    wpAny (model pw w) A (getAttr (.ref a) name true) Q E s := by
  unfold getAttr
  refine wpAny_bind (wpAny_mkText ?_)
  unfold getAttrBy
  refine wpAny_holding (wpAny_bind (m := typeOf (.ref a)) ?_)
  simp only [typeOf]
  refine wpAny_bind (wpAny_load ho (wpAny_pure ?_))
  rw [hc]
  refine wpAny_bind ?_
  refine looks_findIn (M := model pw w) X g1 A _ _ { s with toks := s.toks + 1 } (fun _ _ e => e) ?_
  dsimp only
  rw [if_neg (by simp [onTheHeap])]
  unfold getAttrByItsOwn hookBefore
  rw [if_pos (by rfl)]
  refine wpAny_bind (looks_findIn (M := model pw w) X g2 A _ _ { s with toks := s.toks + 1 } (fun _ _ e => e) ?_)
  unfold callGetattribute
  rw [if_neg (by simp [onTheHeap])]
  unfold boundAndCalled
  refine wpAny_bind (wpAny_attempt (wpAny_holding (wpAny_bind ?_)))
  refine wpAny_of_eq (a := (.builtin "tuple.__getattribute__", [.ref a])) ?_ ?_
  · unfold bindSpecial
    rw [type_tga]
    rfl
  · refine wpAny_mono h (fun v s' hv => ?_) fun _ _ x => x.elim
    cases v with
    | builtin id => exact absurd rfl (hv.1 id)
    | _ => exact wpAny_pure hv.2
end
end Mine
end

section
open PySem PySem.W PyProof.Rows PySem.Calls PySem.W.X
set_option Elab.async false
set_option maxRecDepth 100000
set_option maxHeartbeats 4000000
namespace Mine
theorem mro_127 (P : Params) : mroIn (KX P) 127 (.type "tuple") = some true := by kernel_rfl
theorem mro_155 (P : Params) : mroIn (KX P) 155 (.type "tuple") = some true := by kernel_rfl
section
variable {w : World} {A : Around} {E : Value → Shared → Prop} {s : Shared}
theorem isInst_tok {a C : Addr} {o : Obj} {Q : Bool → Shared → Prop} (X : (KX w.params).In s.heap) (ho : s.heap.get? a = some o) (hc : o.cls = .ref C) (hm : mroIn (KX w.params) C (.type "tuple") = some true) (h : Q true s) :
    wpAny (model pw w) A (isInstance (.ref a) (.type "tuple")) Q E s := by
  have T : Looks (model pw w) s.heap (typeOf (.ref a)) (.ref C) := by rw [← hc]; exact (Looks.ld ho).andThen .now
  have Z : Looks (model pw w) s.heap (isInstance (.ref a) (.type "tuple")) true := T.andThen (looks_mroIn X hm)
  exact Z.here h
theorem check_tok {a C : Addr} {o : Obj} {id n : String} {rest : List Value} {Q : Unit → Shared → Prop} (X : (KX w.params).In s.heap) (ho : s.heap.get? a = some o) (hc : o.cls = .ref C) (hm : mroIn (KX w.params) C (.type "tuple") = some true)
    (hsplit : splitId id = some ("tuple", n)) (hkind : (Manifest.find? "tuple").bind (·.attrs.lookup n) = some .slot ∨ (Manifest.find? "tuple").bind (·.attrs.lookup n) = some .method) (ha : argsOk id ⟨.ref a :: rest, []⟩) (h : Q () s) :
    wpAny (model pw w) A (checkBuiltinCall id ⟨.ref a :: rest, []⟩) Q E s := by
  have hk : builtinKind id = (Manifest.find? "tuple").bind (·.attrs.lookup n) := by simp only [builtinKind, hsplit]
  rcases hkind with h1 | h1 <;>
  · simp only [checkBuiltinCall, hk, h1, hsplit]
    refine wpAny_bind (isInst_tok X ho hc hm ?_)
    simp only [Bool.not_true, Bool.false_eq_true, if_false]
    cases hsig : Manifest.signature? id with
    | none => exact wpAny_pure h
    | some sig =>
      simp only [argsOk, hsig] at ha
      have h2 : Bind.checkArgs id sig ⟨.ref a :: rest, []⟩ = pure () := ha
      show wpAny _ A (Bind.checkArgs id sig ⟨.ref a :: rest, []⟩) Q E s
      rw [h2]; exact wpAny_pure h
end
end Mine
end

section
open PySem PySem.W PyProof.Rows PySem.Calls PySem.W.X
set_option Elab.async false
set_option maxRecDepth 100000
set_option maxHeartbeats 4000000
namespace Mine
theorem tgi1 : splitId "tuple.__getitem__" = some ("tuple", "__getitem__") := by decide +kernel
theorem tgi2 : (Manifest.find? "tuple").bind (·.attrs.lookup "__getitem__") = some .slot := by decide +kernel
section
variable {w : World} {A : Around} {E : Value → Shared → Prop} {Q : Value → Shared → Prop} {h : Heap} {g : Array GenState} {d : Drawn} {t : Nat} {os : OsState}
theorem tok_getitem {a C : Addr} {D : Option Addr} {x y z : Value} {n : Nat} {sl : Array (Option Value)} {i : Int} {u : Tok} (X : (KX w.params).In h) (ho : h.get? a = some ⟨.ref C, D, .seq #[x, y] n, sl⟩) (hm : mroIn (KX w.params) C (.type "tuple") = some true)
    (hi : i = 0 ∧ z = x ∨ i = 1 ∧ z = y) (hq : Q z ⟨h, g, d, t, os⟩) :
    wpAny (model pw w) A (call (.builtin "tuple.__getitem__") [.ref a, .int i u]) Q E ⟨h, g, d, t, os⟩ := by
  refine wpAny_call (codeAny_call_builtin F.slot_tuple_getitem.plain F.entry_tuple_getitem ?_)
  refine @check_tok w A.in1 _ ⟨h, g, d, t, os⟩ a C _ "tuple.__getitem__" "__getitem__" [.int i u] _ X ho rfl hm tgi1 (.inl tgi2) (F.args_tuple_getitem_2 _ _) ?_
  have f1 := AutoSeq1.idx_int
  have hl := ho
  rcases hi with ⟨rfl, rfl⟩ | ⟨rfl, rfl⟩
  · have hk : seqIndex? 0 (#[z, y] : Array Value).size = some 0 := by show seqIndex? 0 2 = some 0; decide +kernel
    have hf : ¬ (decide ((0 : Int) < -2 ^ 63) || decide ((0 : Int) ≥ 2 ^ 63)) = true := by simp
    unfold Builtin.«tuple.__getitem__»
    wp_walk using wpAny_loadPart' hl
    exact hq
  · have hk : seqIndex? 1 (#[x, z] : Array Value).size = some 1 := by show seqIndex? 1 2 = some 1; decide +kernel
    have hf : ¬ (decide ((1 : Int) < -2 ^ 63) || decide ((1 : Int) ≥ 2 ^ 63)) = true := by simp
    unfold Builtin.«tuple.__getitem__»
    wp_walk using wpAny_loadPart' hl
    exact hq
end
end Mine
end

section
open PySem PySem.W PyProof.Rows PySem.Calls PySem.W.X Builtin Builtin.ObjectAttr
set_option Elab.async false
set_option maxRecDepth 100000
set_option maxHeartbeats 4000000
namespace Mine
theorem gi_127 (P : Params) : findIn (KX P) (.ref 127) "__getitem__" = some (some (.builtin "tuple.__getitem__")) := by kernel_rfl
theorem gi_155 (P : Params) : findIn (KX P) (.ref 155) "__getitem__" = some (some (.builtin "tuple.__getitem__")) := by kernel_rfl
theorem dq_127 (P : Params) : mroIn (KX P) 127 (.type "collections.deque") = some false := by kernel_rfl
theorem dq_155 (P : Params) : mroIn (KX P) 155 (.type "collections.deque") = some false := by kernel_rfl
theorem type_tgi : typeOf (.builtin "tuple.__getitem__") = pure (.type "wrapper_descriptor") := by show builtinType _ = _; rw [builtinType_eq_fast]; kernel_rfl
structure TokCls (P : Params) (C : Addr) : Prop where
  mro : mroIn (KX P) C (.type "tuple") = some true
  gi : findIn (KX P) (.ref C) "__getitem__" = some (some (.builtin "tuple.__getitem__"))
  dq : mroIn (KX P) C (.type "collections.deque") = some false
  ga : findIn (KX P) (.ref C) "__getattribute__" = some (some (.builtin "tuple.__getattribute__"))
  gh : findIn (KX P) (.ref C) "__getattr__" = some none
  cls : (clsIn (KX P) C).isSome = true
  ty : findIn (KX P) (.ref C) "type" = some (some (.ref 109))
  va : findIn (KX P) (.ref C) "value" = some (some (.ref 117))
  po : ∀ n hs tk p t3 m sl, findObj (KX P) C (some ⟨.type "dict", n, .dict #[⟨hs, .str "pos" tk, .int p t3⟩] m, sl⟩) "pos" = some (.value (.int p t3))
theorem tc_127 (P : Params) : TokCls P 127 := ⟨mro_127 P, gi_127 P, dq_127 P, ga_127 P, gh_127 P, by kernel_rfl, by kernel_rfl, by kernel_rfl, fun _ _ _ _ _ _ _ => by kernel_rfl⟩
theorem tc_155 (P : Params) : TokCls P 155 := ⟨mro_155 P, gi_155 P, dq_155 P, ga_155 P, gh_155 P, by kernel_rfl, by kernel_rfl, by kernel_rfl, fun _ _ _ _ _ _ _ => by kernel_rfl⟩
section
variable {w : World} {A : Around} {E : Value → Shared → Prop} {Q : Value → Shared → Prop} {h : Heap} {g : Array GenState} {d : Drawn} {t : Nat} {os : OsState}
theorem getItem_tok {a C : Addr} {D : Option Addr} {x y z : Value} {n : Nat} {sl : Array (Option Value)} {i : Int} {u : Tok} (X : (KX w.params).In h) (ho : h.get? a = some ⟨.ref C, D, .seq #[x, y] n, sl⟩) (c : TokCls w.params C)
    (hi : i = 0 ∧ z = x ∨ i = 1 ∧ z = y) (hq : Q z ⟨h, g, d, t, os⟩) : wpAny (model pw w) A (getItem (.ref a) (.int i u)) Q E ⟨h, g, d, t, os⟩ := by
  unfold getItem sequenceKey callSpecial? specialOf
  refine wpAny_holding (wpAny_bind (wpAny_bind (m := typeOf (.ref a)) ?_))
  refine wpAny_bind (wpAny_load ho (wpAny_pure ?_))
  dsimp only
  refine wpAny_bind (wpAny_bind ((looks_mroIn (M := model pw w) X c.dq).at ?_))
  refine wpAny_pure (wpAny_pure ?_)
  refine wpAny_bind (wpAny_bind (wpAny_bind (m := typeOf (.ref a)) ?_))
  refine wpAny_bind (wpAny_load ho (wpAny_pure ?_))
  refine (looks_findIn (M := model pw w) X c.gi).at ?_
  dsimp only
  refine wpAny_holding (wpAny_bind ?_)
  refine wpAny_of_eq (a := (.builtin "tuple.__getitem__", [.ref a])) ?_ ?_
  · unfold bindSpecial
    rw [type_tgi]
    rfl
  · refine wpAny_bind (tok_getitem X ho c.mro hi ?_)
    exact wpAny_pure (wpAny_pure hq)
end
end Mine
end

section
open PySem PySem.W PyProof.Rows PySem.Calls PySem.W.X Builtin Builtin.ObjectAttr
set_option Elab.async false
set_option maxRecDepth 100000
set_option maxHeartbeats 4000000
namespace Mine
section
variable {w : World} {A : Around} {E : Value → Shared → Prop} {h : Heap} {g : Array GenState} {d : Drawn} {t : Nat} {os : OsState} {q : Program} {loose : List Str} {mean : ExcName → Option Value} {mg mb : Str → Option Value}
theorem tail_tok {Q : Value → Shared → Prop} {value slice : Expr} {a C : Addr} {D : Option Addr} {x y z : Value} {n : Nat} {sl : Array (Option Value)} {i : Int} {u : Tok} (X : (KX w.params).In h) (ho : h.get? a = some ⟨.ref C, D, .seq #[x, y] n, sl⟩) (c : TokCls w.params C)
    (hi : i = 0 ∧ z = x ∨ i = 1 ∧ z = y) (hq : Q z ⟨h, g, d, t, os⟩)
    (hs : subscripted slice false (.ref a) (.int i u) = operate [.ref a, .int i u] (getItem (.ref a) (.int i u)) := by with_unfolding_all rfl) : wpAny (model pw w) A (subscriptTail value slice (.ref a) (.int i u)) Q E ⟨h, g, d, t, os⟩ := by
  unfold subscriptTail
  refine wpAny_bind ?_
  unfold getitemInPython specialOf
  refine wpAny_bind (wpAny_bind (m := typeOf (.ref a)) ?_)
  refine wpAny_bind (wpAny_load ho (wpAny_pure ?_))
  refine (looks_findIn (M := model pw w) X c.gi).at ?_
  refine wpAny_pure (wpAny_bind ?_)
  rw [hs]
  exact wpAny_operating (wpAny_mono (getItem_tok X ho c hi hq) (fun r s₃ h₃ => wpAny_bind (wpAny_letTemporaryGo (wpAny_pure h₃))) fun _ _ x => x)
local macro_rules | `(tactic| walk_at "subscriptTail Name Constant ref int") => `(tactic| (refine tail_tok (by assumption) (by assumption) (by assumption) (by first | exact .inl ⟨rfl, rfl⟩ | exact .inr ⟨rfl, rfl⟩) ?_))
theorem def_108 {R : Result → Shared → Prop} {a C : Addr} {D : Option Addr} {x y : Value} {n : Nat} {sl : Array (Option Value)} (hroom : A.depth < 900) (T : Top q loose mean mg mb h) (X : (KX w.params).In h) (ho : h.get? a = some ⟨.ref C, D, .seq #[x, y] n, sl⟩) (c : TokCls w.params C)
    (hq : ∀ h' tk', (∀ b o, h.get? b = some o → h'.get? b = some o) → R (.ok (.ret x)) ⟨h', g, d, tk', os⟩) : codeAny (model pw w) A (.call (.ref 108) ⟨[.ref a], []⟩) R ⟨h, g, d, t, os⟩ := by
  refine codeAny_call_def (binds := [("self", .ref a)]) (Nat.lt_trans hroom (by decide)) (X 108 _ rfl) rfl T.nolimit (codeRec_of X (by kernel_rfl)) rfl (.of_eq (by kernel_rfl)) (by decide) (by intro z hz; simp only [List.mem_singleton] at hz; subst hz; rfl) (fun h₁ hns hk => ?_)
  have F : Fr h h.objs.size h₁ (fun x => [(Str.ofString "self", Value.ref a)].reverse.lookup x) := ⟨hns, hk, Nat.le_refl _⟩
  have N : News h h.objs.size h₁ [] := News.nil
  have ho' := hk _ _ ho
  have X' : (KX w.params).In h₁ := fun b o e => hk _ _ (X b o e)
  repeat' walk1
  exact hq _ _ hk
theorem def_116 {R : Result → Shared → Prop} {a C : Addr} {D : Option Addr} {x y : Value} {n : Nat} {sl : Array (Option Value)} (hroom : A.depth < 900) (T : Top q loose mean mg mb h) (X : (KX w.params).In h) (ho : h.get? a = some ⟨.ref C, D, .seq #[x, y] n, sl⟩) (c : TokCls w.params C)
    (hq : ∀ h' tk', (∀ b o, h.get? b = some o → h'.get? b = some o) → R (.ok (.ret y)) ⟨h', g, d, tk', os⟩) : codeAny (model pw w) A (.call (.ref 116) ⟨[.ref a], []⟩) R ⟨h, g, d, t, os⟩ := by
  refine codeAny_call_def (binds := [("self", .ref a)]) (Nat.lt_trans hroom (by decide)) (X 116 _ rfl) rfl T.nolimit (codeRec_of X (by kernel_rfl)) rfl (.of_eq (by kernel_rfl)) (by decide) (by intro z hz; simp only [List.mem_singleton] at hz; subst hz; rfl) (fun h₁ hns hk => ?_)
  have F : Fr h h.objs.size h₁ (fun x => [(Str.ofString "self", Value.ref a)].reverse.lookup x) := ⟨hns, hk, Nat.le_refl _⟩
  have N : News h h.objs.size h₁ [] := News.nil
  have ho' := hk _ _ ho
  have X' : (KX w.params).In h₁ := fun b o e => hk _ _ (X b o e)
  repeat' walk1
  exact hq _ _ hk
end
end Mine
end

section
open PySem PySem.W PyProof.Rows PySem.Calls PySem.W.X Builtin Builtin.ObjectAttr
set_option Elab.async false
set_option maxRecDepth 100000
set_option maxHeartbeats 400000
namespace Mine
theorem sp_109 (P : Params) : specialIn (KX P) (.ref 109) "__get__" = some (some (.builtin "property.__get__")) := by kernel_rfl
theorem sp_117 (P : Params) : specialIn (KX P) (.ref 117) "__get__" = some (some (.builtin "property.__get__")) := by kernel_rfl
theorem ts_109 (P : Params) : takesIn (KX P) (.ref 109) = some true := by kernel_rfl
theorem ts_117 (P : Params) : takesIn (KX P) (.ref 117) = some true := by kernel_rfl
theorem rc_109 (P : Params) : recIn (KX P) 109 "property" = some [.ref 108, .none, .none, .none, .str "type" 648, .bool false] := by kernel_rfl
theorem rc_117 (P : Params) : recIn (KX P) 117 "property" = some [.ref 116, .none, .none, .none, .str "value" 656, .bool false] := by kernel_rfl
theorem tga1 : splitId "tuple.__getattribute__" = some ("tuple", "__getattribute__") := by decide +kernel
theorem tga2 : (Manifest.find? "tuple").bind (·.attrs.lookup "__getattribute__") = some .slot := by decide +kernel
section
variable {w : World} {A : Around} {E : Value → Shared → Prop} {h : Heap} {g : Array GenState} {d : Drawn} {t : Nat} {os : OsState} {q : Program} {loose : List Str} {mean : ExcName → Option Value} {mg mb : Str → Option Value}
theorem inst_tok {a C D : Addr} {x y : Value} {n : Nat} {sl : Array (Option Value)} {od : Obj} (ho : h.get? a = some ⟨.ref C, some D, .seq #[x, y] n, sl⟩) (hd : h.get? D = some od) : InstAt h a ⟨.ref C, some D, .seq #[x, y] n, sl⟩ C (some od) := ⟨ho, rfl, rfl, hd⟩
theorem tga_call {Q : Value → Shared → Prop} {a C D : Addr} {x y : Value} {n : Nat} {sl : Array (Option Value)} {od : Obj} {name : Str} {u : Tok} {r : Found} (X : (KX w.params).In h) (ho : h.get? a = some ⟨.ref C, some D, .seq #[x, y] n, sl⟩) (hd : h.get? D = some od) (c : TokCls w.params C)
    (hf : findObj (KX w.params) C (some od) name = some r)
    (hq : match r with | .value v => Q v ⟨h, g, d, t, os⟩ | .bind gg p => wpAny (model pw w) A.in1 (call gg [p, .ref a, .ref C]) Q E ⟨h, g, d, t, os⟩ | .missing => False) :
    wpAny (model pw w) A (call (.builtin "tuple.__getattribute__") [.ref a, .str name u]) Q E ⟨h, g, d, t, os⟩ := by
  have I := inst_tok ho hd
  have L0 : Looks (model pw w) h (typeOf (.ref a)) (.ref C) := I.type (M := model pw w)
  have L1 := looks_find (M := model pw w) X I hf
  refine wpAny_call ?_
  refine codeAny_call_builtin F.slot_tuple_getattribute.plain am_entry_tuple_getattribute ?_
  refine @check_tok w A.in1 _ ⟨h, g, d, t, os⟩ a C _ "tuple.__getattribute__" "__getattribute__" [.str name u] _ X ho rfl c.mro tga1 (.inl tga2) (F.args_tuple_getattribute_2 _ _) ?_
  unfold Builtin.«object.__getattribute__»
  cases r with
  | value v => 
    repeat lk
    exact hq
  | bind gg p =>
    dsimp only at hq
    repeat first | with_reducible refine wpAny_mono hq (fun v s' z => ?_) fun _ _ z => z | lk
    exact z
  | missing => exact hq.elim
theorem attr_prop {Q : Value → Shared → Prop} {a C D p f : Addr} {x y z : Value} {n : Nat} {sl : Array (Option Value)} {od : Obj} {name : Str} {rest : List Value} (X : (KX w.params).In h) (ho : h.get? a = some ⟨.ref C, some D, .seq #[x, y] n, sl⟩) (hd : h.get? D = some od) (c : TokCls w.params C)
    (h1 : findIn (KX w.params) (.ref C) name = some (some (.ref p))) (h2 : specialIn (KX w.params) (.ref p) "__get__" = some (some (.builtin "property.__get__"))) (h3 : takesIn (KX w.params) (.ref p) = some true) (h4 : recIn (KX w.params) p "property" = some (.ref f :: rest))
    (hf : ∀ (R : Result → Shared → Prop) t, (∀ h' tk', (∀ b o, h.get? b = some o → h'.get? b = some o) → R (.ok (.ret z)) ⟨h', g, d, tk', os⟩) → codeAny (model pw w) A.in1 (.call (.ref f) ⟨[.ref a], []⟩) R ⟨h, g, d, t, os⟩)
    (hz : ∀ id, z ≠ .builtin id) (hq : ∀ h' tk', (∀ b o, h.get? b = some o → h'.get? b = some o) → Q z ⟨h', g, d, tk', os⟩) :
    wpAny (model pw w) A (getAttr (.ref a) name true) Q E ⟨h, g, d, t, os⟩ := by
  refine getAttr_tok X ho rfl c.ga c.gh ?_
  refine tga_call X ho hd c (findObj_data c.cls h1 h2 h3) ?_
  dsimp only
  refine wpAny_call (prop_get X h4 ?_)
  exact hf _ _ fun h' tk' k => ⟨hz, hq h' tk' k⟩
theorem attr_type {Q : Value → Shared → Prop} {a C D : Addr} {x y : Value} {n : Nat} {sl : Array (Option Value)} {od : Obj} (hroom : A.depth < 890) (T : Top q loose mean mg mb h) (X : (KX w.params).In h) (ho : h.get? a = some ⟨.ref C, some D, .seq #[x, y] n, sl⟩) (hd : h.get? D = some od) (c : TokCls w.params C)
    (hz : ∀ id, x ≠ .builtin id) (hq : ∀ h' tk', (∀ b o, h.get? b = some o → h'.get? b = some o) → Q x ⟨h', g, d, tk', os⟩) :
    wpAny (model pw w) A (getAttr (.ref a) "type" true) Q E ⟨h, g, d, t, os⟩ :=
  attr_prop X ho hd c c.ty (sp_109 _) (ts_109 _) (rc_109 _) (fun R t hr => def_108 (Nat.lt_trans hroom (by decide)) T X ho c hr) hz hq
theorem attr_value {Q : Value → Shared → Prop} {a C D : Addr} {x y : Value} {n : Nat} {sl : Array (Option Value)} {od : Obj} (hroom : A.depth < 890) (T : Top q loose mean mg mb h) (X : (KX w.params).In h) (ho : h.get? a = some ⟨.ref C, some D, .seq #[x, y] n, sl⟩) (hd : h.get? D = some od) (c : TokCls w.params C)
    (hz : ∀ id, y ≠ .builtin id) (hq : ∀ h' tk', (∀ b o, h.get? b = some o → h'.get? b = some o) → Q y ⟨h', g, d, tk', os⟩) :
    wpAny (model pw w) A (getAttr (.ref a) "value" true) Q E ⟨h, g, d, t, os⟩ :=
  attr_prop X ho hd c c.va (sp_117 _) (ts_117 _) (rc_117 _) (fun R t hr => def_116 (Nat.lt_trans hroom (by decide)) T X ho c hr) hz hq
theorem attr_pos {Q : Value → Shared → Prop} {a C D : Addr} {x y : Value} {n m : Nat} {sl sl2 : Array (Option Value)} {hs : Int} {tk t3 : Tok} {p : Int} (X : (KX w.params).In h) (ho : h.get? a = some ⟨.ref C, some D, .seq #[x, y] n, sl⟩) (hd : h.get? D = some ⟨.type "dict", none, .dict #[⟨hs, .str "pos" tk, .int p t3⟩] m, sl2⟩) (c : TokCls w.params C)
    (hq : ∀ tk', Q (.int p t3) ⟨h, g, d, tk', os⟩) :
    wpAny (model pw w) A (getAttr (.ref a) "pos" true) Q E ⟨h, g, d, t, os⟩ := by
  refine getAttr_tok X ho rfl c.ga c.gh ?_
  refine tga_call X ho hd c (c.po ..) ?_
  exact And.intro (fun _ e => nomatch e) (hq _)
end
end Mine
end

section
open PySem PySem.W PyProof.Rows PySem.Calls
set_option Elab.async false
set_option maxRecDepth 100000
set_option maxHeartbeats 4000000
set_option pp.deepTerms false
set_option pp.maxSteps 3000
namespace Mine
abbrev nK : Str := "tokenize"
def ifTestOf : Stmt → Expr | .If t _ _ _ => t | _ => .Name "x" ⟨0,0,0,0⟩
def ifBodyOf : Stmt → List Stmt | .If _ b _ _ => b | _ => []
def posOf : Stmt → Pos | .If _ _ _ p => p | .Expr _ p => p | .Continue p => p | _ => ⟨0,0,0,0⟩
def exprPos : Expr → Pos | .Name _ p => p | .Yield _ p => p | _ => ⟨0,0,0,0⟩
def yieldOf : Stmt → Expr | .Expr (.Yield (some e) _) _ => e | _ => .Name "x" ⟨0,0,0,0⟩
def yposOf : Stmt → Pos | .Expr (.Yield _ p) _ => p | _ => ⟨0,0,0,0⟩
def stT (i : Nat) : Stmt := (turnOf nK).getD i (.Pass ⟨0,0,0,0⟩)
def stB (i j : Nat) : Stmt := (ifBodyOf (stT i)).getD j (.Pass ⟨0,0,0,0⟩)
theorem turnT_eq : turnOf nK = [stT 0, stT 1, stT 2, stT 3, stT 4, stT 5, stT 6, stT 7, stT 8, stT 9, stT 10, stT 11, stT 12, stT 13] := by kernel_rfl
abbrev eMatch (p : Pos) : Expr := .Name "match" p
theorem st1_eq : stT 1 = .If (eMatch (exprPos (ifTestOf (stT 1)))) [stB 1 0, stB 1 1, stB 1 2] [] (posOf (stT 1)) := by kernel_rfl
theorem st3_eq : stT 3 = .If (eMatch (exprPos (ifTestOf (stT 3)))) [stB 3 0, stB 3 1, stB 3 2, stB 3 3] [] (posOf (stT 3)) := by kernel_rfl
theorem st5_eq : stT 5 = .If (eMatch (exprPos (ifTestOf (stT 5)))) [stB 5 0, stB 5 1, stB 5 2, stB 5 3] [] (posOf (stT 5)) := by kernel_rfl
theorem st7_eq : stT 7 = .If (ifTestOf (stT 7)) [stB 7 0, stB 7 1, stB 7 2, stB 7 3, stB 7 4, stB 7 5, stB 7 6, stB 7 7, stB 7 8] [] (posOf (stT 7)) := by kernel_rfl
theorem st9_eq : stT 9 = .If (eMatch (exprPos (ifTestOf (stT 9)))) [stB 9 0, stB 9 1, stB 9 2, stB 9 3] [] (posOf (stT 9)) := by kernel_rfl
theorem st11_eq : stT 11 = .If (ifTestOf (stT 11)) [stB 11 0, stB 11 1, stB 11 2] [] (posOf (stT 11)) := by kernel_rfl
abbrev tM (S : Str) (ts : Tok) (p : Int) (tp : Tok) (n : Int) (tn : Tok) (mo vo qo eo po : Option Value) : Str → Option Value := fun y =>
  if y = "s" then some (.str S ts) else if y = "pos" then some (.int p tp) else if y = "len_s" then some (.int n tn) else if y = "match" then mo else if y = "value" then vo else if y = "quote" then qo else if y = "end_pos" then eo else if y = "pos2" then po else none
section
variable {S : Str} {ts tp tn : Tok} {p n : Int} {mo vo qo eo po : Option Value}
theorem tM_match {v : Value} : (fun y => if y = Str.ofString "match" then some v else tM S ts p tp n tn mo vo qo eo po y) = tM S ts p tp n tn (some v) vo qo eo po := by (funext y; simp only [tM]; (repeat' split) <;> first | rfl | (subst_vars; first | contradiction | (exfalso; revert ‹Str.ofString _ = Str.ofString _›; decide)) | simp_all)
theorem tM_value {v : Value} : (fun y => if y = Str.ofString "value" then some v else tM S ts p tp n tn mo vo qo eo po y) = tM S ts p tp n tn mo (some v) qo eo po := by (funext y; simp only [tM]; (repeat' split) <;> first | rfl | (subst_vars; first | contradiction | (exfalso; revert ‹Str.ofString _ = Str.ofString _›; decide)) | simp_all)
theorem tM_quote {v : Value} : (fun y => if y = Str.ofString "quote" then some v else tM S ts p tp n tn mo vo qo eo po y) = tM S ts p tp n tn mo vo (some v) eo po := by (funext y; simp only [tM]; (repeat' split) <;> first | rfl | (subst_vars; first | contradiction | (exfalso; revert ‹Str.ofString _ = Str.ofString _›; decide)) | simp_all)
theorem tM_end {v : Value} : (fun y => if y = Str.ofString "end_pos" then some v else tM S ts p tp n tn mo vo qo eo po y) = tM S ts p tp n tn mo vo qo (some v) po := by (funext y; simp only [tM]; (repeat' split) <;> first | rfl | (subst_vars; first | contradiction | (exfalso; revert ‹Str.ofString _ = Str.ofString _›; decide)) | simp_all)
theorem tM_pos2 {v : Value} : (fun y => if y = Str.ofString "pos2" then some v else tM S ts p tp n tn mo vo qo eo po y) = tM S ts p tp n tn mo vo qo eo (some v) := by (funext y; simp only [tM]; (repeat' split) <;> first | rfl | (subst_vars; first | contradiction | (exfalso; revert ‹Str.ofString _ = Str.ofString _›; decide)) | simp_all)
theorem tM_pos {p' : Int} {tp' : Tok} : (fun y => if y = Str.ofString "pos" then some (Value.int p' tp') else tM S ts p tp n tn mo vo qo eo po y) = tM S ts p' tp' n tn mo vo qo eo po := by (funext y; simp only [tM]; (repeat' split) <;> first | rfl | (subst_vars; first | contradiction | (exfalso; revert ‹Str.ofString _ = Str.ofString _›; decide)) | simp_all)
end
end Mine
end

section
open PySem PySem.W PyProof.Rows PySem.Calls PySem.Builtin.Re
set_option Elab.async false
set_option maxRecDepth 100000
set_option maxHeartbeats 4000000
namespace Mine
def cS1 : Array Nat := #[14, 4, 0, 0, 4294967295, 23, 124, 0, 4294967295, 17, 0, 7, 16, 13, 12, 21, 9, 13312, 128, 268435456, 0, 0, 0, 0, 0, 0, 15, 101, 29, 16, 92, 7, 5, 16, 10, 15, 19, 7, 16, 13, 16, 10, 15, 12, 5, 16, 13, 15, 7, 5, 16, 12, 15, 2, 0, 15, 72, 52, 16, 92, 17, 2, 24, 13, 1, 6, 39, 8, 22, 48, 57, 22, 97, 102, 0, 1, 17, 3, 23, 27, 0, 1, 7, 7, 16, 13, 16, 10, 15, 17, 15, 13, 11, 9, 13824, 1, 0, 0, 0, 0, 0, 0, 0, 15, 2, 0, 18, 15, 20, 18, 16, 92, 39, 12, 21, 9, 13312, 67043328, 0, 126, 0, 0, 0, 0, 0, 15, 2, 0, 17, 1, 18, 1]
def cS2 : Array Nat := #[14, 4, 0, 0, 4294967295, 23, 124, 0, 4294967295, 17, 0, 7, 16, 13, 12, 21, 9, 13312, 4, 268435456, 0, 0, 0, 0, 0, 0, 15, 101, 29, 16, 92, 7, 5, 16, 10, 15, 19, 7, 16, 13, 16, 10, 15, 12, 5, 16, 13, 15, 7, 5, 16, 12, 15, 2, 0, 15, 72, 52, 16, 92, 17, 2, 24, 13, 1, 6, 39, 8, 22, 48, 57, 22, 97, 102, 0, 1, 17, 3, 23, 27, 0, 1, 7, 7, 16, 13, 16, 10, 15, 17, 15, 13, 11, 9, 13824, 1, 0, 0, 0, 0, 0, 0, 0, 15, 2, 0, 18, 15, 20, 18, 16, 92, 39, 12, 21, 9, 13312, 67043328, 0, 126, 0, 0, 0, 0, 0, 15, 2, 0, 17, 1, 18, 1]
def cWs : Array Nat := #[14, 4, 0, 1, 4294967295, 24, 16, 1, 4294967295, 13, 11, 9, 13824, 1, 0, 0, 0, 0, 0, 0, 0, 1, 1]
def cNum : Array Nat := #[14, 4, 0, 1, 4294967295, 24, 11, 0, 1, 13, 6, 16, 43, 16, 45, 0, 1, 7, 27, 24, 10, 0, 4294967295, 13, 5, 22, 48, 57, 0, 1, 16, 46, 24, 10, 1, 4294967295, 13, 5, 22, 48, 57, 0, 1, 15, 16, 14, 24, 10, 1, 4294967295, 13, 5, 22, 48, 57, 0, 1, 15, 2, 0, 1]
def cHash : Array Nat := #[14, 8, 1, 2, 4294967295, 1, 1, 35, 0, 16, 35, 23, 268, 1, 4294967295, 7, 96, 39, 92, 10, 3, 33685760, 33686018, 33686018, 33686018, 33686018, 33686018, 33686018, 33686018, 33686018, 33686018, 33686018, 33686018, 33686018, 33686018, 33686018, 33686018, 33686018, 33686018, 33686018, 33686018, 33686018, 33686018, 33686018, 33686018, 33686018, 33686018, 33686018, 33686018, 33686018, 33686018, 33686018, 33686018, 33686018, 33686018, 33686018, 33686018, 33686018, 33686018, 33686018, 33686018, 33686018, 33686018, 33686018, 33686018, 33686018, 33686018, 33686018, 33686018, 33686018, 33686018, 33686018, 33686018, 33686018, 33686018, 33686018, 33686018, 33686018, 33686018, 33686018, 33686018, 33686018, 33686018, 33686018, 33686018, 0, 67051520, 2147483648, 134217726, 0, 0, 0, 0, 0, 131072, 0, 2147483648, 0, 0, 0, 0, 0, 0, 0, 0, 0, 0, 0, 0, 0, 15, 169, 52, 16, 92, 17, 0, 24, 13, 1, 6, 39, 8, 22, 48, 57, 22, 97, 102, 0, 1, 17, 1, 23, 27, 0, 1, 7, 7, 16, 13, 16, 10, 15, 17, 15, 13, 11, 9, 13824, 1, 0, 0, 0, 0, 0, 0, 0, 15, 2, 0, 18, 15, 117, 18, 16, 92, 39, 12, 21, 9, 13312, 67043328, 0, 126, 0, 0, 0, 0, 0, 15, 99, 97, 39, 93, 21, 10, 3, 33685760, 33686018, 33686018, 33686018, 33686018, 33686018, 33686018, 33686018, 33686018, 33686018, 33686018, 33686018, 33686018, 33686018, 33686018, 33686018, 33686018, 33686018, 33686018, 33686018, 33686018, 33686018, 33686018, 33686018, 33686018, 33686018, 33686018, 33686018, 33686018, 33686018, 33686018, 33686018, 33686018, 33686018, 33686018, 33686018, 33686018, 33686018, 33686018, 33686018, 33686018, 33686018, 33686018, 33686018, 33686018, 33686018, 33686018, 33686018, 33686018, 33686018, 33686018, 33686018, 33686018, 33686018, 33686018, 33686018, 33686018, 33686018, 33686018, 33686018, 33686018, 33686018, 33686018, 33686018, 4294967295, 4294967295, 4160749569, 4294967295, 0, 0, 0, 0, 0, 131072, 0, 2147483648, 0, 0, 0, 0, 0, 0, 0, 0, 0, 0, 0, 0, 0, 15, 2, 0, 18, 1]
def cId : Array Nat := #[14, 4, 0, 1, 4294967295, 24, 6, 0, 1, 16, 45, 1, 7, 96, 39, 92, 10, 3, 33685760, 33686018, 33686018, 33686018, 33686018, 33686018, 33686018, 33686018, 33686018, 33686018, 33686018, 33686018, 33686018, 33686018, 33686018, 33686018, 33686018, 33686018, 33686018, 33686018, 33686018, 33686018, 33686018, 33686018, 33686018, 33686018, 33686018, 33686018, 33686018, 33686018, 33686018, 33686018, 33686018, 33686018, 33686018, 33686018, 33686018, 33686018, 33686018, 33686018, 33686018, 33686018, 33686018, 33686018, 33686018, 33686018, 33686018, 33686018, 33686018, 33686018, 33686018, 33686018, 33686018, 33686018, 33686018, 33686018, 33686018, 33686018, 33686018, 33686018, 33686018, 33686018, 33686018, 33686018, 0, 0, 2147483648, 134217726, 0, 0, 0, 0, 0, 131072, 0, 2147483648, 0, 0, 0, 0, 0, 0, 0, 0, 0, 0, 0, 0, 0, 15, 169, 52, 16, 92, 17, 0, 24, 13, 1, 6, 39, 8, 22, 48, 57, 22, 97, 102, 0, 1, 17, 1, 23, 27, 0, 1, 7, 7, 16, 13, 16, 10, 15, 17, 15, 13, 11, 9, 13824, 1, 0, 0, 0, 0, 0, 0, 0, 15, 2, 0, 18, 15, 117, 18, 16, 92, 39, 12, 21, 9, 13312, 67043328, 0, 126, 0, 0, 0, 0, 0, 15, 99, 97, 39, 93, 21, 10, 3, 33685760, 33686018, 33686018, 33686018, 33686018, 33686018, 33686018, 33686018, 33686018, 33686018, 33686018, 33686018, 33686018, 33686018, 33686018, 33686018, 33686018, 33686018, 33686018, 33686018, 33686018, 33686018, 33686018, 33686018, 33686018, 33686018, 33686018, 33686018, 33686018, 33686018, 33686018, 33686018, 33686018, 33686018, 33686018, 33686018, 33686018, 33686018, 33686018, 33686018, 33686018, 33686018, 33686018, 33686018, 33686018, 33686018, 33686018, 33686018, 33686018, 33686018, 33686018, 33686018, 33686018, 33686018, 33686018, 33686018, 33686018, 33686018, 33686018, 33686018, 33686018, 33686018, 33686018, 33686018, 4294967295, 4294967295, 4160749569, 4294967295, 0, 0, 0, 0, 0, 131072, 0, 2147483648, 0, 0, 0, 0, 0, 0, 0, 0, 0, 0, 0, 0, 0, 15, 2, 0, 23, 268, 0, 4294967295, 7, 96, 39, 92, 10, 3, 33685760, 33686018, 33686018, 33686018, 33686018, 33686018, 33686018, 33686018, 33686018, 33686018, 33686018, 33686018, 33686018, 33686018, 33686018, 33686018, 33686018, 33686018, 33686018, 33686018, 33686018, 33686018, 33686018, 33686018, 33686018, 33686018, 33686018, 33686018, 33686018, 33686018, 33686018, 33686018, 33686018, 33686018, 33686018, 33686018, 33686018, 33686018, 33686018, 33686018, 33686018, 33686018, 33686018, 33686018, 33686018, 33686018, 33686018, 33686018, 33686018, 33686018, 33686018, 33686018, 33686018, 33686018, 33686018, 33686018, 33686018, 33686018, 33686018, 33686018, 33686018, 33686018, 33686018, 33686018, 0, 67051520, 2147483648, 134217726, 0, 0, 0, 0, 0, 131072, 0, 2147483648, 0, 0, 0, 0, 0, 0, 0, 0, 0, 0, 0, 0, 0, 15, 169, 52, 16, 92, 17, 2, 24, 13, 1, 6, 39, 8, 22, 48, 57, 22, 97, 102, 0, 1, 17, 3, 23, 27, 0, 1, 7, 7, 16, 13, 16, 10, 15, 17, 15, 13, 11, 9, 13824, 1, 0, 0, 0, 0, 0, 0, 0, 15, 2, 0, 18, 15, 117, 18, 16, 92, 39, 12, 21, 9, 13312, 67043328, 0, 126, 0, 0, 0, 0, 0, 15, 99, 97, 39, 93, 21, 10, 3, 33685760, 33686018, 33686018, 33686018, 33686018, 33686018, 33686018, 33686018, 33686018, 33686018, 33686018, 33686018, 33686018, 33686018, 33686018, 33686018, 33686018, 33686018, 33686018, 33686018, 33686018, 33686018, 33686018, 33686018, 33686018, 33686018, 33686018, 33686018, 33686018, 33686018, 33686018, 33686018, 33686018, 33686018, 33686018, 33686018, 33686018, 33686018, 33686018, 33686018, 33686018, 33686018, 33686018, 33686018, 33686018, 33686018, 33686018, 33686018, 33686018, 33686018, 33686018, 33686018, 33686018, 33686018, 33686018, 33686018, 33686018, 33686018, 33686018, 33686018, 33686018, 33686018, 33686018, 33686018, 4294967295, 4294967295, 4160749569, 4294967295, 0, 0, 0, 0, 0, 131072, 0, 2147483648, 0, 0, 0, 0, 0, 0, 0, 0, 0, 0, 0, 0, 0, 15, 2, 0, 18, 1]
def cNl : Array Nat := #[14, 8, 1, 2, 3, 1, 1, 92, 0, 16, 92, 7, 5, 16, 10, 15, 19, 7, 16, 13, 16, 10, 15, 12, 5, 16, 13, 15, 7, 5, 16, 12, 15, 2, 0, 1]
theorem p0_ws : look false cWs 0 [32, 47] = some (some 1) := by decide +kernel
theorem p1_ws : look false cWs 0 [9, 32, 10, 47] = some (some 3) := by decide +kernel
theorem p2_ws : look false cWs 0 [97, 47] = some none := by decide +kernel
theorem p2_id : look false cId 2 [97, 47] = some (some 1) := by decide +kernel
theorem p3_ws : look false cWs 0 [98, 45, 67, 47] = some none := by decide +kernel
theorem p3_id : look false cId 2 [98, 45, 67, 47] = some (some 3) := by decide +kernel
theorem p4_ws : look false cWs 0 [45, 120, 95, 49, 47] = some none := by decide +kernel
theorem p4_id : look false cId 2 [45, 120, 95, 49, 47] = some (some 4) := by decide +kernel
theorem p5_ws : look false cWs 0 [233, 97, 47] = some none := by decide +kernel
theorem p5_id : look false cId 2 [233, 97, 47] = some (some 2) := by decide +kernel
theorem p6_ws : look false cWs 0 [92, 43, 100, 47] = some none := by decide +kernel
theorem p6_id : look false cId 2 [92, 43, 100, 47] = some (some 3) := by decide +kernel
theorem p7_ws : look false cWs 0 [101, 92, 52, 49, 32, 102, 47] = some none := by decide +kernel
theorem p7_id : look false cId 2 [101, 92, 52, 49, 32, 102, 47] = some (some 6) := by decide +kernel
theorem p8_ws : look false cWs 0 [35, 97, 45, 49, 47] = some none := by decide +kernel
theorem p8_id : look false cId 2 [35, 97, 45, 49, 47] = some none := by decide +kernel
theorem p8_ha : look false cHash 1 [35, 97, 45, 49, 47] = some (some 4) := by decide +kernel
theorem p9_ws : look false cWs 0 [35, 48, 47] = some none := by decide +kernel
theorem p9_id : look false cId 2 [35, 48, 47] = some none := by decide +kernel
theorem p9_ha : look false cHash 1 [35, 48, 47] = some (some 2) := by decide +kernel
theorem p10_ws : look false cWs 0 [39, 116, 32, 117, 39, 47] = some none := by decide +kernel
theorem p10_id : look false cId 2 [39, 116, 32, 117, 39, 47] = some none := by decide +kernel
theorem p10_ha : look false cHash 1 [39, 116, 32, 117, 39, 47] = some none := by decide +kernel
theorem p10_st : look false cS1 2 [116, 32, 117, 39, 47] = some (some 3) := by decide +kernel
theorem p11_ws : look false cWs 0 [34, 118, 39, 34, 47] = some none := by decide +kernel
theorem p11_id : look false cId 2 [34, 118, 39, 34, 47] = some none := by decide +kernel
theorem p11_ha : look false cHash 1 [34, 118, 39, 34, 47] = some none := by decide +kernel
theorem p11_st : look false cS2 2 [118, 39, 34, 47] = some (some 2) := by decide +kernel
theorem p12_ws : look false cWs 0 [39, 39, 47] = some none := by decide +kernel
theorem p12_id : look false cId 2 [39, 39, 47] = some none := by decide +kernel
theorem p12_ha : look false cHash 1 [39, 39, 47] = some none := by decide +kernel
theorem p12_st : look false cS1 2 [39, 47] = some (some 0) := by decide +kernel
theorem p13_ws : look false cWs 0 [39, 119, 92, 10, 120, 39, 47] = some none := by decide +kernel
theorem p13_id : look false cId 2 [39, 119, 92, 10, 120, 39, 47] = some none := by decide +kernel
theorem p13_ha : look false cHash 1 [39, 119, 92, 10, 120, 39, 47] = some none := by decide +kernel
theorem p13_st : look false cS1 2 [119, 92, 10, 120, 39, 47] = some (some 4) := by decide +kernel
theorem p14_ws : look false cWs 0 [55, 47] = some none := by decide +kernel
theorem p14_id : look false cId 2 [55, 47] = some none := by decide +kernel
theorem p14_ha : look false cHash 1 [55, 47] = some none := by decide +kernel
theorem p14_nu : look false cNum 0 [55, 47] = some (some 1) := by decide +kernel
theorem p15_ws : look false cWs 0 [43, 49, 50, 47] = some none := by decide +kernel
theorem p15_id : look false cId 2 [43, 49, 50, 47] = some none := by decide +kernel
theorem p15_ha : look false cHash 1 [43, 49, 50, 47] = some none := by decide +kernel
theorem p15_nu : look false cNum 0 [43, 49, 50, 47] = some (some 3) := by decide +kernel
theorem p16_ws : look false cWs 0 [45, 46, 53, 47] = some none := by decide +kernel
theorem p16_id : look false cId 2 [45, 46, 53, 47] = some none := by decide +kernel
theorem p16_ha : look false cHash 1 [45, 46, 53, 47] = some none := by decide +kernel
theorem p16_nu : look false cNum 0 [45, 46, 53, 47] = some (some 3) := by decide +kernel
theorem p17_ws : look false cWs 0 [51, 46, 50, 53, 47] = some none := by decide +kernel
theorem p17_id : look false cId 2 [51, 46, 50, 53, 47] = some none := by decide +kernel
theorem p17_ha : look false cHash 1 [51, 46, 50, 53, 47] = some none := by decide +kernel
theorem p17_nu : look false cNum 0 [51, 46, 50, 53, 47] = some (some 4) := by decide +kernel
theorem p18_ws : look false cWs 0 [46, 47] = some none := by decide +kernel
theorem p18_id : look false cId 2 [46, 47] = some none := by decide +kernel
theorem p18_ha : look false cHash 1 [46, 47] = some none := by decide +kernel
theorem p18_nu : look false cNum 0 [46, 47] = some none := by decide +kernel
theorem p19_ws : look false cWs 0 [62, 47] = some none := by decide +kernel
theorem p19_id : look false cId 2 [62, 47] = some none := by decide +kernel
theorem p19_ha : look false cHash 1 [62, 47] = some none := by decide +kernel
theorem p19_nu : look false cNum 0 [62, 47] = some none := by decide +kernel
theorem p20_ws : look false cWs 0 [43, 47] = some none := by decide +kernel
theorem p20_id : look false cId 2 [43, 47] = some none := by decide +kernel
theorem p20_ha : look false cHash 1 [43, 47] = some none := by decide +kernel
theorem p20_nu : look false cNum 0 [43, 47] = some none := by decide +kernel
theorem p21_ws : look false cWs 0 [42, 47] = some none := by decide +kernel
theorem p21_id : look false cId 2 [42, 47] = some none := by decide +kernel
theorem p21_ha : look false cHash 1 [42, 47] = some none := by decide +kernel
theorem p21_nu : look false cNum 0 [42, 47] = some none := by decide +kernel
theorem p22_ws : look false cWs 0 [40, 47] = some none := by decide +kernel
theorem p22_id : look false cId 2 [40, 47] = some none := by decide +kernel
theorem p22_ha : look false cHash 1 [40, 47] = some none := by decide +kernel
theorem p22_nu : look false cNum 0 [40, 47] = some none := by decide +kernel
theorem p23_ws : look false cWs 0 [93, 47] = some none := by decide +kernel
theorem p23_id : look false cId 2 [93, 47] = some none := by decide +kernel
theorem p23_ha : look false cHash 1 [93, 47] = some none := by decide +kernel
theorem p23_nu : look false cNum 0 [93, 47] = some none := by decide +kernel
theorem p24_ws : look false cWs 0 [35, 47] = some none := by decide +kernel
theorem p24_id : look false cId 2 [35, 47] = some none := by decide +kernel
theorem p24_ha : look false cHash 1 [35, 47] = some none := by decide +kernel
theorem p24_nu : look false cNum 0 [35, 47] = some none := by decide +kernel
theorem p25_ws : look false cWs 0 [58, 47] = some none := by decide +kernel
theorem p25_id : look false cId 2 [58, 47] = some none := by decide +kernel
theorem p25_ha : look false cHash 1 [58, 47] = some none := by decide +kernel
theorem p25_nu : look false cNum 0 [58, 47] = some none := by decide +kernel
theorem p26_ws : look false cWs 0 [124, 47] = some none := by decide +kernel
theorem p26_id : look false cId 2 [124, 47] = some none := by decide +kernel
theorem p26_ha : look false cHash 1 [124, 47] = some none := by decide +kernel
theorem p26_nu : look false cNum 0 [124, 47] = some none := by decide +kernel
theorem rm_ws : look false cWs 0 [47, 42] = some none := by decide +kernel
theorem rm_id : look false cId 2 [47, 42] = some none := by decide +kernel
theorem rm_ha : look false cHash 1 [47, 42] = some none := by decide +kernel
theorem rm_nu : look false cNum 0 [47, 42] = some none := by decide +kernel
theorem e3_ws : look true cWs 0 [39, 111, 112, 101, 110] = some none := by decide +kernel
theorem e3_id : look true cId 2 [39, 111, 112, 101, 110] = some none := by decide +kernel
theorem e3_ha : look true cHash 1 [39, 111, 112, 101, 110] = some none := by decide +kernel
theorem e3_st : look true cS1 2 [111, 112, 101, 110] = some (some 4) := by decide +kernel
theorem e4_ws : look true cWs 0 [34, 97, 10, 98, 34] = some none := by decide +kernel
theorem e4_id : look true cId 2 [34, 97, 10, 98, 34] = some none := by decide +kernel
theorem e4_ha : look true cHash 1 [34, 97, 10, 98, 34] = some none := by decide +kernel
theorem e4_st : look true cS2 2 [97, 10, 98, 34] = some (some 1) := by decide +kernel
end Mine
end

section
open PySem PySem.W PyProof.Rows PySem.Calls
set_option Elab.async false
set_option maxRecDepth 100000
set_option maxHeartbeats 4000000
set_option linter.unusedVariables false
set_option pp.deepTerms false
set_option pp.maxSteps 3000
namespace Mine
theorem codeEq {items : Array Value} {code : Array Nat} (h : items.toList.map (fun v => (Builtin.Re.reRawOf v).toNat) = code.toList) : (items.map Builtin.Re.reRawOf).map (·.toNat) = code := by
  apply Array.ext'
  rw [Array.toList_map, Array.toList_map, List.map_map]
  exact h
section
variable {P : Params} {h : Heap}
theorem pat_163 (X : (KX P).In h) : IsPat h 163 cWs 0 := by
  exact ⟨_, _, _, _, _, _, _, _, X 163 _ rfl, ⟨_, _, _, X _ _ rfl⟩, codeEq (by kernel_rfl)⟩
theorem pat_178 (X : (KX P).In h) : IsPat h 178 cId 2 := by
  exact ⟨_, _, _, _, _, _, _, _, X 178 _ rfl, ⟨_, _, _, X _ _ rfl⟩, codeEq (by kernel_rfl)⟩
theorem pat_173 (X : (KX P).In h) : IsPat h 173 cHash 1 := by
  exact ⟨_, _, _, _, _, _, _, _, X 173 _ rfl, ⟨_, _, _, X _ _ rfl⟩, codeEq (by kernel_rfl)⟩
theorem pat_168 (X : (KX P).In h) : IsPat h 168 cNum 0 := by
  exact ⟨_, _, _, _, _, _, _, _, X 168 _ rfl, ⟨_, _, _, X _ _ rfl⟩, codeEq (by kernel_rfl)⟩
theorem pat_43 (X : (KX P).In h) : IsPat h 43 cS1 2 := by
  exact ⟨_, _, _, _, _, _, _, _, X 43 _ rfl, ⟨_, _, _, X _ _ rfl⟩, codeEq (by kernel_rfl)⟩
theorem pat_48 (X : (KX P).In h) : IsPat h 48 cS2 2 := by
  exact ⟨_, _, _, _, _, _, _, _, X 48 _ rfl, ⟨_, _, _, X _ _ rfl⟩, codeEq (by kernel_rfl)⟩
theorem pat_189 (X : (KX P).In h) : IsPat h 189 cNl 0 := by
  exact ⟨_, _, _, _, _, _, _, _, X 189 _ rfl, ⟨_, _, _, X _ _ rfl⟩, codeEq (by kernel_rfl)⟩
end
section
local macro_rules | `(tactic| walk_at "getMethod ref") => `(tactic| (with_reducible refine getMethod_match (IsPat.keeps (by assumption) (Fr.keep (by assumption))) ?_))
local macro_rules | `(tactic| walk_at "call builtin:re.Pattern.match") => `(tactic| (refine MATCH (IsPat.keeps (by assumption) (Fr.keep (by assumption))) (by assumption) (by assumption) (by decide) (by assumption) (by assumption) (by omega) (by assumption) ?_; dsimp only))
variable {w : World} {dp un : Nat} {gd : Option (List Code)} {fr : Option (List Env)} {s : Shared} {h₀ : Heap} {L a : Addr} {cd : Value} {q : Program} {loose : List Str} {mean : ExcName → Option Value} {mg mb : Str → Option Value}
  {S : Str} {ts tp tn : Tok} {p n : Int} {mo vo qo eo po : Option Value} {d e : Nat} {ex : Bool} {W : List Nat} {news : List (Addr × Obj)}
theorem m0_none {Q : Flow → Shared → Prop} (F : Fr h₀ L s.heap (tM S ts p tp n tn mo vo qo eo po)) (X : (KX w.params).In h₀) (N : News h₀ L s.heap news) (T : Top q loose mean mg mb h₀)
  (hp : p = d) (hS : S.cps.size ≤ 1000000) (P : IsPat h₀ 163 cWs 0) (H : Win d S.cps S.cps.size ex W) (hl : look ex cWs 0 W = some none)
  (hQ : ∀ h' tk', Fr h₀ L h' (tM S ts p tp n tn (some .none) vo qo eo po) → News h₀ L h' news → Q .next { s with heap := h', toks := tk' }) :
  wpAny (model pw w) (ar dp un gd fr) (exec (stT 0) (envOf nK (scopeOf nK) L a cd)) Q noE s := by
  change wpAny _ _ (exec (Stmt.Assign _ _ _) _) Q noE s
  repeat' walk1
  refine hQ _ _ (fr_eq (by assumption) tM_match) (by assumption)
theorem m0_some {Q : Flow → Shared → Prop} (F : Fr h₀ L s.heap (tM S ts p tp n tn mo vo qo eo po)) (X : (KX w.params).In h₀) (N : News h₀ L s.heap news) (T : Top q loose mean mg mb h₀)
  (hp : p = d) (hS : S.cps.size ≤ 1000000) (P : IsPat h₀ 163 cWs 0) (H : Win d S.cps S.cps.size ex W) (hl : look ex cWs 0 W = some (some e))
  (hQ : ∀ h' tk' A₂ A₁ pos lim li sp, Fr h₀ L h' (tM S ts p tp n tn (some (.ref A₂)) vo qo eo po) → News h₀ L h' ((A₂, matO (.str S ts) (.ref 163) pos lim li A₁) :: (A₁, tupO (rawInt d :: rawInt (d + e : Nat) :: sp)) :: news) → AllLt A₁ news → AllLt A₂ news → Q .next { s with heap := h', toks := tk' }) :
  wpAny (model pw w) (ar dp un gd fr) (exec (stT 0) (envOf nK (scopeOf nK) L a cd)) Q noE s := by
  change wpAny _ _ (exec (Stmt.Assign _ _ _) _) Q noE s
  repeat' walk1
  refine hQ _ _ _ _ _ _ _ _ (fr_eq (by assumption) tM_match) (by assumption) (by assumption) (by assumption)
theorem m2_none {Q : Flow → Shared → Prop} (F : Fr h₀ L s.heap (tM S ts p tp n tn mo vo qo eo po)) (X : (KX w.params).In h₀) (N : News h₀ L s.heap news) (T : Top q loose mean mg mb h₀)
  (hp : p = d) (hS : S.cps.size ≤ 1000000) (P : IsPat h₀ 178 cId 2) (H : Win d S.cps S.cps.size ex W) (hl : look ex cId 2 W = some none)
  (hQ : ∀ h' tk', Fr h₀ L h' (tM S ts p tp n tn (some .none) vo qo eo po) → News h₀ L h' news → Q .next { s with heap := h', toks := tk' }) :
  wpAny (model pw w) (ar dp un gd fr) (exec (stT 2) (envOf nK (scopeOf nK) L a cd)) Q noE s := by
  change wpAny _ _ (exec (Stmt.Assign _ _ _) _) Q noE s
  repeat' walk1
  refine hQ _ _ (fr_eq (by assumption) tM_match) (by assumption)
theorem m2_some {Q : Flow → Shared → Prop} (F : Fr h₀ L s.heap (tM S ts p tp n tn mo vo qo eo po)) (X : (KX w.params).In h₀) (N : News h₀ L s.heap news) (T : Top q loose mean mg mb h₀)
  (hp : p = d) (hS : S.cps.size ≤ 1000000) (P : IsPat h₀ 178 cId 2) (H : Win d S.cps S.cps.size ex W) (hl : look ex cId 2 W = some (some e))
  (hQ : ∀ h' tk' A₂ A₁ pos lim li sp, Fr h₀ L h' (tM S ts p tp n tn (some (.ref A₂)) vo qo eo po) → News h₀ L h' ((A₂, matO (.str S ts) (.ref 178) pos lim li A₁) :: (A₁, tupO (rawInt d :: rawInt (d + e : Nat) :: sp)) :: news) → AllLt A₁ news → AllLt A₂ news → Q .next { s with heap := h', toks := tk' }) :
  wpAny (model pw w) (ar dp un gd fr) (exec (stT 2) (envOf nK (scopeOf nK) L a cd)) Q noE s := by
  change wpAny _ _ (exec (Stmt.Assign _ _ _) _) Q noE s
  repeat' walk1
  refine hQ _ _ _ _ _ _ _ _ (fr_eq (by assumption) tM_match) (by assumption) (by assumption) (by assumption)
theorem m4_none {Q : Flow → Shared → Prop} (F : Fr h₀ L s.heap (tM S ts p tp n tn mo vo qo eo po)) (X : (KX w.params).In h₀) (N : News h₀ L s.heap news) (T : Top q loose mean mg mb h₀)
  (hp : p = d) (hS : S.cps.size ≤ 1000000) (P : IsPat h₀ 173 cHash 1) (H : Win d S.cps S.cps.size ex W) (hl : look ex cHash 1 W = some none)
  (hQ : ∀ h' tk', Fr h₀ L h' (tM S ts p tp n tn (some .none) vo qo eo po) → News h₀ L h' news → Q .next { s with heap := h', toks := tk' }) :
  wpAny (model pw w) (ar dp un gd fr) (exec (stT 4) (envOf nK (scopeOf nK) L a cd)) Q noE s := by
  change wpAny _ _ (exec (Stmt.Assign _ _ _) _) Q noE s
  repeat' walk1
  refine hQ _ _ (fr_eq (by assumption) tM_match) (by assumption)
theorem m4_some {Q : Flow → Shared → Prop} (F : Fr h₀ L s.heap (tM S ts p tp n tn mo vo qo eo po)) (X : (KX w.params).In h₀) (N : News h₀ L s.heap news) (T : Top q loose mean mg mb h₀)
  (hp : p = d) (hS : S.cps.size ≤ 1000000) (P : IsPat h₀ 173 cHash 1) (H : Win d S.cps S.cps.size ex W) (hl : look ex cHash 1 W = some (some e))
  (hQ : ∀ h' tk' A₂ A₁ pos lim li sp, Fr h₀ L h' (tM S ts p tp n tn (some (.ref A₂)) vo qo eo po) → News h₀ L h' ((A₂, matO (.str S ts) (.ref 173) pos lim li A₁) :: (A₁, tupO (rawInt d :: rawInt (d + e : Nat) :: sp)) :: news) → AllLt A₁ news → AllLt A₂ news → Q .next { s with heap := h', toks := tk' }) :
  wpAny (model pw w) (ar dp un gd fr) (exec (stT 4) (envOf nK (scopeOf nK) L a cd)) Q noE s := by
  change wpAny _ _ (exec (Stmt.Assign _ _ _) _) Q noE s
  repeat' walk1
  refine hQ _ _ _ _ _ _ _ _ (fr_eq (by assumption) tM_match) (by assumption) (by assumption) (by assumption)
theorem m8_none {Q : Flow → Shared → Prop} (F : Fr h₀ L s.heap (tM S ts p tp n tn mo vo qo eo po)) (X : (KX w.params).In h₀) (N : News h₀ L s.heap news) (T : Top q loose mean mg mb h₀)
  (hp : p = d) (hS : S.cps.size ≤ 1000000) (P : IsPat h₀ 168 cNum 0) (H : Win d S.cps S.cps.size ex W) (hl : look ex cNum 0 W = some none)
  (hQ : ∀ h' tk', Fr h₀ L h' (tM S ts p tp n tn (some .none) vo qo eo po) → News h₀ L h' news → Q .next { s with heap := h', toks := tk' }) :
  wpAny (model pw w) (ar dp un gd fr) (exec (stT 8) (envOf nK (scopeOf nK) L a cd)) Q noE s := by
  change wpAny _ _ (exec (Stmt.Assign _ _ _) _) Q noE s
  repeat' walk1
  refine hQ _ _ (fr_eq (by assumption) tM_match) (by assumption)
theorem m8_some {Q : Flow → Shared → Prop} (F : Fr h₀ L s.heap (tM S ts p tp n tn mo vo qo eo po)) (X : (KX w.params).In h₀) (N : News h₀ L s.heap news) (T : Top q loose mean mg mb h₀)
  (hp : p = d) (hS : S.cps.size ≤ 1000000) (P : IsPat h₀ 168 cNum 0) (H : Win d S.cps S.cps.size ex W) (hl : look ex cNum 0 W = some (some e))
  (hQ : ∀ h' tk' A₂ A₁ pos lim li sp, Fr h₀ L h' (tM S ts p tp n tn (some (.ref A₂)) vo qo eo po) → News h₀ L h' ((A₂, matO (.str S ts) (.ref 168) pos lim li A₁) :: (A₁, tupO (rawInt d :: rawInt (d + e : Nat) :: sp)) :: news) → AllLt A₁ news → AllLt A₂ news → Q .next { s with heap := h', toks := tk' }) :
  wpAny (model pw w) (ar dp un gd fr) (exec (stT 8) (envOf nK (scopeOf nK) L a cd)) Q noE s := by
  change wpAny _ _ (exec (Stmt.Assign _ _ _) _) Q noE s
  repeat' walk1
  refine hQ _ _ _ _ _ _ _ _ (fr_eq (by assumption) tM_match) (by assumption) (by assumption) (by assumption)
local macro_rules | `(tactic| walk_at "truthy ref") => `(tactic| (refine truthy_mat (ref_use (by assumption)) ?_))
theorem mt_none {Q : Bool → Shared → Prop} {pp : Pos} (F : Fr h₀ L s.heap (tM S ts p tp n tn (some .none) vo qo eo po)) (X : (KX w.params).In h₀) (T : Top q loose mean mg mb h₀) (N : News h₀ L s.heap news)
  (hQ : ∀ tk', Q false { s with toks := tk' }) :
  wpAny (model pw w) (ar dp un gd fr) (isTrue (eMatch pp) (envOf nK (scopeOf nK) L a cd) (eval (eMatch pp) (envOf nK (scopeOf nK) L a cd))) Q noE s := by
  repeat' walk1
  exact hQ _
theorem mt_some {Q : Bool → Shared → Prop} {pp : Pos} {t1 : Tok} {pat : Value} {pos lim : Nat} {li : Int} {A₁ A₂ : Addr} {b e : Nat} {sp : List Value} (F : Fr h₀ L s.heap (tM S ts p tp n tn (some (.ref A₂)) vo qo eo po)) (X : (KX w.params).In h₀) (T : Top q loose mean mg mb h₀)
  (N : News h₀ L s.heap ((A₂, matO (.str S t1) pat pos lim li A₁) :: (A₁, tupO (rawInt b :: rawInt e :: sp)) :: news))
  (hQ : ∀ tk', Q true { s with toks := tk' }) :
  wpAny (model pw w) (ar dp un gd fr) (isTrue (eMatch pp) (envOf nK (scopeOf nK) L a cd) (eval (eMatch pp) (envOf nK (scopeOf nK) L a cd))) Q noE s := by
  repeat' walk1
  exact hQ _
end
end Mine
end

section
open PySem PySem.W PyProof.Rows PySem.Calls
set_option Elab.async false
set_option maxRecDepth 100000
set_option maxHeartbeats 4000000
set_option linter.unusedVariables false
set_option pp.deepTerms false
set_option pp.maxSteps 3000
namespace Mine
section
variable {w : World} {dp un : Nat} {gd : Option (List Code)} {fr : Option (List Env)} {s : Shared} {h₀ : Heap} {L a : Addr} {cd : Value} {q : Program} {loose : List Str} {mean : ExcName → Option Value} {mg mb : Str → Option Value}
  {S : Str} {ts tp tn : Tok} {p n : Int} {mo vo qo eo po : Option Value} {d e b : Nat} {ex : Bool} {W : List Nat} {news : List (Addr × Obj)} {t1 : Tok} {pat : Value} {pos lim : Nat} {li : Int} {A₁ A₂ : Addr} {sp : List Value} {V r : Str} {tv : Tok}
theorem unesc_use {Q E : Value → Shared → Prop} {m : Str → Option Value} (hd : dp ≤ 380) (hu : un ≤ 80) (X : (KX w.params).In h₀) (T : Top q loose mean mg mb h₀) (F : Fr h₀ L s.heap m) (N : News h₀ L s.heap news)
    (U : Unesc V r) (hQ : ∀ h' t' tk', Fr h₀ L h' m → News h₀ L h' news → Q (.str r t') { s with heap := h', toks := tk' }) :
    wpAny (model pw w) (ar dp un gd fr) (call (.ref 217) [.str V tv]) Q E s :=
  wpAny_mono (unesc_call hd hu (X.keeps F.keep) (T.keeps F.keep) U fun h' t' tk' hk => hQ h' t' tk' ⟨F.ns.keeps hk, fun b o e => hk b o (F.keep b o e), F.above⟩ fun p hp => ⟨hk _ _ (N p hp).1, (N p hp).2⟩) (fun _ _ x => x) fun _ _ x => x.elim
def tokO (C D : Addr) (k : Str) (t1 : Tok) (v : Value) (n : Nat) (sl : Array (Option Value)) : Obj := ⟨.ref C, some D, .seq #[.str k t1, v] n, sl⟩
theorem tok_use {Q E : Value → Shared → Prop} {m : Str → Option Value} {k : Str} {t1 t3 : Tok} {v : Value} {p : Int} (hd : dp ≤ 400) (hu : un ≤ 100) (X : (KX w.params).In h₀) (F : Fr h₀ L s.heap m) (N : News h₀ L s.heap news)
    (hQ : ∀ a h' tk', Fr h₀ L h' m → News h₀ L h' news → TokAt h' a 127 k v p → Q (.ref a) { s with heap := h', toks := tk' }) :
    wpAny (model pw w) (ar dp un gd fr) (call (.ref 127) [.str k t1, v, .int p t3]) Q E s :=
  ar_mono hd hu (tok_call (X.keeps F.keep) fun a h' tk' hk t => hQ a h' tk' ⟨F.ns.keeps hk, fun b o e => hk b o (F.keep b o e), F.above⟩ (fun p hp => ⟨hk _ _ (N p hp).1, (N p hp).2⟩) t)
theorem eof_use {Q E : Value → Shared → Prop} {m : Str → Option Value} {t3 : Tok} {p : Int} (hd : dp ≤ 400) (hu : un ≤ 100) (X : (KX w.params).In h₀) (F : Fr h₀ L s.heap m) (N : News h₀ L s.heap news)
    (hQ : ∀ a h' tk', Fr h₀ L h' m → News h₀ L h' news → TokAt h' a 155 "EOF" .none p → Q (.ref a) { s with heap := h', toks := tk' }) :
    wpAny (model pw w) (ar dp un gd fr) (call (.ref 155) [.int p t3]) Q E s :=
  ar_mono hd hu (eof_call (X.keeps F.keep) fun a h' tk' hk t => hQ a h' tk' ⟨F.ns.keeps hk, fun b o e => hk b o (F.keep b o e), F.above⟩ (fun p hp => ⟨hk _ _ (N p hp).1, (N p hp).2⟩) t)
local macro_rules | `(tactic| walk_at "getMethod ref") => `(tactic| (with_reducible refine getMethod_end (ref_use (by assumption)) ?_))
local macro_rules | `(tactic| walk_at "getMethod ref") => `(tactic| (with_reducible refine getMethod_group (ref_use (by assumption)) ?_))
local macro_rules | `(tactic| walk_at "call builtin:re.Match.end") => `(tactic| (refine call_end (ref_use (by assumption)) ?_))
local macro_rules | `(tactic| walk_at "call builtin:re.Match.group") => `(tactic| (refine call_group (ref_use (by assumption)) (by assumption) ?_))
local macro_rules | `(tactic| walk_at "call ref") => `(tactic| (first
  | (refine unesc_use (by assumption) (by assumption) (by assumption) (by assumption) (by assumption) (by assumption) (by assumption) ?_; intro h' t' tk' F' N')
  | (refine tok_use (by omega) (by omega) (by assumption) (by assumption) (by assumption) ?_; intro aa h' tk' F' N' Z')
  | (refine eof_use (by omega) (by omega) (by assumption) (by assumption) (by assumption) ?_; intro aa h' tk' F' N' Z')))
-- yields of S, IDENT
theorem y1_0 {Q : Value → Shared → Prop} (hd : dp ≤ 380) (hu : un ≤ 80) (F : Fr h₀ L s.heap (tM S ts p tp n tn mo vo qo eo po)) (X : (KX w.params).In h₀) (N : News h₀ L s.heap news) (T : Top q loose mean mg mb h₀)
  (hQ : ∀ a h' tk' t', Fr h₀ L h' (tM S ts p tp n tn mo vo qo eo po) → News h₀ L h' news → TokAt h' a 127 "S" (.str " " t') p → Q (.ref a) { s with heap := h', toks := tk' }) :
  wpAny (model pw w) (ar dp un gd fr) (eval (yieldOf (stB 1 0)) (envOf nK (scopeOf nK) L a cd)) Q noE s := by
  change wpAny _ _ (eval (Expr.Call _ _ _ _) _) Q noE s
  repeat' walk1
  exact hQ _ _ _ _ (by assumption) (by assumption) (by assumption)
theorem v3_0 {Q : Flow → Shared → Prop} (hd : dp ≤ 380) (hu : un ≤ 80) (F : Fr h₀ L s.heap (tM S ts p tp n tn (some (.ref A₂)) vo qo eo po)) (X : (KX w.params).In h₀) (T : Top q loose mean mg mb h₀)
  (N : News h₀ L s.heap ((A₂, matO (.str S t1) pat pos lim li A₁) :: (A₁, tupO (rawInt b :: rawInt e :: sp)) :: news))
  (hsz : e - b ≤ 1000000) (U : Unesc (⟨S.cps.extract b e⟩ : Str) r)
  (hQ : ∀ h' t' tk', Fr h₀ L h' (tM S ts p tp n tn (some (.ref A₂)) (some (.str r t')) qo eo po) → News h₀ L h' ((A₂, matO (.str S t1) pat pos lim li A₁) :: (A₁, tupO (rawInt b :: rawInt e :: sp)) :: news) → Q .next { s with heap := h', toks := tk' }) :
  wpAny (model pw w) (ar dp un gd fr) (exec (stB 3 0) (envOf nK (scopeOf nK) L a cd)) Q noE s := by
  change wpAny _ _ (exec (Stmt.Assign _ _ _) _) Q noE s
  repeat' walk1
  exact hQ _ _ _ (fr_eq (by assumption) tM_value) (by assumption)
theorem y3_1 {Q : Value → Shared → Prop} (hd : dp ≤ 380) (hu : un ≤ 80) (F : Fr h₀ L s.heap (tM S ts p tp n tn mo (some (.str V tv)) qo eo po)) (X : (KX w.params).In h₀) (N : News h₀ L s.heap news) (T : Top q loose mean mg mb h₀)
  (hQ : ∀ a h' tk' t', Fr h₀ L h' (tM S ts p tp n tn mo (some (.str V tv)) qo eo po) → News h₀ L h' news → TokAt h' a 127 "IDENT" (.str V t') p → Q (.ref a) { s with heap := h', toks := tk' }) :
  wpAny (model pw w) (ar dp un gd fr) (eval (yieldOf (stB 3 1)) (envOf nK (scopeOf nK) L a cd)) Q noE s := by
  change wpAny _ _ (eval (Expr.Call _ _ _ _) _) Q noE s
  repeat' walk1
  exact hQ _ _ _ _ (by assumption) (by assumption) (by assumption)
theorem e1_1 {Q : Flow → Shared → Prop} (hd : dp ≤ 380) (hu : un ≤ 80) (F : Fr h₀ L s.heap (tM S ts p tp n tn (some (.ref A₂)) vo qo eo po)) (X : (KX w.params).In h₀) (T : Top q loose mean mg mb h₀)
  (N : News h₀ L s.heap ((A₂, matO (.str S t1) pat pos lim li A₁) :: (A₁, tupO (rawInt b :: rawInt e :: sp)) :: news))
  (hQ : ∀ h' t' tk', Fr h₀ L h' (tM S ts e t' n tn (some (.ref A₂)) vo qo eo po) → News h₀ L h' ((A₂, matO (.str S t1) pat pos lim li A₁) :: (A₁, tupO (rawInt b :: rawInt e :: sp)) :: news) → Q .next { s with heap := h', toks := tk' }) :
  wpAny (model pw w) (ar dp un gd fr) (exec (stB 1 1) (envOf nK (scopeOf nK) L a cd)) Q noE s := by
  change wpAny _ _ (exec (Stmt.Assign _ _ _) _) Q noE s
  repeat' walk1
  exact hQ _ _ _ (fr_eq (by assumption) tM_pos) (by assumption)
local macro_rules | `(tactic| walk_at "subscriptTail Name Slice str ref") => `(tactic| (refine slice_strN_sn (hsz := ?hsz) (s := ⟨_, _, _, _, _⟩) (by assumption) (by assumption) ?_; (case hsz => assumption); intro _ _ _ _ _))
theorem v5_0 {Q : Flow → Shared → Prop} (hd : dp ≤ 380) (hu : un ≤ 80) (F : Fr h₀ L s.heap (tM S ts p tp n tn (some (.ref A₂)) vo qo eo po)) (X : (KX w.params).In h₀) (T : Top q loose mean mg mb h₀)
  (N : News h₀ L s.heap ((A₂, matO (.str S t1) pat pos lim li A₁) :: (A₁, tupO (rawInt b :: rawInt e :: sp)) :: news))
  (hsz : e - b ≤ 1000000) (hsl : (⟨S.cps.extract b e⟩ : Str).length ≤ sizeLine) (U : Unesc (Txt.slice (⟨S.cps.extract b e⟩ : Str) (some 1) none) r)
  (hQ : ∀ h' t' tk', Fr h₀ L h' (tM S ts p tp n tn (some (.ref A₂)) (some (.str r t')) qo eo po) → News h₀ L h' ((A₂, matO (.str S t1) pat pos lim li A₁) :: (A₁, tupO (rawInt b :: rawInt e :: sp)) :: news) → Q .next { s with heap := h', toks := tk' }) :
  wpAny (model pw w) (ar dp un gd fr) (exec (stB 5 0) (envOf nK (scopeOf nK) L a cd)) Q noE s := by
  change wpAny _ _ (exec (Stmt.Assign _ _ _) _) Q noE s
  repeat' walk1
  exact hQ _ _ _ (fr_eq (by assumption) tM_value) (by assumption)
theorem v9_0 {Q : Flow → Shared → Prop} (hd : dp ≤ 380) (hu : un ≤ 80) (F : Fr h₀ L s.heap (tM S ts p tp n tn (some (.ref A₂)) vo qo eo po)) (X : (KX w.params).In h₀) (T : Top q loose mean mg mb h₀)
  (N : News h₀ L s.heap ((A₂, matO (.str S t1) pat pos lim li A₁) :: (A₁, tupO (rawInt b :: rawInt e :: sp)) :: news))
  (hsz : e - b ≤ 1000000) 
  (hQ : ∀ h' t' tk', Fr h₀ L h' (tM S ts p tp n tn (some (.ref A₂)) (some (.str (⟨S.cps.extract b e⟩ : Str) t')) qo eo po) → News h₀ L h' ((A₂, matO (.str S t1) pat pos lim li A₁) :: (A₁, tupO (rawInt b :: rawInt e :: sp)) :: news) → Q .next { s with heap := h', toks := tk' }) :
  wpAny (model pw w) (ar dp un gd fr) (exec (stB 9 0) (envOf nK (scopeOf nK) L a cd)) Q noE s := by
  change wpAny _ _ (exec (Stmt.Assign _ _ _) _) Q noE s
  repeat' walk1
  exact hQ _ _ _ (fr_eq (by assumption) tM_value) (by assumption)
end
end Mine
end

section
open PySem PySem.W PyProof.Rows PySem.Calls
set_option Elab.async false
set_option maxRecDepth 100000
set_option maxHeartbeats 4000000
set_option linter.unusedVariables false
set_option pp.deepTerms false
set_option pp.maxSteps 3000
namespace Mine
abbrev qD : List (Str × Value) := [("'", .ref 43), ("\"", .ref 48)]
theorem dict_179 {w : World} {h : Heap} (X : (KX w.params).In h) : h.DictOf (strKind pw w) 179 qD := by
  refine ⟨_, _, _, X 179 _ rfl, ⟨rfl, rfl, rfl⟩, rfl, ?_, ?_, by decide⟩
  · intro e he
    simp only [List.mem_toArray, List.mem_cons, List.not_mem_nil, or_false] at he
    rcases he with rfl | rfl
    · exact ⟨_, strKind_is pw w _ _, rfl⟩
    · exact ⟨_, strKind_is pw w _ _, rfl⟩
  · exact .cons (strKind_is pw w _ _) rfl (.cons (strKind_is pw w _ _) rfl .nil)
section
variable {w : World} {dp un : Nat} {gd : Option (List Code)} {fr : Option (List Env)} {s : Shared} {h₀ : Heap} {L a : Addr} {cd : Value} {q : Program} {loose : List Str} {mean : ExcName → Option Value} {mg mb : Str → Option Value}
  {S : Str} {ts tp tn : Tok} {p n : Int} {mo vo qo eo po : Option Value} {d e b : Nat} {ex : Bool} {W : List Nat} {news : List (Addr × Obj)} {t1 t2 : Tok} {pat : Value} {pos lim : Nat} {li : Int} {A₁ A₂ : Addr} {sp : List Value} {V r : Str} {tv : Tok} {ad : Addr} {code : Array Nat}
theorem in_qD {A : Around} {Q : Value → Shared → Prop} {E : Value → Shared → Prop} {m : Str → Option Value} (X : (KX w.params).In h₀) (F : Fr h₀ L s.heap m) (h : Q (.bool (valueAt qD V).isSome) { s with toks := s.toks + 1 }) :
    wpAny (model pw w) A (compareOp .In (.str V t1) (.ref 179)) Q E s :=
  wpAny_in_of (strKind_is pw w V t1) (by decide) (dict_179 (X.keeps F.keep)).mapOf h
theorem item_qD {A : Around} {Q : Value → Shared → Prop} {E : Value → Shared → Prop} {m : Str → Option Value} {value slice : Expr} (X : (KX w.params).In h₀) (F : Fr h₀ L s.heap m) (hv : valueAt qD V = some (.ref ad)) (h : Q (.ref ad) { s with toks := s.toks + 1 })
    (hs : subscripted slice false (.ref 179) (.str V t1) = operate [.ref 179, .str V t1] (getItem (.ref 179) (.str V t1)) := by with_unfolding_all rfl) (hg : ∀ r, letTemporaryGo value (.ref 179) r = pure () := by intro _; with_unfolding_all rfl) :
    wpAny (model pw w) A (subscriptTail value slice (.ref 179) (.str V t1)) Q E s :=
  subscriptTail_builtin (dict_179 (X.keeps F.keep)).typeIs slot_dict_getitem.lookup (wpAny_getItem_of (strKind_is pw w V t1) (dict_179 (X.keeps F.keep)).mapOf hv h) hs hg
local macro_rules | `(tactic| walk_at "compareOp In str ref") => `(tactic| (refine in_qD (by assumption) (by assumption) ?_))
local macro_rules | `(tactic| walk_at "subscriptTail Name Name ref str") => `(tactic| (refine item_qD (by assumption) (by assumption) (by assumption) ?_))
local macro_rules | `(tactic| walk_at "subscriptTail") => `(tactic| (refine item_qD (by assumption) (by assumption) (by assumption) ?_))
local macro_rules | `(tactic| walk_at "getMethod ref") => `(tactic| (with_reducible refine getMethod_end (ref_use (by assumption)) ?_))
local macro_rules | `(tactic| walk_at "getMethod ref") => `(tactic| (with_reducible refine getMethod_group (ref_use (by assumption)) ?_))
local macro_rules | `(tactic| walk_at "getMethod ref") => `(tactic| (with_reducible refine getMethod_match (IsPat.keeps (by assumption) (Fr.keep (by assumption))) ?_))
local macro_rules | `(tactic| walk_at "call builtin:re.Pattern.match") => `(tactic| (refine MATCH (IsPat.keeps (by assumption) (Fr.keep (by assumption))) (by assumption) (by assumption) (by decide) (by assumption) (by assumption) (by omega) (by omega) ?_; dsimp only))
local macro_rules | `(tactic| walk_at "call builtin:re.Match.end") => `(tactic| (refine call_end (ref_use (by assumption)) ?_))
local macro_rules | `(tactic| walk_at "call builtin:re.Match.group") => `(tactic| (refine call_group (ref_use (by assumption)) (by assumption) ?_))
local macro_rules | `(tactic| walk_at "truthy ref") => `(tactic| (refine truthy_mat (ref_use (by assumption)) ?_))
local macro_rules | `(tactic| walk_at "call ref") => `(tactic| (first
  | (refine unesc_use (by assumption) (by assumption) (by assumption) (by assumption) (by assumption) (by assumption) (by assumption) ?_; intro h' t' tk' F' N')
  | (refine tok_use (by omega) (by omega) (by assumption) (by assumption) (by assumption) ?_; intro aa h' tk' F' N' Z')
  | (refine eof_use (by omega) (by omega) (by assumption) (by assumption) (by assumption) ?_; intro aa h' tk' F' N' Z')))
theorem q6 {Q : Flow → Shared → Prop} (F : Fr h₀ L s.heap (tM S ts p tp n tn mo vo qo eo po)) (X : (KX w.params).In h₀) (N : News h₀ L s.heap news) (T : Top q loose mean mg mb h₀)
  (hp : p = d) (hpn : p < S.length) (hS : S.length ≤ 1000000) 
  (hQ : ∀ h' t' tk', Fr h₀ L h' (tM S ts p tp n tn mo vo (some (.str (Txt.item S p) t')) eo po) → News h₀ L h' news → Q .next { s with heap := h', toks := tk' }) :
  wpAny (model pw w) (ar dp un gd fr) (exec (stT 6) (envOf nK (scopeOf nK) L a cd)) Q noE s := by
  change wpAny _ _ (exec (Stmt.Assign _ _ _) _) Q noE s
  repeat' walk1
  exact hQ _ _ _ (fr_eq (by assumption) tM_quote) (by assumption)
theorem q7 {Q : Bool → Shared → Prop} (F : Fr h₀ L s.heap (tM S ts p tp n tn mo vo (some (.str V t1)) eo po)) (X : (KX w.params).In h₀) (N : News h₀ L s.heap news) (T : Top q loose mean mg mb h₀)
  (hQ : ∀ tk', Q (valueAt qD V).isSome { s with toks := tk' }) :
  wpAny (model pw w) (ar dp un gd fr) (isTrue (ifTestOf (stT 7)) (envOf nK (scopeOf nK) L a cd) (eval (ifTestOf (stT 7)) (envOf nK (scopeOf nK) L a cd))) Q noE s := by
  change wpAny _ _ (PySem.isTrue (Expr.Compare _ _ _ _) _ _) Q noE s
  repeat' walk1
  exact hQ _
theorem q10 {Q : Flow → Shared → Prop} (F : Fr h₀ L s.heap (tM S ts p tp n tn mo vo qo eo po)) (X : (KX w.params).In h₀) (N : News h₀ L s.heap news) (T : Top q loose mean mg mb h₀)
  (hp : p = d) (hpn : p < S.length) (hS : S.length ≤ 1000000) 
  (hQ : ∀ h' t' tk', Fr h₀ L h' (tM S ts p tp n tn mo vo qo eo (some (.int (p + 2) t'))) → News h₀ L h' news → Q .next { s with heap := h', toks := tk' }) :
  wpAny (model pw w) (ar dp un gd fr) (exec (stT 10) (envOf nK (scopeOf nK) L a cd)) Q noE s := by
  change wpAny _ _ (exec (Stmt.Assign _ _ _) _) Q noE s
  repeat' walk1
  exact hQ _ _ _ (fr_eq (by assumption) tM_pos2) (by assumption)
theorem q11 {Q : Bool → Shared → Prop} (F : Fr h₀ L s.heap (tM S ts p tp n tn mo vo qo eo (some (.int (p+2) t1)))) (X : (KX w.params).In h₀) (N : News h₀ L s.heap news) (T : Top q loose mean mg mb h₀)
  (hp : p = d) (hpn : p < S.length) (hS : S.length ≤ 1000000) 
  (hQ : ∀ h' tk', Fr h₀ L h' (tM S ts p tp n tn mo vo qo eo (some (.int (p+2) t1))) → News h₀ L h' news → Q (Txt.slice S (some p) (some (p + 2)) == Str.ofString "/*") { s with heap := h', toks := tk' }) :
  wpAny (model pw w) (ar dp un gd fr) (isTrue (ifTestOf (stT 11)) (envOf nK (scopeOf nK) L a cd) (eval (ifTestOf (stT 11)) (envOf nK (scopeOf nK) L a cd))) Q noE s := by
  change wpAny _ _ (PySem.isTrue (Expr.Compare _ _ _ _) _ _) Q noE s
  repeat' walk1
  exact hQ _ _ (by assumption) (by assumption)
theorem b11_0 {Q : Flow → Shared → Prop} (F : Fr h₀ L s.heap (tM S ts p tp n tn mo vo qo eo (some (.int (p+2) t1)))) (X : (KX w.params).In h₀) (N : News h₀ L s.heap news) (T : Top q loose mean mg mb h₀)
  (hp : p = d) (hpn : p < S.length) (hS : S.length ≤ 1000000)
  (hQ : ∀ h' t' tk', Fr h₀ L h' (tM S ts (Txt.find3 S (Str.ofString "*/") (p + 2)) t' n tn mo vo qo eo (some (.int (p+2) t1))) → News h₀ L h' news → Q .next { s with heap := h', toks := tk' }) :
  wpAny (model pw w) (ar dp un gd fr) (exec (stB 11 0) (envOf nK (scopeOf nK) L a cd)) Q noE s := by
  change wpAny _ _ (exec (Stmt.Assign _ _ _) _) Q noE s
  repeat' walk1
  exact hQ _ _ _ (fr_eq (by assumption) tM_pos) (by assumption)
theorem b11_1_no {Q : Flow → Shared → Prop} (F : Fr h₀ L s.heap (tM S ts (-1) tp n tn mo vo qo eo po)) (X : (KX w.params).In h₀) (N : News h₀ L s.heap news) (T : Top q loose mean mg mb h₀)
  (hn : n ≤ 1000000)
  (hQ : ∀ h' t' tk', Fr h₀ L h' (tM S ts n t' n tn mo vo qo eo po) → News h₀ L h' news → Q .next { s with heap := h', toks := tk' }) :
  wpAny (model pw w) (ar dp un gd fr) (exec (stB 11 1) (envOf nK (scopeOf nK) L a cd)) Q noE s := by
  change wpAny _ _ (exec (Stmt.If _ _ _ _) _) Q noE s
  repeat' walk1
  exact hQ _ _ _ (fr_eq (by assumption) tM_pos) (by assumption)
theorem b11_1_yes {Q : Flow → Shared → Prop} (F : Fr h₀ L s.heap (tM S ts p tp n tn mo vo qo eo po)) (X : (KX w.params).In h₀) (N : News h₀ L s.heap news) (T : Top q loose mean mg mb h₀)
  (hp : p ≤ 1000000) (hp0 : 0 ≤ p)
  (hQ : ∀ h' t' tk', Fr h₀ L h' (tM S ts (p + 2) t' n tn mo vo qo eo po) → News h₀ L h' news → Q .next { s with heap := h', toks := tk' }) :
  wpAny (model pw w) (ar dp un gd fr) (exec (stB 11 1) (envOf nK (scopeOf nK) L a cd)) Q noE s := by
  change wpAny _ _ (exec (Stmt.If _ _ _ _) _) Q noE s
  repeat' walk1
  · rename_i hc; exfalso; revert hc; simp; omega
  · exact hQ _ _ _ (fr_eq (by assumption) tM_pos) (by assumption)
theorem y12 {Q : Value → Shared → Prop} (hd : dp ≤ 380) (hu : un ≤ 80) (F : Fr h₀ L s.heap (tM S ts p tp n tn mo vo qo eo po)) (X : (KX w.params).In h₀) (N : News h₀ L s.heap news) (T : Top q loose mean mg mb h₀)
  (hp : p = d) (hpn : p < S.length) (hS : S.length ≤ 1000000) 
  (hQ : ∀ a h' tk' t', Fr h₀ L h' (tM S ts p tp n tn mo vo qo eo po) → News h₀ L h' news → TokAt h' a 127 "DELIM" (.str (Txt.item S p) t') p → Q (.ref a) { s with heap := h', toks := tk' }) :
  wpAny (model pw w) (ar dp un gd fr) (eval (yieldOf (stT 12)) (envOf nK (scopeOf nK) L a cd)) Q noE s := by
  change wpAny _ _ (eval (Expr.Call _ _ _ _) _) Q noE s
  repeat' walk1
  exact hQ _ _ _ _ (by assumption) (by assumption) (by assumption)
theorem b13 {Q : Flow → Shared → Prop} (F : Fr h₀ L s.heap (tM S ts p tp n tn mo vo qo eo po)) (X : (KX w.params).In h₀) (N : News h₀ L s.heap news) (T : Top q loose mean mg mb h₀)
  (hp : p ≤ 1000000) (hp0 : 0 ≤ p)
  (hQ : ∀ h' t' tk', Fr h₀ L h' (tM S ts (p + 1) t' n tn mo vo qo eo po) → News h₀ L h' news → Q .next { s with heap := h', toks := tk' }) :
  wpAny (model pw w) (ar dp un gd fr) (exec (stT 13) (envOf nK (scopeOf nK) L a cd)) Q noE s := by
  change wpAny _ _ (exec (Stmt.AugAssign _ _ _ _) _) Q noE s
  repeat' walk1
  exact hQ _ _ _ (fr_eq (by assumption) tM_pos) (by assumption)
end
end Mine
end

section
open PySem PySem.W PyProof.Rows PySem.Calls PySem.W.X
set_option Elab.async false
set_option maxRecDepth 100000
set_option maxHeartbeats 4000000
set_option pp.deepTerms false
set_option pp.maxSteps 3000
namespace Mine
theorem sub_end {Q : Value → Shared → Prop} {h h' : Heap} {news : List (Addr × Obj)} {g : Array GenState} {d : Drawn} {tk' : Nat} {os : OsState} {V r : Str} {t : Tok}
    (D : Mem h h' [] news) (e : V = r)
    (hQ : ∀ h' t' tk', (∀ b o, h.get? b = some o → h'.get? b = some o) → Q (.str r t') ⟨h', g, d, tk', os⟩) : Q (.str V t) ⟨h', g, d, tk', os⟩ := by
  subst e
  exact hQ _ _ _ (Mine.Mem.keeps' D)
local macro_rules | `(tactic| x_close) => `(tactic| (refine sub_end (r := ?r) (by assumption) ?e ?h; (case h => assumption); (case e => kernel_rfl)))
def SubOk (V r : Str) : Prop := ∀ {w : World} {gd : Option (List Code)} {fr : Option (List Env)} {Q E : Value → Shared → Prop} {h : Heap} {g : Array GenState} {d : Drawn} {t : Nat} {os : OsState} {t1 t2 : Tok}
  (X : (KX w.params).In h) (hQ : ∀ h' t' tk', (∀ b o, h.get? b = some o → h'.get? b = some o) → Q (.str r t') ⟨h', g, d, tk', os⟩),
  wpAny (model pw w) { handled := none, depth := 400, frames := fr, guards := gd, units := 100 } (PySem.call (.builtin "re.Pattern.sub") [.ref 189, .str "" t1, .str V t2]) Q E ⟨h, g, d, t, os⟩
theorem sub_0 : SubOk "t u" "t u" := by intro w gd fr Q E h g d t os t1 t2 X hQ; x_run
theorem sub_1 : SubOk "v'" "v'" := by intro w gd fr Q E h g d t os t1 t2 X hQ; x_run
theorem sub_2 : SubOk "" "" := by intro w gd fr Q E h g d t os t1 t2 X hQ; x_run
theorem sub_3 : SubOk "w\\\nx" "wx" := by intro w gd fr Q E h g d t os t1 t2 X hQ; x_run
end Mine
end

section
open PySem PySem.W PyProof.Rows PySem.Calls
set_option Elab.async false
set_option maxRecDepth 100000
set_option maxHeartbeats 4000000
set_option linter.unusedVariables false
set_option pp.deepTerms false
set_option pp.maxSteps 3000
namespace Mine
section
variable {w : World} {dp un : Nat} {gd : Option (List Code)} {fr : Option (List Env)} {s : Shared} {h₀ : Heap} {L a : Addr} {cd : Value} {q : Program} {loose : List Str} {mean : ExcName → Option Value} {mg mb : Str → Option Value}
  {S : Str} {ts tp tn : Tok} {p n : Int} {mo vo qo eo po : Option Value} {d e b : Nat} {ex : Bool} {W : List Nat} {news : List (Addr × Obj)} {t1 t2 : Tok} {pat : Value} {pos lim : Nat} {li : Int} {A₁ A₂ : Addr} {sp : List Value} {V r : Str} {tv : Tok} {ad : Addr} {code : Array Nat}
local macro_rules | `(tactic| walk_at "subscriptTail Name Name ref str") => `(tactic| (refine item_qD (by assumption) (by assumption) (by assumption) ?_))
local macro_rules | `(tactic| walk_at "subscriptTail") => `(tactic| (refine item_qD (by assumption) (by assumption) (by assumption) ?_))
local macro_rules | `(tactic| walk_at "getMethod ref") => `(tactic| (with_reducible refine getMethod_end (ref_use (by assumption)) ?_))
local macro_rules | `(tactic| walk_at "getMethod ref") => `(tactic| (with_reducible refine getMethod_group (ref_use (by assumption)) ?_))
local macro_rules | `(tactic| walk_at "getMethod ref") => `(tactic| (with_reducible refine getMethod_match (IsPat.keeps (by assumption) (Fr.keep (by assumption))) ?_))
local macro_rules | `(tactic| walk_at "call builtin:re.Pattern.match") => `(tactic| (refine MATCH (IsPat.keeps (by assumption) (Fr.keep (by assumption))) (by assumption) (by assumption) (by decide) (by assumption) (by assumption) (by omega) (by omega) ?_; dsimp only))
local macro_rules | `(tactic| walk_at "call builtin:re.Match.end") => `(tactic| (refine call_end (ref_use (by assumption)) ?_))
local macro_rules | `(tactic| walk_at "call builtin:re.Match.group") => `(tactic| (refine call_group (ref_use (by assumption)) (by assumption) ?_))
local macro_rules | `(tactic| walk_at "truthy ref") => `(tactic| (refine truthy_mat (ref_use (by assumption)) ?_))
local macro_rules | `(tactic| walk_at "call ref") => `(tactic| (first
  | (refine unesc_use (by assumption) (by assumption) (by assumption) (by assumption) (by assumption) (by assumption) (by assumption) ?_; intro h' t' tk' F' N')
  | (refine tok_use (by omega) (by omega) (by assumption) (by assumption) (by assumption) ?_; intro aa h' tk' F' N' Z')
  | (refine eof_use (by omega) (by omega) (by assumption) (by assumption) (by assumption) ?_; intro aa h' tk' F' N' Z')))
theorem getMethod_sub {A : Around} {E : Value → Shared → Prop} {g : Nat} {pl : Sem Bool} {Q : Value × List Value → Shared → Prop} {a : Addr} {prog : Program} (x : IsPat s.heap a code g) (h : Q (.builtin "re.Pattern.sub", [.ref a]) s) :
    wpAny (model prog w) A (getMethod (.ref a) "sub" pl) Q E s := by
  refine getMethod_builtin x.typeIs pa_pat slot_sub type_sub (fun b e => ?_) h
  cases e
  obtain ⟨p, f, gi, gn, W, items, n, sl, h1, _⟩ := x.at_
  exact ⟨_, h1, rfl⟩
theorem sub_use {Q E : Value → Shared → Prop} {m : Str → Option Value} (hd : dp ≤ 400) (hu : un ≤ 100) (X : (KX w.params).In h₀) (F : Fr h₀ L s.heap m) (N : News h₀ L s.heap news)
    (U : SubOk V r) (hQ : ∀ h' t' tk', Fr h₀ L h' m → News h₀ L h' news → Q (.str r t') { s with heap := h', toks := tk' }) :
    wpAny (model pw w) (ar dp un gd fr) (call (.builtin "re.Pattern.sub") [.ref 189, .str "" t1, .str V t2]) Q E s :=
  ar_mono hd hu (U (X.keeps F.keep) fun h' t' tk' hk => hQ h' t' tk' ⟨F.ns.keeps hk, fun b o e => hk b o (F.keep b o e), F.above⟩ fun p hp => ⟨hk _ _ (N p hp).1, (N p hp).2⟩)
local macro_rules | `(tactic| walk_at "getMethod ref") => `(tactic| (with_reducible refine getMethod_sub (IsPat.keeps (by assumption) (Fr.keep (by assumption))) ?_))
local macro_rules | `(tactic| walk_at "call builtin:re.Pattern.sub") => `(tactic| (refine sub_use (by omega) (by omega) (by assumption) (by assumption) (by assumption) (by assumption) ?_; intro h' t' tk' F' N'))
theorem s0_some {Q : Flow → Shared → Prop} (F : Fr h₀ L s.heap (tM S ts p tp n tn mo vo (some (.str V t1)) eo po)) (X : (KX w.params).In h₀) (N : News h₀ L s.heap news) (T : Top q loose mean mg mb h₀)
  (hp : p + 1 = d) (hS : S.cps.size ≤ 1000000) (P : IsPat h₀ ad code 2) (hv : valueAt qD V = some (.ref ad)) (H : Win d S.cps S.cps.size ex W) (hl : look ex code 2 W = some (some e))
  (hQ : ∀ h' tk' A₂ A₁ pos lim li sp, Fr h₀ L h' (tM S ts p tp n tn (some (.ref A₂)) vo (some (.str V t1)) eo po) → News h₀ L h' ((A₂, matO (.str S ts) (.ref ad) pos lim li A₁) :: (A₁, tupO (rawInt d :: rawInt (d + e : Nat) :: sp)) :: news) → AllLt A₁ news → AllLt A₂ news → Q .next { s with heap := h', toks := tk' }) :
  wpAny (model pw w) (ar dp un gd fr) (exec (stB 7 0) (envOf nK (scopeOf nK) L a cd)) Q noE s := by
  change wpAny _ _ (exec (Stmt.Assign _ _ _) _) Q noE s
  repeat' walk1
  all_goals refine hQ _ _ _ _ _ _ _ _ (fr_eq (by assumption) tM_match) (by assumption) (by assumption) (by assumption)
theorem s1 {Q : Flow → Shared → Prop} (F : Fr h₀ L s.heap (tM S ts p tp n tn (some (.ref A₂)) vo qo eo po)) (X : (KX w.params).In h₀) (T : Top q loose mean mg mb h₀)
  (N : News h₀ L s.heap ((A₂, matO (.str S t1) pat pos lim li A₁) :: (A₁, tupO (rawInt b :: rawInt e :: sp)) :: news))
  (hQ : ∀ tk', Q .next { s with toks := tk' }) :
  wpAny (model pw w) (ar dp un gd fr) (exec (stB 7 1) (envOf nK (scopeOf nK) L a cd)) Q noE s := by
  change wpAny _ _ (exec (Stmt.Assert _ _ _) _) Q noE s
  repeat' walk1
  all_goals exact hQ _
theorem s2 {Q : Flow → Shared → Prop} (F : Fr h₀ L s.heap (tM S ts p tp n tn (some (.ref A₂)) vo qo eo po)) (X : (KX w.params).In h₀) (T : Top q loose mean mg mb h₀)
  (N : News h₀ L s.heap ((A₂, matO (.str S t1) pat pos lim li A₁) :: (A₁, tupO (rawInt b :: rawInt e :: sp)) :: news))
  (hQ : ∀ h' t' tk', Fr h₀ L h' (tM S ts p tp n tn (some (.ref A₂)) vo qo (some (.int e t')) po) → News h₀ L h' ((A₂, matO (.str S t1) pat pos lim li A₁) :: (A₁, tupO (rawInt b :: rawInt e :: sp)) :: news) → Q .next { s with heap := h', toks := tk' }) :
  wpAny (model pw w) (ar dp un gd fr) (exec (stB 7 2) (envOf nK (scopeOf nK) L a cd)) Q noE s := by
  change wpAny _ _ (exec (Stmt.Assign _ _ _) _) Q noE s
  repeat' walk1
  exact hQ _ _ _ (fr_eq (by assumption) tM_end) (by assumption)
theorem s3 {Q : Flow → Shared → Prop} (F : Fr h₀ L s.heap (tM S ts p tp n tn mo vo qo (some (.int e t1)) po)) (X : (KX w.params).In h₀) (T : Top q loose mean mg mb h₀) (N : News h₀ L s.heap news)
  (he : (e : Int) ≠ n) (hQ : ∀ tk', Q .next { s with toks := tk' }) :
  wpAny (model pw w) (ar dp un gd fr) (exec (stB 7 3) (envOf nK (scopeOf nK) L a cd)) Q noE s := by
  change wpAny _ _ (exec (Stmt.If _ _ _ _) _) Q noE s
  repeat' walk1
  all_goals first | contradiction | exact hQ s.toks | exact hQ _
theorem s4 {Q : Flow → Shared → Prop} (F : Fr h₀ L s.heap (tM S ts p tp n tn mo vo (some (.str V t2)) (some (.int e t1)) po)) (X : (KX w.params).In h₀) (T : Top q loose mean mg mb h₀) (N : News h₀ L s.heap news)
  (hS : S.length ≤ 1000000) (he : e < S.length) (hv : (Txt.item S e == V) = true) (hQ : ∀ tk', Q .next { s with toks := tk' }) :
  wpAny (model pw w) (ar dp un gd fr) (exec (stB 7 4) (envOf nK (scopeOf nK) L a cd)) Q noE s := by
  change wpAny _ _ (exec (Stmt.If _ _ _ _) _) Q noE s
  repeat' walk1
  all_goals first | contradiction | exact hQ s.toks | exact hQ _
theorem v7_5 {Q : Flow → Shared → Prop} (hd : dp ≤ 380) (hu : un ≤ 80) (F : Fr h₀ L s.heap (tM S ts p tp n tn (some (.ref A₂)) vo qo eo po)) (X : (KX w.params).In h₀) (T : Top q loose mean mg mb h₀)
  (N : News h₀ L s.heap ((A₂, matO (.str S t1) pat pos lim li A₁) :: (A₁, tupO (rawInt b :: rawInt e :: sp)) :: news))
  (hsz : e - b ≤ 1000000) (P : IsPat h₀ 189 cNl 0) (Z : SubOk (⟨S.cps.extract b e⟩ : Str) V) (U : Unesc V r)
  (hQ : ∀ h' t' tk', Fr h₀ L h' (tM S ts p tp n tn (some (.ref A₂)) (some (.str r t')) qo eo po) → News h₀ L h' ((A₂, matO (.str S t1) pat pos lim li A₁) :: (A₁, tupO (rawInt b :: rawInt e :: sp)) :: news) → Q .next { s with heap := h', toks := tk' }) :
  wpAny (model pw w) (ar dp un gd fr) (exec (stB 7 5) (envOf nK (scopeOf nK) L a cd)) Q noE s := by
  change wpAny _ _ (exec (Stmt.Assign _ _ _) _) Q noE s
  repeat' walk1
  exact hQ _ _ _ (fr_eq (by assumption) tM_value) (by assumption)
theorem y7_6 {Q : Value → Shared → Prop} (hd : dp ≤ 380) (hu : un ≤ 80) (F : Fr h₀ L s.heap (tM S ts p tp n tn mo (some (.str V tv)) qo eo po)) (X : (KX w.params).In h₀) (N : News h₀ L s.heap news) (T : Top q loose mean mg mb h₀)
  (hQ : ∀ a h' tk' t', Fr h₀ L h' (tM S ts p tp n tn mo (some (.str V tv)) qo eo po) → News h₀ L h' news → TokAt h' a 127 "STRING" (.str V t') p → Q (.ref a) { s with heap := h', toks := tk' }) :
  wpAny (model pw w) (ar dp un gd fr) (eval (yieldOf (stB 7 6)) (envOf nK (scopeOf nK) L a cd)) Q noE s := by
  change wpAny _ _ (eval (Expr.Call _ _ _ _) _) Q noE s
  repeat' walk1
  exact hQ _ _ _ _ (by assumption) (by assumption) (by assumption)
theorem e7_7 {Q : Flow → Shared → Prop} (F : Fr h₀ L s.heap (tM S ts p tp n tn mo vo qo (some (.int e t1)) po)) (X : (KX w.params).In h₀) (N : News h₀ L s.heap news) (T : Top q loose mean mg mb h₀)
  (hS : e ≤ 1000000) (hQ : ∀ h' t' tk', Fr h₀ L h' (tM S ts (e + 1) t' n tn mo vo qo (some (.int e t1)) po) → News h₀ L h' news → Q .next { s with heap := h', toks := tk' }) :
  wpAny (model pw w) (ar dp un gd fr) (exec (stB 7 7) (envOf nK (scopeOf nK) L a cd)) Q noE s := by
  change wpAny _ _ (exec (Stmt.Assign _ _ _) _) Q noE s
  repeat' walk1
  exact hQ _ _ _ (fr_eq (by assumption) tM_pos) (by assumption)
theorem s3_raise {Q : Flow → Shared → Prop} {E : Value → Shared → Prop} (F : Fr h₀ L s.heap (tM S ts p tp n tn mo vo qo (some (.int e t1)) po)) (X : (KX w.params).In h₀) (T : Top q loose mean mg mb h₀) (N : News h₀ L s.heap news)
  (he : (e : Int) = n) (hp : 0 ≤ p) (hp1 : p ≤ 1000000) (hE : ∀ h' a v tk', s.heap.MadeExcOf h' a (.ref 71) [v] → E (.ref a) { s with heap := h', toks := tk' }) :
  wpAny (model pw w) (ar dp un gd fr) (exec (stB 7 3) (envOf nK (scopeOf nK) L a cd)) Q E s := by
  change wpAny _ _ (exec (Stmt.If _ _ _ _) _) Q E s
  repeat' walk1
  all_goals first | contradiction | exact hE _ _ _ _ (by assumption)
theorem s4_raise {Q : Flow → Shared → Prop} {E : Value → Shared → Prop} (F : Fr h₀ L s.heap (tM S ts p tp n tn mo vo (some (.str V t2)) (some (.int e t1)) po)) (X : (KX w.params).In h₀) (T : Top q loose mean mg mb h₀) (N : News h₀ L s.heap news)
  (hp : 0 ≤ p) (hp1 : p ≤ 1000000) (hS : S.length ≤ 1000000) (he : e < S.length) (hv : (Txt.item S e == V) = false) (hE : ∀ h' a v tk', s.heap.MadeExcOf h' a (.ref 71) [v] → E (.ref a) { s with heap := h', toks := tk' }) :
  wpAny (model pw w) (ar dp un gd fr) (exec (stB 7 4) (envOf nK (scopeOf nK) L a cd)) Q E s := by
  change wpAny _ _ (exec (Stmt.If _ _ _ _) _) Q E s
  repeat' walk1
  all_goals first | contradiction | exact hE _ _ _ _ (by assumption) | (exfalso; rename_i hx _; simp only [bne, hv] at hx; exact absurd hx (by decide)) | (exfalso; simp_all [bne])
end
end Mine
end

section
open PySem PySem.W PyProof.Rows PySem.Calls
set_option Elab.async false
set_option maxRecDepth 100000
set_option maxHeartbeats 4000000
set_option linter.unusedVariables false
set_option pp.deepTerms false
set_option pp.maxSteps 3000
namespace Mine
def bd (i : Nat) : Stmt := (bodyOf nK).getD i (.Pass ⟨0,0,0,0⟩)
theorem body_eq : bodyOf nK = [bd 0, bd 1, bd 2, bd 3, bd 4, bd 5] := by kernel_rfl
def wposOf : Stmt → Pos | .While _ _ _ p => p | _ => ⟨0,0,0,0⟩
theorem bd3_eq : bd 3 = .While (testOf nK) (turnOf nK) [] (wposOf (bd 3)) := by kernel_rfl
theorem bd5_eq : bd 5 = .Expr (.Yield (some (yieldOf (bd 5))) (yposOf (bd 5))) (posOf (bd 5)) := by kernel_rfl
theorem st12_eq : stT 12 = .Expr (.Yield (some (yieldOf (stT 12))) (yposOf (stT 12))) (posOf (stT 12)) := by kernel_rfl
theorem sb10_eq : stB 1 0 = .Expr (.Yield (some (yieldOf (stB 1 0))) (yposOf (stB 1 0))) (posOf (stB 1 0)) := by kernel_rfl
theorem sb31_eq : stB 3 1 = .Expr (.Yield (some (yieldOf (stB 3 1))) (yposOf (stB 3 1))) (posOf (stB 3 1)) := by kernel_rfl
theorem sb51_eq : stB 5 1 = .Expr (.Yield (some (yieldOf (stB 5 1))) (yposOf (stB 5 1))) (posOf (stB 5 1)) := by kernel_rfl
theorem sb76_eq : stB 7 6 = .Expr (.Yield (some (yieldOf (stB 7 6))) (yposOf (stB 7 6))) (posOf (stB 7 6)) := by kernel_rfl
theorem sb91_eq : stB 9 1 = .Expr (.Yield (some (yieldOf (stB 9 1))) (yposOf (stB 9 1))) (posOf (stB 9 1)) := by kernel_rfl
section
variable {w : World} {dp un : Nat} {gd : Option (List Code)} {fr : Option (List Env)} {s : Shared} {h₀ : Heap} {L a : Addr} {cd : Value} {q : Program} {loose : List Str} {mean : ExcName → Option Value} {mg mb : Str → Option Value}
  {S : Str} {ts tp tn : Tok} {p n : Int} {mo vo qo eo po : Option Value} {d e b : Nat} {ex : Bool} {W : List Nat} {news : List (Addr × Obj)} {t1 t2 : Tok} {pat : Value} {pos lim : Nat} {li : Int} {A₁ A₂ : Addr} {sp : List Value} {V r : Str} {tv : Tok} {ad : Addr} {code : Array Nat}
local macro_rules | `(tactic| walk_at "call ref") => `(tactic| (first
  | (refine tok_use (by omega) (by omega) (by assumption) (by assumption) (by assumption) ?_; intro aa h' tk' F' N' Z')
  | (refine eof_use (by omega) (by omega) (by assumption) (by assumption) (by assumption) ?_; intro aa h' tk' F' N' Z')))
local macro_rules | `(tactic| walk_at "getMethod ref") => `(tactic| (with_reducible refine getMethod_group (ref_use (by assumption)) ?_))
local macro_rules | `(tactic| walk_at "getMethod ref") => `(tactic| (with_reducible refine getMethod_end (ref_use (by assumption)) ?_))
local macro_rules | `(tactic| walk_at "call builtin:re.Match.end") => `(tactic| (refine call_end (ref_use (by assumption)) ?_))
theorem y5_1 {Q : Value → Shared → Prop} (hd : dp ≤ 380) (hu : un ≤ 80) (F : Fr h₀ L s.heap (tM S ts p tp n tn mo (some (.str V tv)) qo eo po)) (X : (KX w.params).In h₀) (N : News h₀ L s.heap news) (T : Top q loose mean mg mb h₀)
  (hQ : ∀ a h' tk' t', Fr h₀ L h' (tM S ts p tp n tn mo (some (.str V tv)) qo eo po) → News h₀ L h' news → TokAt h' a 127 "HASH" (.str V t') p → Q (.ref a) { s with heap := h', toks := tk' }) :
  wpAny (model pw w) (ar dp un gd fr) (eval (yieldOf (stB 5 1)) (envOf nK (scopeOf nK) L a cd)) Q noE s := by
  change wpAny _ _ (eval (Expr.Call _ _ _ _) _) Q noE s
  repeat' walk1
  exact hQ _ _ _ _ (by assumption) (by assumption) (by assumption)
theorem y9_1 {Q : Value → Shared → Prop} (hd : dp ≤ 380) (hu : un ≤ 80) (F : Fr h₀ L s.heap (tM S ts p tp n tn mo (some (.str V tv)) qo eo po)) (X : (KX w.params).In h₀) (N : News h₀ L s.heap news) (T : Top q loose mean mg mb h₀)
  (hQ : ∀ a h' tk' t', Fr h₀ L h' (tM S ts p tp n tn mo (some (.str V tv)) qo eo po) → News h₀ L h' news → TokAt h' a 127 "NUMBER" (.str V t') p → Q (.ref a) { s with heap := h', toks := tk' }) :
  wpAny (model pw w) (ar dp un gd fr) (eval (yieldOf (stB 9 1)) (envOf nK (scopeOf nK) L a cd)) Q noE s := by
  change wpAny _ _ (eval (Expr.Call _ _ _ _) _) Q noE s
  repeat' walk1
  exact hQ _ _ _ _ (by assumption) (by assumption) (by assumption)
theorem e3_2 {Q : Flow → Shared → Prop} (F : Fr h₀ L s.heap (tM S ts p tp n tn (some (.ref A₂)) vo qo eo po)) (X : (KX w.params).In h₀) (T : Top q loose mean mg mb h₀)
  (N : News h₀ L s.heap ((A₂, matO (.str S t1) pat pos lim li A₁) :: (A₁, tupO (rawInt b :: rawInt e :: sp)) :: news))
  (hQ : ∀ h' t' tk', Fr h₀ L h' (tM S ts e t' n tn (some (.ref A₂)) vo qo eo po) → News h₀ L h' ((A₂, matO (.str S t1) pat pos lim li A₁) :: (A₁, tupO (rawInt b :: rawInt e :: sp)) :: news) → Q .next { s with heap := h', toks := tk' }) :
  wpAny (model pw w) (ar dp un gd fr) (exec (stB 3 2) (envOf nK (scopeOf nK) L a cd)) Q noE s := by
  change wpAny _ _ (exec (Stmt.Assign _ _ _) _) Q noE s
  repeat' walk1
  exact hQ _ _ _ (fr_eq (by assumption) tM_pos) (by assumption)
theorem e5_2 {Q : Flow → Shared → Prop} (F : Fr h₀ L s.heap (tM S ts p tp n tn (some (.ref A₂)) vo qo eo po)) (X : (KX w.params).In h₀) (T : Top q loose mean mg mb h₀)
  (N : News h₀ L s.heap ((A₂, matO (.str S t1) pat pos lim li A₁) :: (A₁, tupO (rawInt b :: rawInt e :: sp)) :: news))
  (hQ : ∀ h' t' tk', Fr h₀ L h' (tM S ts e t' n tn (some (.ref A₂)) vo qo eo po) → News h₀ L h' ((A₂, matO (.str S t1) pat pos lim li A₁) :: (A₁, tupO (rawInt b :: rawInt e :: sp)) :: news) → Q .next { s with heap := h', toks := tk' }) :
  wpAny (model pw w) (ar dp un gd fr) (exec (stB 5 2) (envOf nK (scopeOf nK) L a cd)) Q noE s := by
  change wpAny _ _ (exec (Stmt.Assign _ _ _) _) Q noE s
  repeat' walk1
  exact hQ _ _ _ (fr_eq (by assumption) tM_pos) (by assumption)
theorem e9_2 {Q : Flow → Shared → Prop} (F : Fr h₀ L s.heap (tM S ts p tp n tn (some (.ref A₂)) vo qo eo po)) (X : (KX w.params).In h₀) (T : Top q loose mean mg mb h₀)
  (N : News h₀ L s.heap ((A₂, matO (.str S t1) pat pos lim li A₁) :: (A₁, tupO (rawInt b :: rawInt e :: sp)) :: news))
  (hQ : ∀ h' t' tk', Fr h₀ L h' (tM S ts e t' n tn (some (.ref A₂)) vo qo eo po) → News h₀ L h' ((A₂, matO (.str S t1) pat pos lim li A₁) :: (A₁, tupO (rawInt b :: rawInt e :: sp)) :: news) → Q .next { s with heap := h', toks := tk' }) :
  wpAny (model pw w) (ar dp un gd fr) (exec (stB 9 2) (envOf nK (scopeOf nK) L a cd)) Q noE s := by
  change wpAny _ _ (exec (Stmt.Assign _ _ _) _) Q noE s
  repeat' walk1
  exact hQ _ _ _ (fr_eq (by assumption) tM_pos) (by assumption)
theorem tt {Q : Bool → Shared → Prop} (F : Fr h₀ L s.heap (tM S ts p tp n tn mo vo qo eo po)) (X : (KX w.params).In h₀) (N : News h₀ L s.heap news) (T : Top q loose mean mg mb h₀)
  (hQ : ∀ tk', Q (decide (p < n)) { s with toks := tk' }) :
  wpAny (model pw w) (ar dp un gd fr) (isTrue (testOf nK) (envOf nK (scopeOf nK) L a cd) (eval (testOf nK) (envOf nK (scopeOf nK) L a cd))) Q noE s := by
  change wpAny _ _ (PySem.isTrue (Expr.Compare _ _ _ _) _ _) Q noE s
  repeat' walk1
  exact hQ _
abbrev tS (S : Str) (ts : Tok) : Str → Option Value := fun y => if y = "s" then some (.str S ts) else none
abbrev NoNul (S : Str) : Prop := (Builtin.Str.occurrences S (Str.ofString "\x00") 0 S.length (S.length + 1)).isEmpty = true
theorem replace_none {A : Around} {Q E : Value → Shared → Prop} {t u v : Tok} {z : Str} (h : NoNul S) (hq : Q (.str S t) s) :
    wpAny (model pw w) A (call (.builtin "str.replace") [.str S t, .str (Str.ofString "\x00") u, .str z v]) Q E s := by
  refine call_gives F.slot_str_replace (typeIs_str _ _ _) F.entry_str_replace (F.args_str_replace_3 _ _ _)
    (gives_str_replace S (Str.ofString "\x00") z t u v fun hf => ?_) ?_
  · rw [h] at hf; simp at hf
  · rw [h]; exact hq
local macro_rules | `(tactic| walk_at "call builtin:str.replace") => `(tactic| (refine replace_none (by assumption) ?_))
theorem tS_s {t1 : Tok} : (fun y => if y = Str.ofString "s" then some (Value.str S t1) else tS S ts y) = tS S t1 := by
  funext y; simp only [tS]; split <;> rfl
theorem tS_end {t2 t3 : Tok} {n : Int} : (fun y => if y = Str.ofString "len_s" then some (Value.int n t3) else if y = Str.ofString "pos" then some (Value.int 0 t2) else tS S ts y) = tM S ts 0 t2 n t3 none none none none none := by
  funext y; simp only [tM, tS]; (repeat' split) <;> first | rfl | (subst_vars; first | contradiction | (exfalso; revert ‹Str.ofString _ = Str.ofString _›; decide)) | simp_all
theorem b0 {Q : Flow → Shared → Prop} (F : Fr h₀ L s.heap (tS S ts)) (X : (KX w.params).In h₀) (N : News h₀ L s.heap news) (T : Top q loose mean mg mb h₀) (hS : NoNul S)
  (hQ : ∀ h' tk', Fr h₀ L h' (tS S ts) → News h₀ L h' news → Q .next { s with heap := h', toks := tk' }) :
  wpAny (model pw w) (ar dp un gd fr) (exec (bd 0) (envOf nK (scopeOf nK) L a cd)) Q noE s := by
  change wpAny _ _ (exec (Stmt.Assign _ _ _) _) Q noE s
  repeat' walk1
  exact hQ _ _ (fr_eq (by assumption) tS_s) (by assumption)
theorem b1 {Q : Flow → Shared → Prop} {m} (F : Fr h₀ L s.heap m) (X : (KX w.params).In h₀) (N : News h₀ L s.heap news) (T : Top q loose mean mg mb h₀) 
  (hQ : ∀ h' t tk', Fr h₀ L h' (fun y => if y = Str.ofString "pos" then some (Value.int 0 t) else m y) → News h₀ L h' news → Q .next { s with heap := h', toks := tk' }) :
  wpAny (model pw w) (ar dp un gd fr) (exec (bd 1) (envOf nK (scopeOf nK) L a cd)) Q noE s := by
  change wpAny _ _ (exec (Stmt.Assign _ _ _) _) Q noE s
  repeat' walk1
  exact hQ _ _ _ (by assumption) (by assumption)
theorem b2 {Q : Flow → Shared → Prop} {t2} (F : Fr h₀ L s.heap (fun y => if y = Str.ofString "pos" then some (Value.int 0 t2) else tS S ts y)) (X : (KX w.params).In h₀) (N : News h₀ L s.heap news) (T : Top q loose mean mg mb h₀) (hS : S.length ≤ 1000000)
  (hQ : ∀ h' t1 t2 t3 tk', Fr h₀ L h' (tM S t1 0 t2 (S.length : Nat) t3 none none none none none) → News h₀ L h' news → Q .next { s with heap := h', toks := tk' }) :
  wpAny (model pw w) (ar dp un gd fr) (exec (bd 2) (envOf nK (scopeOf nK) L a cd)) Q noE s := by
  change wpAny _ _ (exec (Stmt.Assign _ _ _) _) Q noE s
  repeat' walk1
  exact hQ _ _ _ _ _ (fr_eq (by assumption) tS_end) (by assumption)
theorem b4 {Q : Flow → Shared → Prop} (F : Fr h₀ L s.heap (tM S ts p tp n tn mo vo qo eo po)) (X : (KX w.params).In h₀) (N : News h₀ L s.heap news) (T : Top q loose mean mg mb h₀) (hp : p = n)
  (hQ : ∀ tk', Q .next { s with toks := tk' }) :
  wpAny (model pw w) (ar dp un gd fr) (exec (bd 4) (envOf nK (scopeOf nK) L a cd)) Q noE s := by
  change wpAny _ _ (exec (Stmt.Assert _ _ _) _) Q noE s
  repeat' walk1
  all_goals first | contradiction | exact hQ s.toks | exact hQ _
theorem y5 {Q : Value → Shared → Prop} (hd : dp ≤ 380) (hu : un ≤ 80) (F : Fr h₀ L s.heap (tM S ts p tp n tn mo vo qo eo po)) (X : (KX w.params).In h₀) (N : News h₀ L s.heap news) (T : Top q loose mean mg mb h₀)
  (hQ : ∀ a h' tk', Fr h₀ L h' (tM S ts p tp n tn mo vo qo eo po) → News h₀ L h' news → TokAt h' a 155 "EOF" .none p → Q (.ref a) { s with heap := h', toks := tk' }) :
  wpAny (model pw w) (ar dp un gd fr) (eval (yieldOf (bd 5)) (envOf nK (scopeOf nK) L a cd)) Q noE s := by
  change wpAny _ _ (eval (Expr.Call _ _ _ _) _) Q noE s
  repeat' walk1
  exact hQ _ _ _ (by assumption) (by assumption) (by assumption)
end
end Mine
end

section
open PySem PySem.W PyProof.Rows PySem.Calls
set_option Elab.async false
set_option maxRecDepth 100000
set_option maxHeartbeats 4000000
set_option linter.unusedVariables false
set_option pp.deepTerms false
set_option pp.maxSteps 3000
namespace Mine
section
variable {M : Model} {A A' : Around} {R : GenEnd} {Y : Protocol} {n : Nat} {s₀ s : Shared} {c : Code} {fs : List Frame} {env : Env} {K : Flow → Sem Fin} {H : Value → Sem Fin}
/-- the statements of one turn, with what comes behind them -/
abbrev SegK (M : Model) (A : Around) (R : GenEnd) (Y : Protocol) (n : Nat) (s₀ : Shared) (c : Code) (fs : List Frame) (env : Env) (H : Value → Sem Fin) (K : Flow → Sem Fin) (b : List Stmt) (s : Shared) : Prop :=
  Seg M A R Y n s₀ c ((execs b env).wrap K H id id) fs s
abbrev andThen (env : Env) (H : Value → Sem Fin) (K : Flow → Sem Fin) (rest : List Stmt) : Flow → Sem Fin := fun f => match f with | .next => (execs rest env).wrap K H id id | f => K f
theorem sk_stmt {st : Stmt} {rest : List Stmt} (hA : A.over c fs = A') (h : wpAny M A' (exec st env) (fun f s' => f = .next ∧ SegK M A R Y n s₀ c fs env H K rest s') noE s) : SegK M A R Y n s₀ c fs env H K (st :: rest) s := by
  refine seg_execs_cons (seg_wrap ?_)
  rw [hA]
  exact wpAny_mono h (fun f s' hf => by obtain ⟨rfl, hf⟩ := hf; exact hf) fun _ _ x => x.elim
theorem sk_raise {st : Stmt} {rest : List Stmt} (hA : A.over c fs = A') (h : wpAny M A' (exec st env) (fun f s' => False) (fun e s' => Seg M A R Y n s₀ c (H e) fs s') s) : SegK M A R Y n s₀ c fs env H K (st :: rest) s := by
  refine seg_execs_cons (seg_wrap ?_)
  rw [hA]
  exact wpAny_mono h (fun f s' hf => hf.elim) fun _ _ x => x
theorem sk_no {test : Expr} {body rest : List Stmt} {pos : Pos} (hA : A.over c fs = A') (h : wpAny M A' (isTrue test env (eval test env)) (fun b s' => b = false ∧ SegK M A R Y n s₀ c fs env H K rest s') noE s) : SegK M A R Y n s₀ c fs env H K (.If test body [] pos :: rest) s := by
  refine seg_execs_cons (seg_wrap ?_)
  rw [hA]
  refine wpAny_If (wpAny_mono h (fun b s' hb => ?_) fun _ _ x => x.elim)
  obtain ⟨rfl, hb⟩ := hb
  exact wpAny_pure hb
theorem sk_yes {test : Expr} {body orelse rest : List Stmt} {pos : Pos} (hA : A.over c fs = A') (h : wpAny M A' (isTrue test env (eval test env)) (fun b s' => b = true ∧ SegK M A R Y n s₀ c fs env H (andThen env H K rest) body s') noE s) : SegK M A R Y n s₀ c fs env H K (.If test body orelse pos :: rest) s := by
  refine seg_execs_cons ?_
  rw [exec_If]
  refine seg_at ?_
  show Seg M A R Y n s₀ c ((isTrue test env (eval test env) >>= fun b => if b = true then execs body env else execs orelse env).wrap _ H id id) fs s
  rw [Sem.bind_eq_wrap', Sem.wrap_wrap]
  refine seg_wrap ?_
  rw [hA]
  refine wpAny_mono h (fun b s' hb => ?_) fun _ _ x => x.elim
  obtain ⟨rfl, hb⟩ := hb
  exact hb
theorem sk_cont {st : Stmt} {pos : Pos} {rest : List Stmt} {c' : Code} (e : st = .Continue pos) (hK : K .cont = .pure (.again c')) (hq : c'.quiet = true) (h : Seg M A R Y n s₀ c' (M.den c') fs s) : SegK M A R Y n s₀ c fs env H K (st :: rest) s := by
  subst e
  refine seg_execs_cons (seg_wrap (wpAny_Continue ?_))
  show Seg M A R Y n s₀ c (K .cont) fs s
  rw [hK]
  exact seg_again hq h
theorem sk_yield {st : Stmt} {e : Expr} {yp pos : Pos} {rest : List Stmt} (hst : st = .Expr (.Yield (some e) yp) pos) (hA : A.over c fs = A') (hfs : splitAtGen fs = none) (hfg : fs.any Frame.guarded = false) (hco : env.scope.isCoroutine = false) (hi : interactive env = false)
    (h : wpAny M A' (eval e env) (fun v s' => ∀ kap : Resume → Shared → Prop, (∀ s'', SegK M A R Y n s'' c fs env H K rest s'' → kap (.send .none) s'') → Y n s₀ v s' kap) noE s) :
    SegK M A R Y (n + 1) s₀ c fs env H K (st :: rest) s := by
  subst hst
  refine seg_execs_cons (seg_Expr_Yield hfs rfl hfg ?_ hco hi)
  rw [hA]
  exact wpAny_mono h (fun v s' hv kap hk => hv kap fun s'' z => hk .none s'' z) fun _ _ x => x.elim
end
abbrev gEnv (L f : Addr) (cd : Value) : Env := envOf nK (scopeOf nK) L f cd
abbrev loopC (L f : Addr) (cd : Value) : Code := .whileLoop (testOf nK) (turnOf nK) [] (gEnv L f cd)
abbrev funC (L f : Addr) (cd : Value) : Code := .func (bodyOf nK) (gEnv L f cd)
abbrev HL (env : Env) : Value → Sem Fin := fun e => (do noteFrame e env; theTreesLotGoes e : Sem Unit).wrap (fun _ => .raise e) .raise id id
abbrev KL (c : Code) : Flow → Sem Fin := fun f => match f with
  | .next | .cont => .pure (.again c)
  | .brk => .pure (.done .next)
  | .ret v => .pure (.done (.ret v))
abbrev KF : Flow → Sem Fin := fun f => .pure (.done (.ret (match f with | .ret v => v | _ => .none)))
abbrev HF (env : Env) : Value → Sem Fin := fun e => («leaving» env e).wrap (fun _ => .raise e) .raise id id
abbrev kW (env : Env) : Result → Sem Fin := fun r => ((match r with | .ok f => (.pure f : Sem Flow) | .error e => .raise e).onRaise fun (x : Value) => do
        if (← field x 1) == Value.none then unsupported "frame.own-activation:exception-without-traceback"
        setFlight x env.frame).wrap (andThen env (HF env) KF [bd 4, bd 5]) (HF env) id id
abbrev fsT (L f : Addr) (cd : Value) (p : Pos) : List Frame := [.ret (kW (gEnv L f cd)) none false [] (funC L f cd) p []]
theorem over_loop {dp un : Nat} {gd : Option (List Code)} {fr : Option (List Env)} {L f : Addr} {cd : Value} {p : Pos} :
    (ar dp un gd fr).over (loopC L f cd) (fsT L f cd p) = ar (dp + 1) (un + 3) gd (pushEnvs [gEnv L f cd] fr) := by
  rfl
end Mine
end

section
open PySem PySem.W PyProof.Rows PySem.Calls
set_option Elab.async false
set_option maxRecDepth 100000
set_option maxHeartbeats 4000000
set_option linter.unusedVariables false
namespace Mine
structure Tk where
  kind : Str
  val : Option Str
  pos : Nat
def TokIs (h : Heap) (a : Addr) (k : Tk) : Prop := match k.val with
  | some V => ∃ t, TokAt h a 127 k.kind (.str V t) k.pos
  | none => TokAt h a 155 k.kind .none k.pos
def Same (s₀ s : Shared) : Prop := s.gens = s₀.gens ∧ s.drawn = s₀.drawn ∧ s.os = s₀.os
def StepG (L : Addr) (s₀ s : Shared) : Prop := (∀ b o, b ≠ L → s₀.heap.get? b = some o → s.heap.get? b = some o) ∧ Same s₀ s
theorem StepG.refl {L : Addr} {s : Shared} : StepG L s s := ⟨fun _ _ _ e => e, rfl, rfl, rfl⟩
theorem StepG.trans {L : Addr} {a b c : Shared} (x : StepG L a b) (y : StepG L b c) : StepG L a c :=
  ⟨fun b o h e => y.1 b o h (x.1 b o h e), y.2.1.trans x.2.1, y.2.2.1.trans x.2.2.1, y.2.2.2.trans x.2.2.2⟩
def newsAll (h₀ h : Heap) (L : Addr) : List (Addr × Obj) := (List.range h.objs.size).filterMap fun b => if b = L ∨ (h₀.get? b).isSome then none else (h.get? b).map (b, ·)
theorem newsAll_mem {h₀ h : Heap} {L b : Addr} {o : Obj} : (b, o) ∈ newsAll h₀ h L ↔ (b ≠ L ∧ h₀.get? b = none ∧ h.get? b = some o) := by
  unfold newsAll
  rw [List.mem_filterMap]
  constructor
  · rintro ⟨x, hx, e⟩
    split at e
    · cases e
    · rename_i hn
      obtain ⟨o', ho, e⟩ := Option.map_eq_some_iff.mp e
      cases e
      exact ⟨fun z => hn (.inl z), by simpa using fun z => hn (.inr z), ho⟩
  · rintro ⟨h1, h2, h3⟩
    refine ⟨b, List.mem_range.mpr (Heap.lt_size h3), ?_⟩
    rw [if_neg (by rintro (z | z); exact h1 z; rw [h2] at z; cases z), h3]; rfl
theorem newsAll_news {h₀ h : Heap} {L : Addr} : News h₀ L h (newsAll h₀ h L) := fun p hp => by
  obtain ⟨h1, h2, h3⟩ := newsAll_mem.mp (show (p.1, p.2) ∈ _ from hp)
  exact ⟨h3, h1, h2⟩
theorem of_newsAll {h₀ h h' : Heap} {L : Addr} {m m' : Str → Option Value} {more : List (Addr × Obj)} (F : Fr h₀ L h m) (F' : Fr h₀ L h' m') (N' : News h₀ L h' (more ++ newsAll h₀ h L)) : ∀ b o, b ≠ L → h.get? b = some o → h'.get? b = some o := by
  intro b o hb e
  cases q : h₀.get? b with
  | some o' => rw [F.keep b o' q] at e; cases e; exact F'.keep b o q
  | none => exact (N' (b, o) (List.mem_append_right _ (newsAll_mem.mpr ⟨hb, q, e⟩))).1
theorem allLt_mem {d : Addr} {l : List (Addr × Obj)} {p : Addr × Obj} (h : AllLt d l) (hp : p ∈ l) : p.1 < d := by
  induction l with
  | nil => cases hp
  | cons x r ih => rcases List.mem_cons.mp hp with rfl | hp; exact h.1; exact ih h.2 hp
def notRec (o : Obj) : Prop := ∀ vs, o.data ≠ .fields vs
/-- what is the consumer's own stands, and is no record -/
def OwnAt (own : List Addr) (h : Heap) : Prop := ∀ b ∈ own, ∃ o, h.get? b = some o ∧ notRec o
def GK (own : List Addr) (h h' : Heap) : Prop := (∀ b o, b ∉ own → h.get? b = some o → h'.get? b = some o) ∧ OwnAt own h'
/-- what the consumer is told at each yield, and what it must keep till the next waking -/
def YT (all : List Tk) (L : Addr) (own : List Addr) : Protocol := fun n s₀ v s κ =>
  ∃ a k, v = .ref a ∧ all[all.length - 1 - n]? = some k ∧ TokIs s.heap a k ∧ StepG L s₀ s ∧ (s.heap.get? L).isSome ∧ (∀ s'', GK own s.heap s''.heap → κ (.send .none) s'')
structure GC (w : World) (q : Program) (loose : List Str) (mean : ExcName → Option Value) (mg mb : Str → Option Value) (h₀ : Heap) (L : Addr) (own : List Addr) (S : Str) : Prop where
  X : (KX w.params).In h₀
  T : Top q loose mean mg mb h₀
  hS : S.cps.size ≤ 100000
  own0 : ∀ b ∈ own, h₀.get? b = none
  ownL : L ∉ own
structure At (h₀ : Heap) (L : Addr) (S : Str) (d : Nat) (news : List (Addr × Obj)) (s₀ : Shared) (mo vo qo eo po : Option Value) (s : Shared) : Prop where
  F : ∃ ts tp tn, Fr h₀ L s.heap (tM S ts d tp S.length tn mo vo qo eo po)
  N : News h₀ L s.heap news
  same : Same s₀ s
structure GS (h₀ : Heap) (L : Addr) (own : List Addr) (S : Str) (d : Nat) (s : Shared) : Prop where
  F : ∃ ts tp tn mo vo qo eo po, Fr h₀ L s.heap (tM S ts d tp S.length tn mo vo qo eo po)
  own : OwnAt own s.heap
theorem GS.at {h₀ : Heap} {L : Addr} {own : List Addr} {S : Str} {d : Nat} {s : Shared} (G : GS h₀ L own S d s) : ∃ mo vo qo eo po, At h₀ L S d (newsAll h₀ s.heap L) s mo vo qo eo po s := by
  obtain ⟨ts, tp, tn, mo, vo, qo, eo, po, F⟩ := G.F
  exact ⟨mo, vo, qo, eo, po, ⟨ts, tp, tn, F⟩, newsAll_news, rfl, rfl, rfl⟩
theorem At.step {h₀ : Heap} {L : Addr} {S : Str} {d d' : Nat} {own : List Addr} {s s' : Shared} {more : List (Addr × Obj)} {mo vo qo eo po : Option Value} (G : GS h₀ L own S d s) (A : At h₀ L S d' (more ++ newsAll h₀ s.heap L) s mo vo qo eo po s') : StepG L s s' := by
  obtain ⟨ts, tp, tn, mo', vo', qo', eo', po', F⟩ := G.F
  obtain ⟨ts', tp', tn', F'⟩ := A.F
  exact ⟨of_newsAll F F' A.N, A.same⟩
theorem At.Lsome {h₀ : Heap} {L : Addr} {S : Str} {d : Nat} {news : List (Addr × Obj)} {s₀ s : Shared} {mo vo qo eo po : Option Value} (A : At h₀ L S d news s₀ mo vo qo eo po s) : (s.heap.get? L).isSome := by
  obtain ⟨_, _, _, F⟩ := A.F
  obtain ⟨oL, _, _, hL, _⟩ := F.ns
  rw [hL]; rfl
theorem At.gs {h₀ : Heap} {L : Addr} {S : Str} {d d' : Nat} {own : List Addr} {s s' : Shared} {more : List (Addr × Obj)} {mo vo qo eo po : Option Value} (hL : L ∉ own) (G : GS h₀ L own S d s) (A : At h₀ L S d' (more ++ newsAll h₀ s.heap L) s mo vo qo eo po s') : GS h₀ L own S d' s' := by
  have st := A.step G
  obtain ⟨ts', tp', tn', F'⟩ := A.F
  refine ⟨⟨ts', tp', tn', mo, vo, qo, eo, po, F'⟩, fun b hb => ?_⟩
  obtain ⟨o, ho, hn⟩ := G.own b hb
  exact ⟨o, st.1 b o (fun e => hL (e ▸ hb)) ho, hn⟩
/-- across a yield -/
theorem Fr.gk {h₀ h h' : Heap} {L : Addr} {own : List Addr} {m : Str → Option Value} (own0 : ∀ b ∈ own, h₀.get? b = none) (hL : L ∉ own) (F : Fr h₀ L h m) (k : GK own h h') : Fr h₀ L h' m := by
  obtain ⟨oL, es, ep, a, b⟩ := F.ns
  refine ⟨⟨oL, es, ep, k.1 L oL hL a, b⟩, fun x o e => k.1 x o (fun hx => ?_) (F.keep x o e), F.above⟩
  rw [own0 x hx] at e; cases e
theorem News.gk {h₀ h h' : Heap} {L : Addr} {own : List Addr} {news : List (Addr × Obj)} (N : News h₀ L h news) (k : GK own h h') (hn : ∀ p ∈ news, p.1 ∉ own) : News h₀ L h' news := fun p hp => ⟨k.1 _ _ (hn p hp) (N p hp).1, (N p hp).2⟩
theorem own_lt {h₀ : Heap} {L : Addr} {S : Str} {d : Nat} {own : List Addr} {s : Shared} {A : Addr} (own0 : ∀ b ∈ own, h₀.get? b = none) (hL : L ∉ own) (G : GS h₀ L own S d s) (l : AllLt A (newsAll h₀ s.heap L)) : A ∉ own := fun hA => by
  obtain ⟨o, ho, _⟩ := G.own A hA
  exact Nat.lt_irrefl _ (allLt_mem l (newsAll_mem.mpr ⟨fun e => hL (e ▸ hA), own0 A hA, ho⟩))
end Mine
end

section
open PySem PySem.W PyProof.Rows PySem.Calls
set_option Elab.async false
set_option maxRecDepth 100000
set_option maxHeartbeats 1000000
set_option linter.unusedVariables false
namespace Mine
structure GP where
  w : World
  dp : Nat
  un : Nat
  gd : Option (List Code)
  fr : Option (List Env)
  R : GenEnd
  L : Addr
  f : Addr
  cd : Value
  p : Pos
  own : List Addr
  all : List Tk
  hd : dp ≤ 375
  hu : un ≤ 70
abbrev GP.env (P : GP) : Env := gEnv P.L P.f P.cd
abbrev GP.A (P : GP) : Around := ar P.dp P.un P.gd P.fr
abbrev GP.A' (P : GP) : Around := ar (P.dp + 1) (P.un + 3) P.gd (pushEnvs [gEnv P.L P.f P.cd] P.fr)
abbrev GP.c (P : GP) : Code := loopC P.L P.f P.cd
abbrev GP.fs (P : GP) : List Frame := fsT P.L P.f P.cd P.p
abbrev GP.Y (P : GP) : Protocol := YT P.all P.L P.own
abbrev Head (P : GP) (n : Nat) (s₀ s : Shared) : Prop := Seg (model pw P.w) P.A P.R P.Y n s₀ P.c ((model pw P.w).den P.c) P.fs s
abbrev SK (P : GP) (K : Flow → Sem Fin) (n : Nat) (s₀ : Shared) (b : List Stmt) (s : Shared) : Prop := SegK (model pw P.w) P.A P.R P.Y n s₀ P.c P.fs P.env (HL P.env) K b s
theorem GP.over (P : GP) : P.A.over P.c P.fs = P.A' := over_loop
theorem At.resume {h₀ : Heap} {L : Addr} {own : List Addr} {S : Str} {d : Nat} {more news : List (Addr × Obj)} {s₀ s s'' : Shared} {mo vo qo eo po : Option Value} (own0 : ∀ b ∈ own, h₀.get? b = none) (hL : L ∉ own)
    (A : At h₀ L S d (more ++ news) s₀ mo vo qo eo po s) (hm : ∀ p ∈ more, p.1 ∉ own) (gk : GK own s.heap s''.heap) : GS h₀ L own S d s'' ∧ At h₀ L S d (more ++ newsAll h₀ s''.heap L) s'' mo vo qo eo po s'' := by
  obtain ⟨ts, tp, tn, F⟩ := A.F
  have F' := Mine.Fr.gk own0 hL F gk
  refine ⟨⟨⟨ts, tp, tn, mo, vo, qo, eo, po, F'⟩, gk.2⟩, ⟨ts, tp, tn, F'⟩, ?_, rfl, rfl, rfl⟩
  intro p hp
  rcases List.mem_append.mp hp with h | h
  · exact ⟨gk.1 _ _ (hm p h) (A.N p (List.mem_append_left _ h)).1, (A.N p (List.mem_append_left _ h)).2⟩
  · exact newsAll_news p h
section
variable {P : GP} {q : Program} {loose : List Str} {mean : ExcName → Option Value} {mg mb : Str → Option Value} {h₀ : Heap} {S : Str} {n d e : Nat} {s₀ sH s : Shared} {K : Flow → Sem Fin} {rest : List Stmt} {news : List (Addr × Obj)} {mo vo qo eo po : Option Value} {ex : Bool} {W : List Nat}
theorem lenS (C : GC P.w q loose mean mg mb h₀ P.L P.own S) : S.length ≤ 100000 := C.hS
theorem head_turn (C : GC P.w q loose mean mg mb h₀ P.L P.own S) (G : GS h₀ P.L P.own S d s) (hlt : d < S.length)
    (h : ∀ s' mo vo qo eo po, At h₀ P.L S d (newsAll h₀ s.heap P.L) s mo vo qo eo po s' → SK P (KL P.c) n s₀ [stT 0, stT 1, stT 2, stT 3, stT 4, stT 5, stT 6, stT 7, stT 8, stT 9, stT 10, stT 11, stT 12, stT 13] s') : Head P n s₀ s := by
  obtain ⟨ts, tp, tn, mo, vo, qo, eo, po, F⟩ := G.F
  refine seg_whileLoop ?_
  show wpAny _ P.A' _ _ _ _
  refine wpAny_mono (tt F C.X (newsAll_news (h₀ := h₀) (h := s.heap)) C.T (Q := fun b s' => b = true ∧ SK P (KL P.c) n s₀ (turnOf nK) s') fun tk' => ?_) (fun b s' hb => ?_) fun _ _ x => x.elim
  · refine ⟨by simp; omega, ?_⟩
    rw [turnT_eq]
    exact h _ mo vo qo eo po ⟨⟨ts, tp, tn, F⟩, newsAll_news, rfl, rfl, rfl⟩
  · obtain ⟨rfl, hb⟩ := hb
    exact hb
theorem no_0 (C : GC P.w q loose mean mg mb h₀ P.L P.own S) (A : At h₀ P.L S d news sH mo vo qo eo po s) (H : Win d S.cps S.cps.size ex W) (hl : look ex cWs 0 W = some none)
    (h : ∀ s', At h₀ P.L S d news sH (some .none) vo qo eo po s' → SK P K n s₀ rest s') : SK P K n s₀ (stT 0 :: stT 1 :: rest) s := by
  obtain ⟨ts, tp, tn, F⟩ := A.F
  have hS := lenS C
  refine sk_stmt P.over (m0_none F C.X A.N C.T rfl (Nat.le_trans C.hS (by decide)) (pat_163 C.X) H hl fun h' tk' F' N' => ⟨rfl, ?_⟩)
  rw [st1_eq]
  exact sk_no P.over (mt_none F' C.X C.T N' fun tk'' => ⟨rfl, h _ ⟨⟨ts, tp, tn, F'⟩, N', A.same⟩⟩)
theorem hit_0 (C : GC P.w q loose mean mg mb h₀ P.L P.own S) (A : At h₀ P.L S d news sH mo vo qo eo po s) (H : Win d S.cps S.cps.size ex W) (hl : look ex cWs 0 W = some (some e))
    (h : ∀ s' A₂ A₁ t1 pos lim li sp, At h₀ P.L S d ([(A₂, matO (.str S t1) (.ref 163) pos lim li A₁), (A₁, tupO (rawInt d :: rawInt (d + e : Nat) :: sp))] ++ news) sH (some (.ref A₂)) vo qo eo po s' → AllLt A₁ news → AllLt A₂ news → SK P (andThen P.env (HL P.env) K rest) n s₀ [stB 1 0, stB 1 1, stB 1 2] s') : SK P K n s₀ (stT 0 :: stT 1 :: rest) s := by
  obtain ⟨ts, tp, tn, F⟩ := A.F
  refine sk_stmt P.over (m0_some F C.X A.N C.T rfl (Nat.le_trans C.hS (by decide)) (pat_163 C.X) H hl fun h' tk' A₂ A₁ pos lim li sp F' N' l1 l2 => ⟨rfl, ?_⟩)
  rw [st1_eq]
  exact sk_yes P.over (mt_some F' C.X C.T N' fun tk'' => ⟨rfl, h _ A₂ A₁ ts pos lim li sp ⟨⟨ts, tp, tn, F'⟩, N', A.same⟩ l1 l2⟩)
theorem no_2 (C : GC P.w q loose mean mg mb h₀ P.L P.own S) (A : At h₀ P.L S d news sH mo vo qo eo po s) (H : Win d S.cps S.cps.size ex W) (hl : look ex cId 2 W = some none)
    (h : ∀ s', At h₀ P.L S d news sH (some .none) vo qo eo po s' → SK P K n s₀ rest s') : SK P K n s₀ (stT 2 :: stT 3 :: rest) s := by
  obtain ⟨ts, tp, tn, F⟩ := A.F
  have hS := lenS C
  refine sk_stmt P.over (m2_none F C.X A.N C.T rfl (Nat.le_trans C.hS (by decide)) (pat_178 C.X) H hl fun h' tk' F' N' => ⟨rfl, ?_⟩)
  rw [st3_eq]
  exact sk_no P.over (mt_none F' C.X C.T N' fun tk'' => ⟨rfl, h _ ⟨⟨ts, tp, tn, F'⟩, N', A.same⟩⟩)
theorem hit_2 (C : GC P.w q loose mean mg mb h₀ P.L P.own S) (A : At h₀ P.L S d news sH mo vo qo eo po s) (H : Win d S.cps S.cps.size ex W) (hl : look ex cId 2 W = some (some e))
    (h : ∀ s' A₂ A₁ t1 pos lim li sp, At h₀ P.L S d ([(A₂, matO (.str S t1) (.ref 178) pos lim li A₁), (A₁, tupO (rawInt d :: rawInt (d + e : Nat) :: sp))] ++ news) sH (some (.ref A₂)) vo qo eo po s' → AllLt A₁ news → AllLt A₂ news → SK P (andThen P.env (HL P.env) K rest) n s₀ [stB 3 0, stB 3 1, stB 3 2, stB 3 3] s') : SK P K n s₀ (stT 2 :: stT 3 :: rest) s := by
  obtain ⟨ts, tp, tn, F⟩ := A.F
  refine sk_stmt P.over (m2_some F C.X A.N C.T rfl (Nat.le_trans C.hS (by decide)) (pat_178 C.X) H hl fun h' tk' A₂ A₁ pos lim li sp F' N' l1 l2 => ⟨rfl, ?_⟩)
  rw [st3_eq]
  exact sk_yes P.over (mt_some F' C.X C.T N' fun tk'' => ⟨rfl, h _ A₂ A₁ ts pos lim li sp ⟨⟨ts, tp, tn, F'⟩, N', A.same⟩ l1 l2⟩)
theorem no_4 (C : GC P.w q loose mean mg mb h₀ P.L P.own S) (A : At h₀ P.L S d news sH mo vo qo eo po s) (H : Win d S.cps S.cps.size ex W) (hl : look ex cHash 1 W = some none)
    (h : ∀ s', At h₀ P.L S d news sH (some .none) vo qo eo po s' → SK P K n s₀ rest s') : SK P K n s₀ (stT 4 :: stT 5 :: rest) s := by
  obtain ⟨ts, tp, tn, F⟩ := A.F
  have hS := lenS C
  refine sk_stmt P.over (m4_none F C.X A.N C.T rfl (Nat.le_trans C.hS (by decide)) (pat_173 C.X) H hl fun h' tk' F' N' => ⟨rfl, ?_⟩)
  rw [st5_eq]
  exact sk_no P.over (mt_none F' C.X C.T N' fun tk'' => ⟨rfl, h _ ⟨⟨ts, tp, tn, F'⟩, N', A.same⟩⟩)
theorem hit_4 (C : GC P.w q loose mean mg mb h₀ P.L P.own S) (A : At h₀ P.L S d news sH mo vo qo eo po s) (H : Win d S.cps S.cps.size ex W) (hl : look ex cHash 1 W = some (some e))
    (h : ∀ s' A₂ A₁ t1 pos lim li sp, At h₀ P.L S d ([(A₂, matO (.str S t1) (.ref 173) pos lim li A₁), (A₁, tupO (rawInt d :: rawInt (d + e : Nat) :: sp))] ++ news) sH (some (.ref A₂)) vo qo eo po s' → AllLt A₁ news → AllLt A₂ news → SK P (andThen P.env (HL P.env) K rest) n s₀ [stB 5 0, stB 5 1, stB 5 2, stB 5 3] s') : SK P K n s₀ (stT 4 :: stT 5 :: rest) s := by
  obtain ⟨ts, tp, tn, F⟩ := A.F
  refine sk_stmt P.over (m4_some F C.X A.N C.T rfl (Nat.le_trans C.hS (by decide)) (pat_173 C.X) H hl fun h' tk' A₂ A₁ pos lim li sp F' N' l1 l2 => ⟨rfl, ?_⟩)
  rw [st5_eq]
  exact sk_yes P.over (mt_some F' C.X C.T N' fun tk'' => ⟨rfl, h _ A₂ A₁ ts pos lim li sp ⟨⟨ts, tp, tn, F'⟩, N', A.same⟩ l1 l2⟩)
theorem no_8 (C : GC P.w q loose mean mg mb h₀ P.L P.own S) (A : At h₀ P.L S d news sH mo vo qo eo po s) (H : Win d S.cps S.cps.size ex W) (hl : look ex cNum 0 W = some none)
    (h : ∀ s', At h₀ P.L S d news sH (some .none) vo qo eo po s' → SK P K n s₀ rest s') : SK P K n s₀ (stT 8 :: stT 9 :: rest) s := by
  obtain ⟨ts, tp, tn, F⟩ := A.F
  have hS := lenS C
  refine sk_stmt P.over (m8_none F C.X A.N C.T rfl (Nat.le_trans C.hS (by decide)) (pat_168 C.X) H hl fun h' tk' F' N' => ⟨rfl, ?_⟩)
  rw [st9_eq]
  exact sk_no P.over (mt_none F' C.X C.T N' fun tk'' => ⟨rfl, h _ ⟨⟨ts, tp, tn, F'⟩, N', A.same⟩⟩)
theorem hit_8 (C : GC P.w q loose mean mg mb h₀ P.L P.own S) (A : At h₀ P.L S d news sH mo vo qo eo po s) (H : Win d S.cps S.cps.size ex W) (hl : look ex cNum 0 W = some (some e))
    (h : ∀ s' A₂ A₁ t1 pos lim li sp, At h₀ P.L S d ([(A₂, matO (.str S t1) (.ref 168) pos lim li A₁), (A₁, tupO (rawInt d :: rawInt (d + e : Nat) :: sp))] ++ news) sH (some (.ref A₂)) vo qo eo po s' → AllLt A₁ news → AllLt A₂ news → SK P (andThen P.env (HL P.env) K rest) n s₀ [stB 9 0, stB 9 1, stB 9 2, stB 9 3] s') : SK P K n s₀ (stT 8 :: stT 9 :: rest) s := by
  obtain ⟨ts, tp, tn, F⟩ := A.F
  refine sk_stmt P.over (m8_some F C.X A.N C.T rfl (Nat.le_trans C.hS (by decide)) (pat_168 C.X) H hl fun h' tk' A₂ A₁ pos lim li sp F' N' l1 l2 => ⟨rfl, ?_⟩)
  rw [st9_eq]
  exact sk_yes P.over (mt_some F' C.X C.T N' fun tk'' => ⟨rfl, h _ A₂ A₁ ts pos lim li sp ⟨⟨ts, tp, tn, F'⟩, N', A.same⟩ l1 l2⟩)
theorem hit_end {st : Stmt} {more : List (Addr × Obj)} {d' : Nat} {s' : Shared} (C : GC P.w q loose mean mg mb h₀ P.L P.own S) (G : GS h₀ P.L P.own S d s) (ih : ∀ s₀ s, StepG P.L s₀ s → GS h₀ P.L P.own S d' s → Head P n s₀ s)
    (A : At h₀ P.L S d' (more ++ newsAll h₀ s.heap P.L) s mo vo qo eo po s') (hc : st = .Continue (posOf st)) (hK : K .cont = .pure (.again P.c)) : SK P K n s [st] s' :=
  sk_cont hc hK rfl (ih _ _ (A.step G) (A.gs C.ownL G))
theorem turn_ws {d' : Nat} (C : GC P.w q loose mean mg mb h₀ P.L P.own S) (G : GS h₀ P.L P.own S d s) (st : StepG P.L s₀ s) (hlt : d < S.length) (hd' : d' = d + e) (H : Win d S.cps S.cps.size ex W) (lw : look ex cWs 0 W = some (some e)) (hall : P.all[P.all.length - 1 - n]? = some ⟨"S", some " ", d⟩) (ih : ∀ s₀ s, StepG P.L s₀ s → GS h₀ P.L P.own S d' s → Head P n s₀ s) : Head P (n + 1) s₀ s := by
  subst hd'
  refine head_turn C G hlt fun s' mo vo qo eo po A => ?_
  refine hit_0 C A H lw fun s' A₂ A₁ t1 pos lim li sp A₂' l1 l2 => ?_
  obtain ⟨ts, tp, tn, F⟩ := A₂'.F
  refine sk_yield sb10_eq P.over rfl rfl rfl rfl (y1_0 (by have := P.hd; omega) (by have := P.hu; omega) F C.X A₂'.N C.T fun a h' tk' t' F' N' Z => ?_)
  intro kap hk
  have A₃ : At h₀ P.L S d _ _ _ _ _ _ _ { s' with heap := h', toks := tk' } := ⟨⟨_, _, _, F'⟩, N', A₂'.same⟩
  refine ⟨_, _, rfl, hall, ⟨_, Z⟩, st.trans (At.step (more := [(A₂, matO (.str S t1) (.ref _) pos lim li A₁), (A₁, tupO (rawInt d :: rawInt (d + e : Nat) :: sp))]) G A₃), A₃.Lsome, fun s'' gk => hk s'' ?_⟩
  have o1 := own_lt C.own0 C.ownL G l1
  have o2 := own_lt C.own0 C.ownL G l2
  obtain ⟨G', A₄⟩ := At.resume (more := [(A₂, matO (.str S t1) (.ref _) pos lim li A₁), (A₁, tupO (rawInt d :: rawInt (d + e : Nat) :: sp))]) C.own0 C.ownL A₃ (by intro p hp; simp only [List.mem_cons, List.not_mem_nil, or_false] at hp; rcases hp with rfl | rfl; exact o2; exact o1) gk
  obtain ⟨ts, tp, tn, F⟩ := A₄.F
  refine sk_stmt P.over (e1_1 (e := d + e) (by have := P.hd; omega) (by have := P.hu; omega) F C.X C.T A₄.N fun h' t' tk' F' N' => ⟨rfl, ?_⟩)
  exact hit_end (more := [(A₂, matO (.str S t1) (.ref _) pos lim li A₁), (A₁, tupO (rawInt d :: rawInt (d + e : Nat) :: sp))]) C G' ih ⟨⟨_, _, _, F'⟩, N', rfl, rfl, rfl⟩ (by kernel_rfl) rfl
theorem turn_id {d' : Nat} {r : Str} (C : GC P.w q loose mean mg mb h₀ P.L P.own S) (G : GS h₀ P.L P.own S d s) (st : StepG P.L s₀ s) (hlt : d < S.length) (hd' : d' = d + e) (H : Win d S.cps S.cps.size ex W) (lw : look ex cWs 0 W = some none) (li : look ex cId 2 W = some (some e)) (he : e ≤ 1000) (U : Unesc (⟨S.cps.extract d (d + e)⟩ : Str) r) (hall : P.all[P.all.length - 1 - n]? = some ⟨"IDENT", some r, d⟩) (ih : ∀ s₀ s, StepG P.L s₀ s → GS h₀ P.L P.own S d' s → Head P n s₀ s) : Head P (n + 1) s₀ s := by
  subst hd'
  refine head_turn C G hlt fun s' mo vo qo eo po A => ?_
  refine no_0 C A H lw fun s' A => ?_
  refine hit_2 C A H li fun s' A₂ A₁ t1 pos lim li sp A₂' l1 l2 => ?_
  obtain ⟨ts, tp, tn, F⟩ := A₂'.F
  refine sk_stmt P.over (v3_0 (e := d + e) (by have := P.hd; omega) (by have := P.hu; omega) F C.X C.T A₂'.N (by omega) U fun h' t' tk' F N => ⟨rfl, ?_⟩)
  refine sk_yield sb31_eq P.over rfl rfl rfl rfl (y3_1 (by have := P.hd; omega) (by have := P.hu; omega) F C.X N C.T fun a h' tk' t' F' N' Z => ?_)
  intro kap hk
  have A₃ : At h₀ P.L S d _ _ _ _ _ _ _ { s' with heap := h', toks := tk' } := ⟨⟨_, _, _, F'⟩, N', A₂'.same⟩
  refine ⟨_, _, rfl, hall, ⟨_, Z⟩, st.trans (At.step (more := [(A₂, matO (.str S t1) (.ref _) pos lim li A₁), (A₁, tupO (rawInt d :: rawInt (d + e : Nat) :: sp))]) G A₃), A₃.Lsome, fun s'' gk => hk s'' ?_⟩
  have o1 := own_lt C.own0 C.ownL G l1
  have o2 := own_lt C.own0 C.ownL G l2
  obtain ⟨G', A₄⟩ := At.resume (more := [(A₂, matO (.str S t1) (.ref _) pos lim li A₁), (A₁, tupO (rawInt d :: rawInt (d + e : Nat) :: sp))]) C.own0 C.ownL A₃ (by intro p hp; simp only [List.mem_cons, List.not_mem_nil, or_false] at hp; rcases hp with rfl | rfl; exact o2; exact o1) gk
  obtain ⟨ts, tp, tn, F⟩ := A₄.F
  refine sk_stmt P.over (e3_2 (e := d + e) F C.X C.T A₄.N fun h' t' tk' F' N' => ⟨rfl, ?_⟩)
  exact hit_end (more := [(A₂, matO (.str S t1) (.ref _) pos lim li A₁), (A₁, tupO (rawInt d :: rawInt (d + e : Nat) :: sp))]) C G' ih ⟨⟨_, _, _, F'⟩, N', rfl, rfl, rfl⟩ (by kernel_rfl) rfl
theorem turn_hash {d' : Nat} {r : Str} (C : GC P.w q loose mean mg mb h₀ P.L P.own S) (G : GS h₀ P.L P.own S d s) (st : StepG P.L s₀ s) (hlt : d < S.length) (hd' : d' = d + e) (H : Win d S.cps S.cps.size ex W) (lw : look ex cWs 0 W = some none) (li : look ex cId 2 W = some none) (lh : look ex cHash 1 W = some (some e)) (he : e ≤ 1000) (hsl : (⟨S.cps.extract d (d + e)⟩ : Str).length ≤ sizeLine) (U : Unesc (Txt.slice (⟨S.cps.extract d (d + e)⟩ : Str) (some 1) none) r) (hall : P.all[P.all.length - 1 - n]? = some ⟨"HASH", some r, d⟩) (ih : ∀ s₀ s, StepG P.L s₀ s → GS h₀ P.L P.own S d' s → Head P n s₀ s) : Head P (n + 1) s₀ s := by
  subst hd'
  refine head_turn C G hlt fun s' mo vo qo eo po A => ?_
  refine no_0 C A H lw fun s' A => ?_
  refine no_2 C A H li fun s' A => ?_
  refine hit_4 C A H lh fun s' A₂ A₁ t1 pos lim li sp A₂' l1 l2 => ?_
  obtain ⟨ts, tp, tn, F⟩ := A₂'.F
  refine sk_stmt P.over (v5_0 (e := d + e) (by have := P.hd; omega) (by have := P.hu; omega) F C.X C.T A₂'.N (by omega) hsl U fun h' t' tk' F N => ⟨rfl, ?_⟩)
  refine sk_yield sb51_eq P.over rfl rfl rfl rfl (y5_1 (by have := P.hd; omega) (by have := P.hu; omega) F C.X N C.T fun a h' tk' t' F' N' Z => ?_)
  intro kap hk
  have A₃ : At h₀ P.L S d _ _ _ _ _ _ _ { s' with heap := h', toks := tk' } := ⟨⟨_, _, _, F'⟩, N', A₂'.same⟩
  refine ⟨_, _, rfl, hall, ⟨_, Z⟩, st.trans (At.step (more := [(A₂, matO (.str S t1) (.ref _) pos lim li A₁), (A₁, tupO (rawInt d :: rawInt (d + e : Nat) :: sp))]) G A₃), A₃.Lsome, fun s'' gk => hk s'' ?_⟩
  have o1 := own_lt C.own0 C.ownL G l1
  have o2 := own_lt C.own0 C.ownL G l2
  obtain ⟨G', A₄⟩ := At.resume (more := [(A₂, matO (.str S t1) (.ref _) pos lim li A₁), (A₁, tupO (rawInt d :: rawInt (d + e : Nat) :: sp))]) C.own0 C.ownL A₃ (by intro p hp; simp only [List.mem_cons, List.not_mem_nil, or_false] at hp; rcases hp with rfl | rfl; exact o2; exact o1) gk
  obtain ⟨ts, tp, tn, F⟩ := A₄.F
  refine sk_stmt P.over (e5_2 (e := d + e) F C.X C.T A₄.N fun h' t' tk' F' N' => ⟨rfl, ?_⟩)
  exact hit_end (more := [(A₂, matO (.str S t1) (.ref _) pos lim li A₁), (A₁, tupO (rawInt d :: rawInt (d + e : Nat) :: sp))]) C G' ih ⟨⟨_, _, _, F'⟩, N', rfl, rfl, rfl⟩ (by kernel_rfl) rfl
end
end Mine
end

section
open PySem PySem.W PyProof.Rows PySem.Calls
set_option Elab.async false
set_option maxRecDepth 100000
set_option maxHeartbeats 1000000
set_option linter.unusedVariables false
namespace Mine
section
variable {P : GP} {q : Program} {loose : List Str} {mean : ExcName → Option Value} {mg mb : Str → Option Value} {h₀ : Heap} {S : Str} {n d d' e : Nat} {s₀ sH s : Shared} {K : Flow → Sem Fin} {rest : List Stmt} {news : List (Addr × Obj)} {mo vo qo eo po : Option Value} {ex : Bool} {W : List Nat} {r V : Str}
theorem no_q (C : GC P.w q loose mean mg mb h₀ P.L P.own S) (A : At h₀ P.L S d news sH mo vo qo eo po s) (hlt : d < S.length) (hv : (valueAt qD (Txt.item S d)).isSome = false)
    (h : ∀ s' qo', At h₀ P.L S d news sH mo vo qo' eo po s' → SK P K n s₀ rest s') : SK P K n s₀ (stT 6 :: stT 7 :: rest) s := by
  obtain ⟨ts, tp, tn, F⟩ := A.F
  have hS := lenS C
  refine sk_stmt P.over (q6 F C.X A.N C.T rfl (by omega) (by omega) fun h' t' tk' F' N' => ⟨rfl, ?_⟩)
  rw [st7_eq]
  exact sk_no P.over (q7 F' C.X N' C.T fun tk'' => ⟨hv, h _ _ ⟨⟨ts, tp, tn, F'⟩, N', A.same⟩⟩)
theorem yes_q (C : GC P.w q loose mean mg mb h₀ P.L P.own S) (A : At h₀ P.L S d news sH mo vo qo eo po s) (hlt : d < S.length) (hV : Txt.item S d = V) (hv : (valueAt qD V).isSome = true)
    (h : ∀ s' t', At h₀ P.L S d news sH mo vo (some (.str V t')) eo po s' → SK P (andThen P.env (HL P.env) K rest) n s₀ [stB 7 0, stB 7 1, stB 7 2, stB 7 3, stB 7 4, stB 7 5, stB 7 6, stB 7 7, stB 7 8] s') : SK P K n s₀ (stT 6 :: stT 7 :: rest) s := by
  obtain ⟨ts, tp, tn, F⟩ := A.F
  have hS := lenS C
  refine sk_stmt P.over (q6 F C.X A.N C.T rfl (by omega) (by omega) fun h' t' tk' F' N' => ⟨rfl, ?_⟩)
  rw [st7_eq]
  rw [hV] at F'
  exact sk_yes P.over (q7 F' C.X N' C.T fun tk'' => ⟨hv, h _ _ ⟨⟨ts, tp, tn, F'⟩, N', A.same⟩⟩)
theorem turn_num (C : GC P.w q loose mean mg mb h₀ P.L P.own S) (G : GS h₀ P.L P.own S d s) (st : StepG P.L s₀ s) (hlt : d < S.length) (hd' : d' = d + e) (H : Win d S.cps S.cps.size ex W) (lw : look ex cWs 0 W = some none) (li : look ex cId 2 W = some none) (lh : look ex cHash 1 W = some none) (lu : look ex cNum 0 W = some (some e))
    (hv : (valueAt qD (Txt.item S d)).isSome = false) (he : e ≤ 1000) (hr : (⟨S.cps.extract d (d + e)⟩ : Str) = r) (hall : P.all[P.all.length - 1 - n]? = some ⟨"NUMBER", some r, d⟩) (ih : ∀ s₀ s, StepG P.L s₀ s → GS h₀ P.L P.own S d' s → Head P n s₀ s) : Head P (n + 1) s₀ s := by
  subst hd'
  refine head_turn C G hlt fun s' mo vo qo eo po A => ?_
  refine no_0 C A H lw fun s' A => ?_
  refine no_2 C A H li fun s' A => ?_
  refine no_4 C A H lh fun s' A => ?_
  refine no_q C A hlt hv fun s' qo A => ?_
  refine hit_8 C A H lu fun s' A₂ A₁ t1 pos lim li sp A₂' l1 l2 => ?_
  obtain ⟨ts, tp, tn, F⟩ := A₂'.F
  refine sk_stmt P.over (v9_0 (e := d + e) (by have := P.hd; omega) (by have := P.hu; omega) F C.X C.T A₂'.N (by omega) fun h' t' tk' F N => ⟨rfl, ?_⟩)
  rw [hr] at F
  refine sk_yield sb91_eq P.over rfl rfl rfl rfl (y9_1 (by have := P.hd; omega) (by have := P.hu; omega) F C.X N C.T fun a h' tk' t' F' N' Z => ?_)
  intro kap hk
  have A₃ : At h₀ P.L S d _ _ _ _ _ _ _ { s' with heap := h', toks := tk' } := ⟨⟨_, _, _, F'⟩, N', A₂'.same⟩
  refine ⟨_, _, rfl, hall, ⟨_, Z⟩, st.trans (At.step (more := [(A₂, matO (.str S t1) (.ref _) pos lim li A₁), (A₁, tupO (rawInt d :: rawInt (d + e : Nat) :: sp))]) G A₃), A₃.Lsome, fun s'' gk => hk s'' ?_⟩
  have o1 := own_lt C.own0 C.ownL G l1
  have o2 := own_lt C.own0 C.ownL G l2
  obtain ⟨G', A₄⟩ := At.resume (more := [(A₂, matO (.str S t1) (.ref _) pos lim li A₁), (A₁, tupO (rawInt d :: rawInt (d + e : Nat) :: sp))]) C.own0 C.ownL A₃ (by intro p hp; simp only [List.mem_cons, List.not_mem_nil, or_false] at hp; rcases hp with rfl | rfl; exact o2; exact o1) gk
  obtain ⟨ts, tp, tn, F⟩ := A₄.F
  refine sk_stmt P.over (e9_2 (e := d + e) F C.X C.T A₄.N fun h' t' tk' F' N' => ⟨rfl, ?_⟩)
  exact hit_end (more := [(A₂, matO (.str S t1) (.ref _) pos lim li A₁), (A₁, tupO (rawInt d :: rawInt (d + e : Nat) :: sp))]) C G' ih ⟨⟨_, _, _, F'⟩, N', rfl, rfl, rfl⟩ (by kernel_rfl) rfl
theorem pre11 (C : GC P.w q loose mean mg mb h₀ P.L P.own S) (G : GS h₀ P.L P.own S d s) (hlt : d < S.length) (H : Win d S.cps S.cps.size ex W) (lw : look ex cWs 0 W = some none) (li : look ex cId 2 W = some none) (lh : look ex cHash 1 W = some none) (lu : look ex cNum 0 W = some none)
    (hv : (valueAt qD (Txt.item S d)).isSome = false)
    (h : ∀ s' mo vo qo eo t', At h₀ P.L S d (newsAll h₀ s.heap P.L) s mo vo qo eo (some (.int ((d : Int) + 2) t')) s' → SK P (KL P.c) n s₀ [stT 11, stT 12, stT 13] s') : Head P n s₀ s := by
  have hS := lenS C
  refine head_turn C G hlt fun s' mo vo qo eo po A => ?_
  refine no_0 C A H lw fun s' A => ?_
  refine no_2 C A H li fun s' A => ?_
  refine no_4 C A H lh fun s' A => ?_
  refine no_q C A hlt hv fun s' qo A => ?_
  refine no_8 C A H lu fun s' A => ?_
  obtain ⟨ts, tp, tn, F⟩ := A.F
  exact sk_stmt P.over (q10 F C.X A.N C.T rfl (by omega) (by omega) fun h' t' tk' F N => ⟨rfl, h _ _ _ _ _ _ ⟨⟨_, _, _, F⟩, N, A.same⟩⟩)
theorem turn_delim (C : GC P.w q loose mean mg mb h₀ P.L P.own S) (G : GS h₀ P.L P.own S d s) (st : StepG P.L s₀ s) (hlt : d < S.length) (hd' : d' = d + 1) (H : Win d S.cps S.cps.size ex W) (lw : look ex cWs 0 W = some none) (li : look ex cId 2 W = some none) (lh : look ex cHash 1 W = some none) (lu : look ex cNum 0 W = some none)
    (hV : Txt.item S d = V) (hv : (valueAt qD V).isSome = false) (hr : (Txt.slice S (some (d : Int)) (some ((d : Int) + 2)) == Str.ofString "/*") = false) (hall : P.all[P.all.length - 1 - n]? = some ⟨"DELIM", some V, d⟩) (ih : ∀ s₀ s, StepG P.L s₀ s → GS h₀ P.L P.own S d' s → Head P n s₀ s) : Head P (n + 1) s₀ s := by
  subst hd'
  have hS := lenS C
  refine pre11 C G hlt H lw li lh lu (by rw [hV]; exact hv) fun s' mo vo qo eo t' A => ?_
  obtain ⟨ts, tp, tn, F⟩ := A.F
  rw [st11_eq]
  refine sk_no P.over (q11 F C.X A.N C.T rfl (by omega) (by omega) fun h' tk' F N => ⟨hr, ?_⟩)
  refine sk_yield st12_eq P.over rfl rfl rfl rfl (y12 (by have := P.hd; omega) (by have := P.hu; omega) F C.X N C.T rfl (by omega) (by omega) fun a h' tk' t' F' N' Z => ?_)
  intro kap hk
  have A₃ : At h₀ P.L S d ([] ++ newsAll h₀ s.heap P.L) s _ _ _ _ _ { s' with heap := h', toks := tk' } := ⟨⟨_, _, _, F'⟩, N', A.same⟩
  rw [hV] at Z
  refine ⟨_, _, rfl, hall, ⟨_, Z⟩, st.trans (At.step G A₃), A₃.Lsome, fun s'' gk => hk s'' ?_⟩
  obtain ⟨G', A₄⟩ := At.resume C.own0 C.ownL A₃ (by intro p hp; cases hp) gk
  obtain ⟨ts, tp, tn, F⟩ := A₄.F
  refine sk_stmt P.over (b13 F C.X A₄.N C.T (by omega) (by omega) fun h' t' tk' F' N' => ⟨rfl, ?_⟩)
  refine seg_execs_nil (seg_again rfl ?_)
  have A₅ : At h₀ P.L S (d + 1) ([] ++ newsAll h₀ s''.heap P.L) s'' _ _ _ _ _ { s'' with heap := h', toks := tk' } := ⟨⟨_, _, _, F'⟩, N', rfl, rfl, rfl⟩
  exact ih _ _ (A₅.step G') (A₅.gs C.ownL G')
theorem turn_rem (C : GC P.w q loose mean mg mb h₀ P.L P.own S) (G : GS h₀ P.L P.own S d s) (st : StepG P.L s₀ s) (hlt : d < S.length) (H : Win d S.cps S.cps.size ex W) (lw : look ex cWs 0 W = some none) (li : look ex cId 2 W = some none) (lh : look ex cHash 1 W = some none) (lu : look ex cNum 0 W = some none)
    (hv : (valueAt qD (Txt.item S d)).isSome = false) (hr : (Txt.slice S (some (d : Int)) (some ((d : Int) + 2)) == Str.ofString "/*") = true)
    (hf : Txt.find3 S (Str.ofString "*/") ((d : Int) + 2) = -1 ∧ d' = S.length ∨ ∃ k : Nat, k ≤ S.length ∧ Txt.find3 S (Str.ofString "*/") ((d : Int) + 2) = k ∧ d' = k + 2) (ih : ∀ s₀ s, StepG P.L s₀ s → GS h₀ P.L P.own S d' s → Head P n s₀ s) : Head P n s₀ s := by
  have hS := lenS C
  refine pre11 C G hlt H lw li lh lu hv fun s' mo vo qo eo t' A => ?_
  obtain ⟨ts, tp, tn, F⟩ := A.F
  rw [st11_eq]
  refine sk_yes P.over (q11 F C.X A.N C.T rfl (by omega) (by omega) fun h' tk' F N => ⟨hr, ?_⟩)
  refine sk_stmt P.over (b11_0 F C.X N C.T rfl (by omega) (by omega) fun h' t' tk' F N => ⟨rfl, ?_⟩)
  rcases hf with ⟨hf, rfl⟩ | ⟨k, hk, hf, rfl⟩
  · rw [hf] at F
    refine sk_stmt P.over (b11_1_no F C.X N C.T (by omega) fun h' t' tk' F N => ⟨rfl, ?_⟩)
    have A₅ : At h₀ P.L S S.length ([] ++ newsAll h₀ s.heap P.L) s _ _ _ _ _ { s' with heap := h', toks := tk' } := ⟨⟨_, _, _, F⟩, N, A.same⟩
    exact sk_cont (by kernel_rfl : stB 11 2 = Stmt.Continue (posOf (stB 11 2))) rfl rfl (ih _ _ (st.trans (A₅.step G)) (A₅.gs C.ownL G))
  · rw [hf] at F
    refine sk_stmt P.over (b11_1_yes F C.X N C.T (by omega) (by omega) fun h' t' tk' F N => ⟨rfl, ?_⟩)
    have A₅ : At h₀ P.L S (k + 2) ([] ++ newsAll h₀ s.heap P.L) s _ _ _ _ _ { s' with heap := h', toks := tk' } := ⟨⟨_, _, _, F⟩, N, A.same⟩
    exact sk_cont (by kernel_rfl : stB 11 2 = Stmt.Continue (posOf (stB 11 2))) rfl rfl (ih _ _ (st.trans (A₅.step G)) (A₅.gs C.ownL G))
theorem turn_str {ad : Addr} {code : Array Nat} {V1 : Str} {W' : List Nat} (C : GC P.w q loose mean mg mb h₀ P.L P.own S) (G : GS h₀ P.L P.own S d s) (st : StepG P.L s₀ s) (hlt : d < S.length) (hd' : d' = d + 1 + e + 1) (H : Win d S.cps S.cps.size ex W) (lw : look ex cWs 0 W = some none) (li : look ex cId 2 W = some none) (lh : look ex cHash 1 W = some none)
    (H' : Win (d + 1) S.cps S.cps.size ex W') (Pt : IsPat h₀ ad code 2) (ls : look ex code 2 W' = some (some e)) (hV : Txt.item S d = V) (hv : valueAt qD V = some (.ref ad)) (he : d + 1 + e < S.length) (hc : (Txt.item S (d + 1 + e : Nat) == V) = true)
    (hZ : SubOk (⟨S.cps.extract (d + 1) (d + 1 + e)⟩ : Str) V1) (U : Unesc V1 r) (hall : P.all[P.all.length - 1 - n]? = some ⟨"STRING", some r, d⟩) (ih : ∀ s₀ s, StepG P.L s₀ s → GS h₀ P.L P.own S d' s → Head P n s₀ s) : Head P (n + 1) s₀ s := by
  subst hd'
  have hS := lenS C
  have h5 : d + 1 + e ≤ 1000000 := by omega
  have h6 : ((d + 1 + e : Nat) : Int) ≠ (S.length : Nat) := by omega
  refine head_turn C G hlt fun s' mo vo qo eo po A => ?_
  refine no_0 C A H lw fun s' A => ?_
  refine no_2 C A H li fun s' A => ?_
  refine no_4 C A H lh fun s' A => ?_
  refine yes_q C A hlt hV (by rw [hv]; rfl) fun s' t' A => ?_
  obtain ⟨ts, tp, tn, F⟩ := A.F
  refine sk_stmt P.over (s0_some F C.X A.N C.T rfl (Nat.le_trans C.hS (by decide)) Pt hv H' ls fun h' tk' A₂ A₁ pos lim li sp F N l1 l2 => ⟨rfl, ?_⟩)
  refine sk_stmt P.over (s1 F C.X C.T N fun tk' => ⟨rfl, ?_⟩)
  refine sk_stmt P.over (s2 F C.X C.T N fun h' t' tk' F N => ⟨rfl, ?_⟩)
  refine sk_stmt P.over (s3 F C.X C.T N h6 fun tk' => ⟨rfl, ?_⟩)
  refine sk_stmt P.over (s4 F C.X C.T N (by omega) he hc fun tk' => ⟨rfl, ?_⟩)
  refine sk_stmt P.over (v7_5 (by have := P.hd; omega) (by have := P.hu; omega) F C.X C.T N (by omega) (pat_189 C.X) hZ U fun h' t' tk' F N => ⟨rfl, ?_⟩)
  refine sk_yield sb76_eq P.over rfl rfl rfl rfl (y7_6 (by have := P.hd; omega) (by have := P.hu; omega) F C.X N C.T fun a h' tk' t' F' N' Z => ?_)
  intro kap hk
  have A₃ : At h₀ P.L S d ([(A₂, matO (.str S ts) (.ref _) pos lim li A₁), (A₁, tupO (rawInt (d + 1 : Nat) :: rawInt (d + 1 + e : Nat) :: sp))] ++ newsAll h₀ s.heap P.L) s _ _ _ _ _ { s' with heap := h', toks := tk' } := ⟨⟨_, _, _, F'⟩, N', A.same⟩
  refine ⟨_, _, rfl, hall, ⟨_, Z⟩, st.trans (At.step G A₃), A₃.Lsome, fun s'' gk => hk s'' ?_⟩
  obtain ⟨G', A₄⟩ := At.resume (more := []) C.own0 C.ownL A₃ (by intro p hp; cases hp) gk
  obtain ⟨ts, tp, tn, F⟩ := A₄.F
  refine sk_stmt P.over (e7_7 (e := d + 1 + e) F C.X A₄.N C.T h5 fun h' t' tk' F' N' => ⟨rfl, ?_⟩)
  exact hit_end (d' := d + 1 + e + 1) (more := []) C G' ih ⟨⟨_, _, _, F'⟩, N', rfl, rfl, rfl⟩ (by kernel_rfl) rfl
end
end Mine
end

section
open PySem PySem.W PyProof.Rows PySem.Calls
set_option Elab.async false
set_option maxRecDepth 100000
set_option maxHeartbeats 1000000
set_option linter.unusedVariables false
namespace Mine
theorem over_func {dp un : Nat} {gd : Option (List Code)} {fr : Option (List Env)} {L f : Addr} {cd : Value} :
    (ar dp un gd fr).over (funC L f cd) [] = ar (dp + 1) (un + 3) gd (pushEnvs [gEnv L f cd] fr) := rfl
/-- one turn of the loop, from place d to place d' -/
inductive Ev (S : Str) : Nat → Nat → Option Tk → Prop
  | ws {d e : Nat} {ex : Bool} {W : List Nat} : d < S.length → Win d S.cps S.cps.size ex W → look ex cWs 0 W = some (some e) → Ev S d (d + e) (some ⟨"S", some " ", d⟩)
  | id {d e : Nat} {ex : Bool} {W : List Nat} {r : Str} : d < S.length → Win d S.cps S.cps.size ex W → look ex cWs 0 W = some none → look ex cId 2 W = some (some e) → e ≤ 1000 → Unesc (⟨S.cps.extract d (d + e)⟩ : Str) r → Ev S d (d + e) (some ⟨"IDENT", some r, d⟩)
  | hash {d e : Nat} {ex : Bool} {W : List Nat} {r : Str} : d < S.length → Win d S.cps S.cps.size ex W → look ex cWs 0 W = some none → look ex cId 2 W = some none → look ex cHash 1 W = some (some e) → e ≤ 1000 → (⟨S.cps.extract d (d + e)⟩ : Str).length ≤ sizeLine →
      Unesc (Txt.slice (⟨S.cps.extract d (d + e)⟩ : Str) (some 1) none) r → Ev S d (d + e) (some ⟨"HASH", some r, d⟩)
  | str {d e : Nat} {ex : Bool} {W W' : List Nat} {V V1 r : Str} {ad : Addr} {code : Array Nat} : d < S.length → Win d S.cps S.cps.size ex W → look ex cWs 0 W = some none → look ex cId 2 W = some none → look ex cHash 1 W = some none → Win (d + 1) S.cps S.cps.size ex W' →
      (∀ {P : Params} {h : Heap}, (KX P).In h → IsPat h ad code 2) → look ex code 2 W' = some (some e) → Txt.item S d = V → valueAt qD V = some (.ref ad) → d + 1 + e < S.length → (Txt.item S (d + 1 + e : Nat) == V) = true →
      SubOk (⟨S.cps.extract (d + 1) (d + 1 + e)⟩ : Str) V1 → Unesc V1 r → Ev S d (d + 1 + e + 1) (some ⟨"STRING", some r, d⟩)
  | num {d e : Nat} {ex : Bool} {W : List Nat} {r : Str} : d < S.length → Win d S.cps S.cps.size ex W → look ex cWs 0 W = some none → look ex cId 2 W = some none → look ex cHash 1 W = some none → look ex cNum 0 W = some (some e) → (valueAt qD (Txt.item S d)).isSome = false → e ≤ 1000 →
      (⟨S.cps.extract d (d + e)⟩ : Str) = r → Ev S d (d + e) (some ⟨"NUMBER", some r, d⟩)
  | delim {d : Nat} {ex : Bool} {W : List Nat} {V : Str} : d < S.length → Win d S.cps S.cps.size ex W → look ex cWs 0 W = some none → look ex cId 2 W = some none → look ex cHash 1 W = some none → look ex cNum 0 W = some none → Txt.item S d = V → (valueAt qD V).isSome = false →
      (Txt.slice S (some (d : Int)) (some ((d : Int) + 2)) == Str.ofString "/*") = false → Ev S d (d + 1) (some ⟨"DELIM", some V, d⟩)
  | rem {d d' : Nat} {ex : Bool} {W : List Nat} : d < S.length → Win d S.cps S.cps.size ex W → look ex cWs 0 W = some none → look ex cId 2 W = some none → look ex cHash 1 W = some none → look ex cNum 0 W = some none → (valueAt qD (Txt.item S d)).isSome = false →
      (Txt.slice S (some (d : Int)) (some ((d : Int) + 2)) == Str.ofString "/*") = true →
      (Txt.find3 S (Str.ofString "*/") ((d : Int) + 2) = -1 ∧ d' = S.length ∨ ∃ k : Nat, k ≤ S.length ∧ Txt.find3 S (Str.ofString "*/") ((d : Int) + 2) = k ∧ d' = k + 2) → Ev S d d' none
inductive Scan (S : Str) (bad : Nat → Prop) : Bool → Nat → List Tk → Prop
  | stop : Scan S bad false S.length [⟨"EOF", none, S.length⟩]
  | raised {d : Nat} : bad d → Scan S bad true d []
  | step {b : Bool} {d d' : Nat} {k : Tk} {ts : List Tk} : Ev S d d' (some k) → Scan S bad b d' ts → Scan S bad b d (k :: ts)
  | skip {b : Bool} {d d' : Nat} {ts : List Tk} : Ev S d d' none → Scan S bad b d' ts → Scan S bad b d ts
section
variable {P : GP} {q : Program} {loose : List Str} {mean : ExcName → Option Value} {mg mb : Str → Option Value} {h₀ : Heap} {S : Str} {n d d' e : Nat} {s₀ sH s : Shared} {K : Flow → Sem Fin} {rest : List Stmt} {news : List (Addr × Obj)} {mo vo qo eo po : Option Value} {ex : Bool} {W : List Nat} {r V : Str}
theorem turn_some {k : Tk} (C : GC P.w q loose mean mg mb h₀ P.L P.own S) (G : GS h₀ P.L P.own S d s) (st : StepG P.L s₀ s) (E : Ev S d d' (some k)) (hall : P.all[P.all.length - 1 - n]? = some k) (ih : ∀ s₀ s, StepG P.L s₀ s → GS h₀ P.L P.own S d' s → Head P n s₀ s) : Head P (n + 1) s₀ s := by
  cases E with
  | ws h1 H l1 => exact turn_ws C G st h1 rfl H l1 hall ih
  | id h1 H l1 l2 he U => exact turn_id C G st h1 rfl H l1 l2 he U hall ih
  | hash h1 H l1 l2 l3 he hs U => exact turn_hash C G st h1 rfl H l1 l2 l3 he hs U hall ih
  | str h1 H l1 l2 l3 H' Pt ls hV hv he hc hZ U => exact turn_str C G st h1 rfl H l1 l2 l3 H' (Pt C.X) ls hV hv he hc hZ U hall ih
  | num h1 H l1 l2 l3 l4 hv he hr => exact turn_num C G st h1 rfl H l1 l2 l3 l4 hv he hr hall ih
  | delim h1 H l1 l2 l3 l4 hV hv hr => exact turn_delim C G st h1 rfl H l1 l2 l3 l4 hV hv hr hall ih
theorem turn_none (C : GC P.w q loose mean mg mb h₀ P.L P.own S) (G : GS h₀ P.L P.own S d s) (st : StepG P.L s₀ s) (E : Ev S d d' none) (ih : ∀ s₀ s, StepG P.L s₀ s → GS h₀ P.L P.own S d' s → Head P n s₀ s) : Head P n s₀ s := by
  cases E with
  | rem h1 H l1 l2 l3 l4 hv hr hf => exact turn_rem C G st h1 H l1 l2 l3 l4 hv hr hf ih
theorem head_end (C : GC P.w q loose mean mg mb h₀ P.L P.own S) (G : GS h₀ P.L P.own S S.length s) (st : StepG P.L s₀ s) (hall : P.all[P.all.length - 1 - 0]? = some ⟨"EOF", none, S.length⟩) (hR : ∀ s, P.R 0 s (.ok (.ret .none)) s) : Head P (0 + 1) s₀ s := by
  obtain ⟨ts, tp, tn, mo, vo, qo, eo, po, F⟩ := G.F
  refine seg_whileLoop ?_
  show wpAny _ P.A' _ _ _ _
  refine wpAny_mono (tt F C.X (newsAll_news (h₀ := h₀) (h := s.heap)) C.T (Q := fun b s' => b = false ∧ ∃ tk', s' = { s with toks := tk' }) fun tk' => ?_) (fun b s' hb => ?_) fun _ _ x => x.elim
  · exact ⟨by simp, _, rfl⟩
  · obtain ⟨rfl, tk', rfl⟩ := hb
    refine seg_execs_nil ?_
    show Seg (model pw P.w) P.A P.R P.Y 1 s₀ P.c (leafOf (.ok .next)) (.ret (kW P.env) none false [] (funC P.L P.f P.cd) P.p [] :: []) _
    refine seg_leaf (.ok .next) ?_
    show SegK (model pw P.w) P.A P.R P.Y 1 s₀ (funC P.L P.f P.cd) [] P.env (HF P.env) KF [bd 4, bd 5] _
    refine sk_stmt over_func (b4 F C.X (newsAll_news (h₀ := h₀) (h := s.heap)) C.T rfl fun tk' => ⟨rfl, ?_⟩)
    refine sk_yield bd5_eq over_func rfl rfl rfl rfl (y5 (by have := P.hd; omega) (by have := P.hu; omega) F C.X (newsAll_news (h₀ := h₀) (h := s.heap)) C.T fun a h' tk' F' N' Z => ?_)
    intro kap hk
    have A₃ : At h₀ P.L S S.length ([] ++ newsAll h₀ s.heap P.L) s _ _ _ _ _ { s with heap := h', toks := tk' } := ⟨⟨_, _, _, F'⟩, N', rfl, rfl, rfl⟩
    refine ⟨_, _, rfl, hall, Z, st.trans (A₃.step G), A₃.Lsome, fun s'' gk => hk s'' ?_⟩
    refine seg_execs_nil ?_
    exact seg_end (.ok (.ret .none)) (hR _)
theorem scan_head {bad : Nat → Prop} {b : Bool} {ts : List Tk} (C : GC P.w q loose mean mg mb h₀ P.L P.own S) (Z : Scan S bad b d ts) (hR : b = false → ∀ s, P.R 0 s (.ok (.ret .none)) s)
    (hbad : b = true → ∀ d s₀ s, bad d → StepG P.L s₀ s → GS h₀ P.L P.own S d s → Head P 0 s₀ s) (pre : List Tk) (hall : P.all = pre ++ ts) : ∀ s₀ s, StepG P.L s₀ s → GS h₀ P.L P.own S d s → Head P ts.length s₀ s := by
  have hidx : ∀ {pre : List Tk} {k : Tk} {ts : List Tk}, P.all = pre ++ k :: ts → P.all[P.all.length - 1 - ts.length]? = some k := by
    intro pre k ts h
    rw [h, List.length_append, List.length_cons, show pre.length + (ts.length + 1) - 1 - ts.length = pre.length by omega, List.getElem?_append_right (Nat.le_refl _), Nat.sub_self]
    rfl
  induction Z generalizing pre with
  | stop =>
    intro s₀ s st G
    exact head_end C G st (hidx (ts := []) hall) (hR rfl)
  | raised hb => intro s₀ s st G; exact hbad rfl _ _ _ hb st G
  | @step b d d' k ts E _ ih =>
    intro s₀ s st G
    exact turn_some C G st E (hidx hall) (ih hR hbad (pre ++ [k]) (by rw [hall, List.append_assoc]; rfl))
  | skip E _ ih =>
    intro s₀ s st G
    exact turn_none C G st E (ih hR hbad pre hall)
theorem gen_start {bad : Nat → Prop} {b : Bool} {ts : Tok} {t : List Tk} (C : GC P.w q loose mean mg mb h₀ P.L P.own S) (Z : Scan S bad b 0 t) (hn : NoNul S) (F : Fr h₀ P.L s.heap (tS S ts)) (hown : OwnAt P.own s.heap)
    (hR : b = false → ∀ s, P.R 0 s (.ok (.ret .none)) s) (hbad : b = true → ∀ p d s₀ s, bad d → StepG P.L s₀ s → GS h₀ P.L P.own S d s → Head { P with p := p } 0 s₀ s) (hall : P.all = t) :
    (GenState.fresh (funC P.L P.f P.cd)).Goes (model pw P.w) P.A P.R P.Y t.length (.send .none) s := by
  have hS := lenS C
  refine ⟨rfl, seg_func ?_⟩
  show SegK (model pw P.w) P.A P.R P.Y t.length s (funC P.L P.f P.cd) [] P.env (HF P.env) KF (bodyOf nK) s
  rw [body_eq]
  have N : News h₀ P.L s.heap (newsAll h₀ s.heap P.L) := newsAll_news
  refine sk_stmt over_func (b0 F C.X N C.T hn fun h' tk' F N => ⟨rfl, ?_⟩)
  refine sk_stmt over_func (b1 F C.X N C.T fun h' t tk' F N => ⟨rfl, ?_⟩)
  refine sk_stmt over_func (b2 F C.X N C.T (by omega) fun h' t1 t2 t3 tk' F' N => ⟨rfl, ?_⟩)
  rw [bd3_eq]
  refine seg_execs_cons (seg_While fun p => ?_)
  have k := of_newsAll (more := []) ‹Fr h₀ P.L s.heap (tS S ts)› F' N
  have hsome : OwnAt P.own h' := fun b hb => by
    obtain ⟨o, ho, hn⟩ := hown b hb
    exact ⟨o, k b o (fun e => C.ownL (e ▸ hb)) ho, hn⟩
  exact scan_head (P := { P with p := p }) C Z hR (fun e => hbad e p) [] hall _ _ ⟨k, rfl, rfl, rfl⟩ ⟨⟨_, _, _, _, _, _, _, _, F'⟩, hsome⟩
end
end Mine
end

section
open PySem PySem.W PyProof.Rows PySem.Calls
set_option Elab.async false
set_option maxRecDepth 100000
set_option maxHeartbeats 4000000
set_option linter.unusedVariables false
set_option pp.deepTerms false
set_option pp.maxSteps 3000
namespace Mine
abbrev nT : Str := "_law_told"
def tryBody : Stmt → List Stmt | .Try b _ _ _ _ => b | _ => []
def forBody : Stmt → List Stmt | .For _ _ b _ _ => b | _ => []
def tB (i : Nat) : Stmt := (bodyOf nT).getD i (.Pass ⟨0,0,0,0⟩)
def tFor : Stmt := (tryBody (tB 1)).getD 0 (.Pass ⟨0,0,0,0⟩)
def loopT : List Stmt := forBody tFor
abbrev dM (S : Str) (ts : Tok) (R : Addr) (o : Option Value) : Str → Option Value := fun y => if y = "text" then some (.str S ts) else if y = "found" then some (.ref R) else if y = "one" then o else none
section
variable {w : World} {dp un : Nat} {gd : Option (List Code)} {fr : Option (List Env)} {s : Shared} {h₀ : Heap} {L f : Addr} {cd : Value} {q : Program} {loose : List Str} {mean : ExcName → Option Value} {mg mb : Str → Option Value}
  {S : Str} {ts : Tok} {R a D C : Addr} {its : Array Value} {n n1 m1 : Nat} {k : Str} {v : Value} {p : Int} {t1 tk t3 : Tok} {hs : Int} {sl sl2 : Array (Option Value)} {news : List (Addr × Obj)}
abbrev tkO (C D : Addr) (k : Str) (t1 : Tok) (v : Value) (n1 : Nat) (sl : Array (Option Value)) : Obj := ⟨.ref C, some D, .seq #[.str k t1, v] n1, sl⟩
abbrev tdO (hs : Int) (tk : Tok) (p : Int) (t3 : Tok) (m1 : Nat) (sl2 : Array (Option Value)) : Obj := ⟨.type "dict", none, .dict #[⟨hs, .str "pos" tk, .int p t3⟩] m1, sl2⟩
abbrev TokHere (h₀ : Heap) (L : Addr) (news : List (Addr × Obj)) (a D : Addr) (o od : Obj) : Prop := ∀ h' m', Fr h₀ L h' m' → News h₀ L h' news → h'.get? a = some o ∧ h'.get? D = some od
theorem type_use {Q E : Value → Shared → Prop} {m : Str → Option Value} {x : Addr × Obj} (hd : dp ≤ 380) (X : (KX w.params).In h₀) (T : Top q loose mean mg mb h₀) (c : TokCls w.params C) (hT : TokHere h₀ L news a D (tkO C D k t1 v n1 sl) (tdO hs tk p t3 m1 sl2)) (F : Fr h₀ L s.heap m) (N : News h₀ L s.heap (x :: news))
    (hQ : ∀ h' tk', Fr h₀ L h' m → News h₀ L h' (x :: news) → Q (.str k t1) { s with heap := h', toks := tk' }) : wpAny (model pw w) (ar dp un gd fr) (getAttr (.ref a) "type" true) Q E s :=
  attr_type (Nat.lt_of_le_of_lt hd (by decide)) (T.keeps F.keep) (X.keeps F.keep) (hT _ _ F (news_tail N)).1 (hT _ _ F (news_tail N)).2 c (fun _ e => nomatch e) fun h' tk' hk => hQ h' tk' ⟨F.ns.keeps hk, fun b o e => hk b o (F.keep b o e), F.above⟩ fun p hp => ⟨hk _ _ (N p hp).1, (N p hp).2⟩
theorem value_use {Q E : Value → Shared → Prop} {m : Str → Option Value} {x : Addr × Obj} (hd : dp ≤ 380) (X : (KX w.params).In h₀) (T : Top q loose mean mg mb h₀) (c : TokCls w.params C) (hT : TokHere h₀ L news a D (tkO C D k t1 v n1 sl) (tdO hs tk p t3 m1 sl2)) (F : Fr h₀ L s.heap m) (N : News h₀ L s.heap (x :: news)) (hv : ∀ id, v ≠ .builtin id)
    (hQ : ∀ h' tk', Fr h₀ L h' m → News h₀ L h' (x :: news) → Q v { s with heap := h', toks := tk' }) : wpAny (model pw w) (ar dp un gd fr) (getAttr (.ref a) "value" true) Q E s :=
  attr_value (Nat.lt_of_le_of_lt hd (by decide)) (T.keeps F.keep) (X.keeps F.keep) (hT _ _ F (news_tail N)).1 (hT _ _ F (news_tail N)).2 c hv fun h' tk' hk => hQ h' tk' ⟨F.ns.keeps hk, fun b o e => hk b o (F.keep b o e), F.above⟩ fun p hp => ⟨hk _ _ (N p hp).1, (N p hp).2⟩
theorem pos_use {Q E : Value → Shared → Prop} {m : Str → Option Value} {x : Addr × Obj} (X : (KX w.params).In h₀) (c : TokCls w.params C) (hT : TokHere h₀ L news a D (tkO C D k t1 v n1 sl) (tdO hs tk p t3 m1 sl2)) (F : Fr h₀ L s.heap m) (N : News h₀ L s.heap (x :: news))
    (hQ : ∀ tk', Q (.int p t3) { s with toks := tk' }) : wpAny (model pw w) (ar dp un gd fr) (getAttr (.ref a) "pos" true) Q E s :=
  attr_pos (X.keeps F.keep) (hT _ _ F (news_tail N)).1 (hT _ _ F (news_tail N)).2 c hQ
local macro_rules | `(tactic| walk_at "getAttr ref true") => `(tactic| (first
  | ((with_reducible show wpAny _ _ (getAttr _ (Str.ofString "type") true) _ _ _); refine type_use (by assumption) (by assumption) (by assumption) (by assumption) (by assumption) (by assumption) (by assumption) ?_; intro h' tk' F' N')
  | ((with_reducible show wpAny _ _ (getAttr _ (Str.ofString "value") true) _ _ _); refine value_use (by assumption) (by assumption) (by assumption) (by assumption) (by assumption) (by assumption) (by assumption) (by assumption) ?_; intro h' tk' F' N')
  | ((with_reducible show wpAny _ _ (getAttr _ (Str.ofString "pos") true) _ _ _); refine pos_use (by assumption) (by assumption) (by assumption) (by assumption) (by assumption) ?_; intro tk')))
theorem append_use {A : Around} {E Q : Value → Shared → Prop} {m : Str → Option Value} {x : Value} {p1 : Addr × Obj} {l : List (Addr × Obj)} (F : Fr h₀ L s.heap m) (N : News h₀ L s.heap (p1 :: (R, listOf its n) :: l)) (h1 : p1.1 ≠ R) (h2 : ∀ y ∈ l, y.1 ≠ R) (hsz : its.size < 1000)
    (hQ : ∀ h', Fr h₀ L h' m → News h₀ L h' (p1 :: (R, listOf (its.push x) (n + 1)) :: l) → Q .none { s with heap := h' }) : wpAny (model pw w) A (call (.builtin "list.append") [.ref R, x]) Q E s :=
  append_second F N h1 h2 hQ
local macro_rules | `(tactic| walk_at "call builtin:list.append") => `(tactic| (refine append_use (by assumption) (by assumption) (by k_ne) (by assumption) (by assumption) ?_; intro h' F' N'))
theorem told_turn {Q : Flow → Shared → Prop} (hd : dp ≤ 380)
  (F : Fr h₀ L s.heap (dM S ts R (some (.ref a)))) (X : (KX w.params).In h₀) (N : News h₀ L s.heap ((R, listOf its n) :: news)) (hT : TokHere h₀ L news a D (tkO C D k t1 v n1 sl) (tdO hs tk p t3 m1 sl2)) (T : Top q loose mean mg mb h₀) (c : TokCls w.params C)
  (hsz : its.size < 1000) (hv : ∀ id, v ≠ .builtin id) (hne : ∀ x ∈ news, x.1 ≠ R)
  (hQ : ∀ h' tk' T, Fr h₀ L h' (dM S ts R (some (.ref a))) → News h₀ L h' ((T, ⟨.type "tuple", none, .seq #[.str k t1, v, .int p t3] 0, #[]⟩) :: (R, listOf (its.push (.ref T)) (n + 1)) :: news) → AllLt T news → Q .next { s with heap := h', toks := tk' }) :
  wpAny (model pw w) (ar dp un gd fr) (execs loopT (envOf nT (scopeOf nT) L f cd)) Q noE s := by
  repeat' walk1
  exact hQ _ _ _ (by assumption) (by assumption) ((‹_ ∧ AllLt _ _›).2)
end
end Mine
end

section
open PySem PySem.W PyProof.Rows PySem.Calls
set_option Elab.async false
set_option maxRecDepth 100000
set_option maxHeartbeats 1000000
set_option linter.unusedVariables false
namespace Mine
theorem def_224 {P : Params} {h : Heap} (X : (KX P).In h) : IsDef h 224 nK := isDef_of (c := 223) X rfl rfl rfl rfl rfl
theorem def_252 {P : Params} {h : Heap} (X : (KX P).In h) : IsDef h 252 nT := isDef_of (c := 251) X rfl rfl rfl rfl rfl
section
variable {w : World} {A : Around} {s : Shared} {q : Program} {loose : List Str} {mean : ExcName → Option Value} {mg mb : Str → Option Value} {S : Str} {ts : Tok}
theorem tok_start {Q E : Value → Shared → Prop} (hroom : A.depth < 900) (X : (KX w.params).In s.heap) (T : Top q loose mean mg mb s.heap)
    (hQ : ∀ L a h' tk' cd, (∀ b o, s.heap.get? b = some o → h'.get? b = some o) → Fr s.heap L h' (tS S ts) → s.heap.get? L = none → h'.IsGen a s.gens.size → s.heap.get? a = none → a ≠ L →
      Q (.ref a) { s with heap := h', toks := tk', gens := s.gens.push (.fresh (funC L 224 cd)) }) :
    wpAny (model pw w) A (call (.ref 224) [.str S ts]) Q E s := by
  obtain ⟨o, pm, cd, doc, h1, h2, h3⟩ := (def_224 X).at_
  refine wpAny_call (codeAny_call_generator (body := bodyOf nK) (Nat.lt_trans hroom (by decide)) h1 h2 rfl rfl rfl h3 ?_)
  rw [show bindArgs (docDef nK (argsOf nK) (bodyOf nK) (scopeOf nK) pm cd doc) ⟨[.str S ts], []⟩ = pure [(Str.ofString "s", .str S ts)] from rfl]
  refine wpAny_pure (wpAny_newFunctionEnv (by show ∀ x ∈ (scopeOf nK).names, x.2 ≠ .cell; decide) (by intro z hz; simp only [List.mem_singleton] at hz; subst hz; rfl) (fun h₁ hns hsb => ⟨T.nolimit.fresh _ hsb, ?_⟩) rfl)
  have hk : ∀ b o, s.heap.get? b = some o → h₁.get? b = some o := fun b o e => hsb.extBut b o (Nat.ne_of_lt (Heap.lt_size e)) (Heap.get?_push_of_some _ e)
  have F : Fr s.heap s.heap.objs.size h₁ (tS S ts) := by
    refine fr_eq ⟨hns, hk, Nat.le_refl _⟩ ?_
    funext y
    by_cases h3 : y = Str.ofString "s"
    · subst h3; simp [tS, List.lookup]
    · have h4 : (y == Str.ofString "s") = false := by simpa using h3
      simp [tS, h3, List.lookup, h4]
  have hlt : s.heap.objs.size < h₁.objs.size := by
    obtain ⟨oL, _, _, hL, _⟩ := hns
    exact Heap.lt_size hL
  refine hQ s.heap.objs.size h₁.objs.size _ _ cd (fun b o e => Heap.get?_push_of_some _ (hk b o e)) (F.push _) (Heap.get?_none_of_le (Nat.le_refl _)) ⟨_, _, _, Heap.get?_push_size _ rfl, rfl, rfl, rfl⟩ (Heap.get?_none_of_le (Nat.le_of_lt hlt)) (Nat.ne_of_gt hlt)
end
end Mine
end

section
open PySem PySem.W PyProof.Rows PySem.Calls
open Sem (wp)
set_option Elab.async false
set_option maxRecDepth 100000
set_option maxHeartbeats 1000000
set_option linter.unusedVariables false
namespace Mine
theorem si_71 (P : Params) : mroIn (KX P) 71 (.type "StopIteration") = some false := by kernel_rfl
section
variable {w : World} {A : Around} {E : Value → Shared → Prop} {s : Shared}
theorem isInst_sse {e : Addr} {Q : Bool → Shared → Prop} (X : (KX w.params).In s.heap) (he : ∃ o, s.heap.get? e = some o ∧ o.cls = .ref 71) (h : Q false s) : wpAny (model pw w) A (isInstance (.ref e) (.type "StopIteration")) Q E s := by
  obtain ⟨o, ho, hc⟩ := he
  have T : Looks (model pw w) s.heap (typeOf (.ref e)) (.ref 71) := by rw [← hc]; exact (Looks.ld ho).andThen .now
  exact (show Looks (model pw w) s.heap (isInstance (.ref e) (.type "StopIteration")) false from T.andThen (looks_mroIn X (si_71 _))).here h
abbrev RB (P : Nat → Shared → Shared → Prop) (PE : Nat → Shared → Addr → Shared → Prop) : GenEnd := fun n s₀ r s₁ => (r = .ok (.ret .none) ∧ P n s₀ s₁) ∨ ∃ e, r = .error (.ref e) ∧ PE n s₀ e s₁
theorem pyNext_gen {a : Addr} {g n : Nat} {gs : GenState} {P : Nat → Shared → Shared → Prop} {PE : Nat → Shared → Addr → Shared → Prop} {Y : Protocol} {Q : Option Value → Shared → Prop} (hh : A.handled = none)
    (hl : s.heap.NoLimit) (hroom : A.depth < recursionLimit) (hg : s.heap.IsGen a g) (hgs : s.gens[g]? = some gs)
    (hgo : gs.Goes (model pw w) A.in1 (RB P PE) Y n (.send .none) (s.setGen g .running))
    (hY : ∀ v s₁ gs', Y (n - 1) (s.setGen g .running) v s₁ (fun r' s'' => match n with
        | 0 => False
        | m + 1 => gs'.Goes (model pw w) A.in1 (RB P PE) Y m r' s'') → Q (some v) (s₁.setGen g gs'))
    (hP : ∀ s₁, P n (s.setGen g .running) s₁ → ∀ h', (∀ b o, s₁.heap.get? b = some o → h'.get? b = some o) → Q none { s₁.setGen g .finished with heap := h' })
    (hE : ∀ e s₁, PE n (s.setGen g .running) e s₁ → (KX w.params).In s₁.heap ∧ (∃ o, s₁.heap.get? e = some o ∧ o.cls = .ref 71) ∧ s₁.heap.IsGen a g ∧ E (.ref e) (s₁.setGen g .finished)) :
    wpAny (model pw w) A (pyNext (.ref a)) Q E s := by
  unfold pyNext
  refine wpAny_bind (wpAny_attempt (wpAny_callSpecial?_slot (name := Str.ofString "__next__") hg.typeIs slot_gen_next
    (wpAny_call_entry slot_gen_next hg.typeIs entry_gen_next ?_ (args_gen_next _))))
  show wpAny _ _ (Builtin.Generator.genWake (.ref a) (.send .none)) _ _ s
  unfold Builtin.Generator.genWake
  refine wpAny_bind (wpAny_holding (wpAny_genNumber hg (wpAny_bind (wpAny_genState hgs ?_))))
  cases gs with
  | running => exact hgo.elim
  | finished => exact hgo.elim
  | _ =>
    refine wpAny_bind (wpAny_roomToWake hl hroom ?_)
    show wpAny _ _ (.resume g (.send .none) [] _) _ _ s
    refine wpAny_resume hgs hgo (fun x s₁ hx => ?_) (fun v s₁ gs' hv => ?_)
    · rcases hx with ⟨rfl, hp⟩ | ⟨e, rfl, he⟩
      · show wpAny _ _ (newExc (.type "StopIteration") [] >>= _) _ _ _
        refine wpAny_bind ?_
        simp only [newExc, newTuple]
        refine wpAny_bind (wpAny_newObj_type ?_ (by size_fits))
        refine wpAny_bind (m := firstArgMember _ _) (wpAny_of_eq (a := Value.none) (by first | rfl | (simp only [firstArgMember]; rfl)) ?_)
        refine wpAny_newObj_type ?_ (by size_fits)
        simp only [raiseNew]
        refine wpAny_bind (wpAny_bind (wpAny_handled ?_))
        rw [show A.in1.handled = none from hh]
        refine wpAny_throw ?_
        refine wpAny_bind (wpAny_isInstance (T := "StopIteration") (b := true) ⟨_, Heap.get?_push_size _ rfl, rfl⟩ isSubtype_stop ?_)
        exact wpAny_pure (hP s₁ hp _ fun b o hb => Heap.get?_push_of_some _ (Heap.get?_push_of_some _ hb))
      · obtain ⟨X, hc, ⟨o, nm, qn, ho, hcl, hd, hsl⟩, hE⟩ := hE e s₁ he
        show wpAny _ _ (Builtin.Generator.genLeft (.ref a) (.ref e)) _ _ _
        unfold Builtin.Generator.genLeft Builtin.Generator.madeByALambda Builtin.Generator.genEscaped
        refine wpAny_bind (wpAny_bind (wpAny_load ho (wpAny_pure ?_)))
        rw [hcl, hd]
        refine wpAny_bind (isInst_sse X hc ?_)
        simp only [Bool.and_false, Bool.false_eq_true, if_false]
        refine wpAny_bind (isInst_sse X hc ?_)
        simp only [Bool.not_false, if_true]
        refine wpAny_bind (wpAny_throw ?_)
        refine wpAny_bind (isInst_sse X hc ?_)
        exact wpAny_throw hE
    · exact wpAny_pure ⟨v, rfl, wpAny_pure (hY v s₁ gs' hv)⟩
end
end Mine
end

section
open PySem PySem.W PyProof.Rows PySem.Calls
set_option Elab.async false
set_option maxRecDepth 100000
set_option maxHeartbeats 4000000
set_option linter.unusedVariables false
set_option pp.deepTerms false
set_option pp.maxSteps 3000
namespace Mine
abbrev nC : Str := "_law_cell"
theorem def_245 {P : Params} {h : Heap} (X : (KX P).In h) : IsDef h 245 nC := isDef_of (c := 244) X rfl rfl rfl rfl rfl
section
variable {w : World} {dp un : Nat} {gd : Option (List Code)} {fr : Option (List Env)} {s : Shared} {q : Program} {loose : List Str} {mean : ExcName → Option Value} {mg mb : Str → Option Value} {sc : Addr} {vs : List Value} {ns : List Int} {at' : Int} {t : Tok}
local macro_rules | `(tactic| walk_at "call builtin:len") => `(tactic| (refine len_list (Fr.lst (by assumption) (by assumption)) (by omega) ?_))
local macro_rules | `(tactic| walk_at "subscriptTail Name Name ref int") => `(tactic| (refine item_anyK (Fr.lst (by assumption) (by assumption)) (by assumption) (by assumption) (by omega) (by omega) ?_; intro _))
theorem cell_call {Q E : Value → Shared → Prop} (hd : dp < 800) (X : (KX w.params).In s.heap) (T : Top q loose mean mg mb s.heap) (hl : s.heap.IsList sc vs.toArray) (hi : IntsAre vs ns) (hsz : vs.toArray.size = ns.length) (hlen : ns.length ≤ 1000) (h0 : 0 ≤ at') (h1 : at' ≤ 1000)
    (hQ : ∀ h' c t' tk', (∀ b o, s.heap.get? b = some o → h'.get? b = some o) → 0 ≤ c → c < 1000003 → Q (.int c t') { s with heap := h', toks := tk' }) :
    wpAny (model pw w) (ar dp un gd fr) (call (.ref 245) [.ref sc, .int at' t]) Q E s := by
  obtain ⟨o, pm, cd, doc, e1, e2, e3⟩ := (def_245 X).at_
  refine wpAny_call (call_pos_ret (Nat.lt_trans hd (by decide)) e1 e2 T.nolimit e3 rfl (locs rfl) (fun h₁ F => ?_) rfl rfl rfl (by decide))
  have N : News s.heap s.heap.objs.size h₁ [] := News.nil
  repeat' walk1
  · exact hQ _ _ _ _ F.keep (Int.fmod_nonneg_of_pos _ (by decide)) (Int.fmod_lt_of_pos _ (by decide))
  · exact hQ _ _ _ _ F.keep (by omega) (by omega)
end
end Mine
end

section
open PySem PySem.W PyProof.Rows PySem.Calls PySem.W.X
set_option Elab.async false
set_option maxRecDepth 100000
set_option maxHeartbeats 4000000
set_option linter.unusedVariables false
namespace Mine
abbrev tup3 (x y z : Value) : Obj := ⟨.type "tuple", none, .seq #[x, y, z] 0, #[]⟩
def PIECES : List (Str × Str × Str) := [(" ", "S", " "), ("\t \n", "S", " "), ("a", "IDENT", "a"), ("b-C", "IDENT", "b-C"), ("-x_1", "IDENT", "-x_1"), ("éa", "IDENT", "éa"), ("\\+d", "IDENT", "+d"), ("e\\41 f", "IDENT", "eAf"), ("#a-1", "HASH", "a-1"), ("#0", "HASH", "0"), ("'t u'", "STRING", "t u"), ("\"v'\"", "STRING", "v'"), ("''", "STRING", ""), ("'w\\\nx'", "STRING", "wx"), ("7", "NUMBER", "7"), ("+12", "NUMBER", "+12"), ("-.5", "NUMBER", "-.5"), ("3.25", "NUMBER", "3.25"), (".", "DELIM", "."), (">", "DELIM", ">"), ("+", "DELIM", "+"), ("*", "DELIM", "*"), ("(", "DELIM", "("), ("]", "DELIM", "]"), ("#", "DELIM", "#"), (":", "DELIM", ":"), ("|", "DELIM", "|")]
def REMARKS : List Str := ["/**/", "/* a 'b */", "/*\n*/"]
inductive Pcs (g : Addr → Prop) (h : Heap) : List Value → List (Str × Str × Str) → Prop
  | nil : Pcs g h [] []
  | cons {vs : List Value} {ps : List (Str × Str × Str)} {T : Addr} {p : Str × Str × Str} {t1 t2 t3 : Tok} : h.get? T = some (tup3 (.str p.1 t1) (.str p.2.1 t2) (.str p.2.2 t3)) → g T → Pcs g h vs ps → Pcs g h (.ref T :: vs) (p :: ps)
theorem Mem.new {h₀ h : Heap} {chg news : List (Addr × Obj)} (D : Mem h₀ h chg news) (i : Nat) (a : Addr) (o : Obj) (hi : news[i]? = some (a, o)) : h₀.get? a = none := (D.nw _ (List.mem_of_getElem? hi)).2
theorem pcs_end {Q : Value → Shared → Prop} {h h' : Heap} {news : List (Addr × Obj)} {a : Addr} {vs : List Value} {g : Array GenState} {d : Drawn} {tk' : Nat} {os : OsState} (D : Mem h h' [] news)
    (e : h'.get? a = some (listOf vs.toArray 0)) (hp : Pcs (fun T => h.get? T = none) h' vs PIECES)
    (hQ : ∀ h' tk' a vs, (∀ b o, h.get? b = some o → h'.get? b = some o) → h'.get? a = some (listOf vs.toArray 0) → Pcs (fun T => h.get? T = none) h' vs PIECES → Q (.ref a) ⟨h', g, d, tk', os⟩) : Q (.ref a) ⟨h', g, d, tk', os⟩ := hQ _ _ _ _ (Mine.Mem.keeps' D) e hp
theorem rem_end {Q : Value → Shared → Prop} {h h' : Heap} {news : List (Addr × Obj)} {a : Addr} {vs : List Value} {g : Array GenState} {d : Drawn} {tk' : Nat} {os : OsState} (D : Mem h h' [] news)
    (e : h'.get? a = some (listOf vs.toArray 0)) (hp : StrsAre vs REMARKS)
    (hQ : ∀ h' tk' a vs, (∀ b o, h.get? b = some o → h'.get? b = some o) → h'.get? a = some (listOf vs.toArray 0) → StrsAre vs REMARKS → Q (.ref a) ⟨h', g, d, tk', os⟩) : Q (.ref a) ⟨h', g, d, tk', os⟩ := hQ _ _ _ _ (Mine.Mem.keeps' D) e hp
section
local macro_rules | `(tactic| x_close) => `(tactic| ((rename Mem _ _ _ _ => D'); refine rem_end D' (Mem.at D' 0 _ _ rfl) ?_ ?_; exact .cons _ _ (.cons _ _ (.cons _ _ .nil)); assumption))
theorem rem_run {w : World} {gd : Option (List Code)} {fr : Option (List Env)} {Q E : Value → Shared → Prop} {h : Heap} {g : Array GenState} {d : Drawn} {t : Nat} {os : OsState}
  (X : (KX w.params).In h) (hQ : ∀ h' tk' a vs, (∀ b o, h.get? b = some o → h'.get? b = some o) → h'.get? a = some (listOf vs.toArray 0) → StrsAre vs REMARKS → Q (.ref a) ⟨h', g, d, tk', os⟩) : wpAny (model pw w) { handled := none, depth := 400, frames := fr, guards := gd, units := 100 } (PySem.call (.ref 238) []) Q E ⟨h, g, d, t, os⟩ := by
  x_run
end
section
local macro_rules | `(tactic| x_close) => `(tactic| ((rename Mem _ _ _ _ => D'); refine pcs_end D' (Mem.at D' 0 _ _ rfl) ?_ ?_; exact .cons (Mem.at D' 27 _ _ rfl) (Mem.new D' 27 _ _ rfl) (.cons (Mem.at D' 26 _ _ rfl) (Mem.new D' 26 _ _ rfl) (.cons (Mem.at D' 25 _ _ rfl) (Mem.new D' 25 _ _ rfl) (.cons (Mem.at D' 24 _ _ rfl) (Mem.new D' 24 _ _ rfl) (.cons (Mem.at D' 23 _ _ rfl) (Mem.new D' 23 _ _ rfl) (.cons (Mem.at D' 22 _ _ rfl) (Mem.new D' 22 _ _ rfl) (.cons (Mem.at D' 21 _ _ rfl) (Mem.new D' 21 _ _ rfl) (.cons (Mem.at D' 20 _ _ rfl) (Mem.new D' 20 _ _ rfl) (.cons (Mem.at D' 19 _ _ rfl) (Mem.new D' 19 _ _ rfl) (.cons (Mem.at D' 18 _ _ rfl) (Mem.new D' 18 _ _ rfl) (.cons (Mem.at D' 17 _ _ rfl) (Mem.new D' 17 _ _ rfl) (.cons (Mem.at D' 16 _ _ rfl) (Mem.new D' 16 _ _ rfl) (.cons (Mem.at D' 15 _ _ rfl) (Mem.new D' 15 _ _ rfl) (.cons (Mem.at D' 14 _ _ rfl) (Mem.new D' 14 _ _ rfl) (.cons (Mem.at D' 13 _ _ rfl) (Mem.new D' 13 _ _ rfl) (.cons (Mem.at D' 12 _ _ rfl) (Mem.new D' 12 _ _ rfl) (.cons (Mem.at D' 11 _ _ rfl) (Mem.new D' 11 _ _ rfl) (.cons (Mem.at D' 10 _ _ rfl) (Mem.new D' 10 _ _ rfl) (.cons (Mem.at D' 9 _ _ rfl) (Mem.new D' 9 _ _ rfl) (.cons (Mem.at D' 8 _ _ rfl) (Mem.new D' 8 _ _ rfl) (.cons (Mem.at D' 7 _ _ rfl) (Mem.new D' 7 _ _ rfl) (.cons (Mem.at D' 6 _ _ rfl) (Mem.new D' 6 _ _ rfl) (.cons (Mem.at D' 5 _ _ rfl) (Mem.new D' 5 _ _ rfl) (.cons (Mem.at D' 4 _ _ rfl) (Mem.new D' 4 _ _ rfl) (.cons (Mem.at D' 3 _ _ rfl) (Mem.new D' 3 _ _ rfl) (.cons (Mem.at D' 2 _ _ rfl) (Mem.new D' 2 _ _ rfl) (.cons (Mem.at D' 1 _ _ rfl) (Mem.new D' 1 _ _ rfl) (.nil))))))))))))))))))))))))))); assumption))
theorem pcs_run {w : World} {gd : Option (List Code)} {fr : Option (List Env)} {Q E : Value → Shared → Prop} {h : Heap} {g : Array GenState} {d : Drawn} {t : Nat} {os : OsState}
  (X : (KX w.params).In h) (hQ : ∀ h' tk' a vs, (∀ b o, h.get? b = some o → h'.get? b = some o) → h'.get? a = some (listOf vs.toArray 0) → Pcs (fun T => h.get? T = none) h' vs PIECES → Q (.ref a) ⟨h', g, d, tk', os⟩) : wpAny (model pw w) { handled := none, depth := 400, frames := fr, guards := gd, units := 100 } (PySem.call (.ref 231) []) Q E ⟨h, g, d, t, os⟩ := by
  x_run
end
end Mine
end

section
open PySem PySem.W PyProof.Rows PySem.Calls
set_option Elab.async false
set_option maxRecDepth 100000
set_option maxHeartbeats 4000000
set_option linter.unusedVariables false
set_option pp.deepTerms false
set_option pp.maxSteps 3000
namespace Mine
abbrev nW : Str := "law"
def lB (i : Nat) : Stmt := (bodyOf nW).getD i (.Pass ⟨0,0,0,0⟩)
def forBodyOf : Stmt → List Stmt | .For _ _ b _ _ => b | _ => []
def lL (i : Nat) : Stmt := (forBodyOf (lB 1)).getD i (.Pass ⟨0,0,0,0⟩)
theorem loopW_eq : forBodyOf (lB 1) = [lL 0, lL 1, lL 2, lL 3] := by kernel_rfl
theorem def_259 {P : Params} {h : Heap} (X : (KX P).In h) : IsDef h 259 nW := isDef_of (c := 258) X rfl rfl rfl rfl rfl
abbrev lM (sc : Addr) (S : Str) (ts : Tok) (D : Addr) (ao co po eo : Option Value) : Str → Option Value := fun y =>
  if y = "script" then some (.ref sc) else if y = "text" then some (.str S ts) else if y = "due" then some (.ref D) else if y = "at" then ao else if y = "cell" then co else if y = "piece" then po else if y = "end" then eo else none
section
variable {sc D : Addr} {S : Str} {ts : Tok} {ao co po eo : Option Value}
theorem lM_at {v : Value} : (fun y => if y = Str.ofString "at" then some v else lM sc S ts D ao co po eo y) = lM sc S ts D (some v) co po eo := by (funext y; simp only [lM]; (repeat' split) <;> first | rfl | (subst_vars; first | contradiction | (exfalso; revert ‹Str.ofString _ = Str.ofString _›; decide)) | simp_all)
theorem lM_cell {v : Value} : (fun y => if y = Str.ofString "cell" then some v else lM sc S ts D ao co po eo y) = lM sc S ts D ao (some v) po eo := by (funext y; simp only [lM]; (repeat' split) <;> first | rfl | (subst_vars; first | contradiction | (exfalso; revert ‹Str.ofString _ = Str.ofString _›; decide)) | simp_all)
theorem lM_piece {v : Value} : (fun y => if y = Str.ofString "piece" then some v else lM sc S ts D ao co po eo y) = lM sc S ts D ao co (some v) eo := by (funext y; simp only [lM]; (repeat' split) <;> first | rfl | (subst_vars; first | contradiction | (exfalso; revert ‹Str.ofString _ = Str.ofString _›; decide)) | simp_all)
theorem lM_end {v : Value} : (fun y => if y = Str.ofString "end" then some v else lM sc S ts D ao co po eo y) = lM sc S ts D ao co po (some v) := by (funext y; simp only [lM]; (repeat' split) <;> first | rfl | (subst_vars; first | contradiction | (exfalso; revert ‹Str.ofString _ = Str.ofString _›; decide)) | simp_all)
theorem lM_text {S' : Str} {t' : Tok} : (fun y => if y = Str.ofString "text" then some (Value.str S' t') else lM sc S ts D ao co po eo y) = lM sc S' t' D ao co po eo := by (funext y; simp only [lM]; (repeat' split) <;> first | rfl | (subst_vars; first | contradiction | (exfalso; revert ‹Str.ofString _ = Str.ofString _›; decide)) | simp_all)
end
theorem ar_mono2 {α : Type} {M : Model} {dp un dp' un' : Nat} {gd : Option (List Code)} {fr : Option (List Env)} {t : Sem α} {Q : α → Shared → Prop} {E : Value → Shared → Prop} {s : Shared} (hd : dp ≤ dp') (hu : un ≤ un')
    (h : wpAny M (ar dp' un' gd fr) t Q E s) : wpAny M (ar dp un gd fr) t Q E s := fun Γ p hΓ => h Γ p ⟨hΓ.1, Nat.le_trans hΓ.2.1 hd, hΓ.2.2.1, hΓ.2.2.2.1, Nat.le_trans hΓ.2.2.2.2 hu⟩
section
variable {w : World} {dp un : Nat} {gd : Option (List Code)} {fr : Option (List Env)} {s : Shared} {h₀ : Heap} {L f : Addr} {cd : Value} {q : Program} {loose : List Str} {mean : ExcName → Option Value} {mg mb : Str → Option Value}
  {sc D T : Addr} {S : Str} {ts : Tok} {ao co po eo : Option Value} {news : List (Addr × Obj)} {vs : List Value} {ns : List Int} {its : Array Value} {n : Nat}
theorem cell_use {Q E : Value → Shared → Prop} {m : Str → Option Value} {k : Int} {t : Tok} (hd : dp < 800) (X : (KX w.params).In h₀) (T : Top q loose mean mg mb h₀) (F : Fr h₀ L s.heap m) (N : News h₀ L s.heap news) (hl : h₀.IsList sc vs.toArray) (hi : IntsAre vs ns) (hsz : vs.toArray.size = ns.length) (hlen : ns.length ≤ 1000) (h0 : 0 ≤ k) (h1 : k ≤ 1000)
    (hQ : ∀ h' c t' tk', Fr h₀ L h' m → News h₀ L h' news → 0 ≤ c → c < 1000003 → Q (.int c t') { s with heap := h', toks := tk' }) :
    wpAny (model pw w) (ar dp un gd fr) (call (.ref 245) [.ref sc, .int k t]) Q E s :=
  cell_call hd (X.keeps F.keep) (T.keeps F.keep) (F.lst hl) hi hsz hlen h0 h1 fun h' c t' tk' hk => hQ h' c t' tk' ⟨F.ns.keeps hk, fun b o e => hk b o (F.keep b o e), F.above⟩ fun p hp => ⟨hk _ _ (N p hp).1, (N p hp).2⟩
theorem Pcs.mono {g g' : Addr → Prop} {h : Heap} {vs : List Value} {ps : List (Str × Str × Str)} (x : Pcs g h vs ps) (k : ∀ T, g T → g' T) : Pcs g' h vs ps := by
  induction x with
  | nil => exact .nil
  | cons e n _ ih => exact .cons e (k _ n) ih
theorem pcs_use {Q E : Value → Shared → Prop} {m : Str → Option Value} (hd : dp ≤ 400) (hu : un ≤ 100) (X : (KX w.params).In h₀) (F : Fr h₀ L s.heap m) (N : News h₀ L s.heap news)
    (hQ : ∀ h' tk' a vs, Fr h₀ L h' m → News h₀ L h' news → h'.get? a = some (listOf vs.toArray 0) → Pcs (fun T => T ≠ L ∧ h₀.get? T = none) h' vs PIECES → Q (.ref a) { s with heap := h', toks := tk' }) :
    wpAny (model pw w) (ar dp un gd fr) (call (.ref 231) []) Q E s :=
  ar_mono2 hd hu (pcs_run (X.keeps F.keep) fun h' tk' a vs hk e hp => hQ h' tk' a vs ⟨F.ns.keeps hk, fun b o e => hk b o (F.keep b o e), F.above⟩ (fun p hp => ⟨hk _ _ (N p hp).1, (N p hp).2⟩) e (hp.mono fun T hT =>
    And.intro (fun z => by obtain ⟨oL, _, _, hL, _⟩ := F.ns; rw [z, hL] at hT; cases hT) (by cases q : h₀.get? T with | none => rfl | some o => (rw [F.keep _ _ q] at hT; cases hT))))
theorem rem_use {Q E : Value → Shared → Prop} {m : Str → Option Value} (hd : dp ≤ 400) (hu : un ≤ 100) (X : (KX w.params).In h₀) (F : Fr h₀ L s.heap m) (N : News h₀ L s.heap news)
    (hQ : ∀ h' tk' a vs, Fr h₀ L h' m → News h₀ L h' news → h'.get? a = some (listOf vs.toArray 0) → StrsAre vs REMARKS → Q (.ref a) { s with heap := h', toks := tk' }) :
    wpAny (model pw w) (ar dp un gd fr) (call (.ref 238) []) Q E s :=
  ar_mono2 hd hu (rem_run (X.keeps F.keep) fun h' tk' a vs hk => hQ h' tk' a vs ⟨F.ns.keeps hk, fun b o e => hk b o (F.keep b o e), F.above⟩ fun p hp => ⟨hk _ _ (N p hp).1, (N p hp).2⟩)
theorem Pcs.get {g : Addr → Prop} {h : Heap} {vs : List Value} {ps : List (Str × Str × Str)} (x : Pcs g h vs ps) : ∀ j, j < ps.length → ∃ T p t1 t2 t3, vs[j]? = some (.ref T) ∧ ps[j]? = some p ∧ h.get? T = some (tup3 (.str p.1 t1) (.str p.2.1 t2) (.str p.2.2 t3)) ∧ g T := by
  induction x with
  | nil => intro j hj; exact absurd hj (Nat.not_lt_zero _)
  | @cons vs ps T p t1 t2 t3 e n _ ih =>
    intro j hj
    cases j with
    | zero => exact ⟨T, p, t1, t2, t3, rfl, rfl, e, n⟩
    | succ j => exact ih j (Nat.lt_of_succ_lt_succ hj)
theorem strs_get {vs : List Value} {ys : List Str} (x : StrsAre vs ys) : ∀ j, j < ys.length → ∃ y t, vs[j]? = some (.str y t) ∧ ys[j]? = some y := by
  induction x with
  | nil => intro j hj; exact absurd hj (Nat.not_lt_zero _)
  | cons y t _ ih =>
    intro j hj
    cases j with
    | zero => exact ⟨_, _, rfl, rfl⟩
    | succ j => exact ih j (Nat.lt_of_succ_lt_succ hj)
theorem list_item {A : Around} {Q E : Value → Shared → Prop} {value slice : Expr} {a : Addr} {k : Int} {u : Tok} {x : Value} (e : s.heap.get? a = some (listOf vs.toArray 0)) (h0 : 0 ≤ k) (h1 : k < 1000) (hx : vs[k.toNat]? = some x) (h : Q x s)
    (hs : subscripted slice false (.ref a) (.int k u) = operate [.ref a, .int k u] (getItem (.ref a) (.int k u)) := by with_unfolding_all rfl) : wpAny (model pw w) A (subscriptTail value slice (.ref a) (.int k u)) Q E s :=
  have hl : s.heap.IsList a vs.toArray := ⟨_, e, rfl, _, rfl⟩
  tail_any hl.typeIs slot_list_getitem.lookup (wpAny_getItem_list hl h0 (by omega) (by simpa using hx) h) hs
theorem pcs_item {A : Around} {Q E : Value → Shared → Prop} {value slice : Expr} {a : Addr} {k : Int} {u : Tok} (e : s.heap.get? a = some (listOf vs.toArray 0)) (hp : Pcs (fun T => T ≠ L ∧ h₀.get? T = none) s.heap vs PIECES) (h0 : 0 ≤ k) (h1 : k < 27) (N : News h₀ L s.heap news)
    (h : ∀ T p t1 t2 t3, p ∈ PIECES → News h₀ L s.heap ((T, tup3 (.str p.1 t1) (.str p.2.1 t2) (.str p.2.2 t3)) :: news) → Q (.ref T) s)
    (hs : subscripted slice false (.ref a) (.int k u) = operate [.ref a, .int k u] (getItem (.ref a) (.int k u)) := by with_unfolding_all rfl) : wpAny (model pw w) A (subscriptTail value slice (.ref a) (.int k u)) Q E s := by
  obtain ⟨T, p, t1, t2, t3, e1, e2, e3, n⟩ := hp.get k.toNat (by show k.toNat < 27; omega)
  exact list_item e h0 (by omega) e1 (h T p t1 t2 t3 (List.mem_of_getElem? e2) fun x hx => by
    rcases List.mem_cons.mp hx with rfl | hx
    · exact ⟨e3, n⟩
    · exact N x hx) hs
theorem rem_len : ∀ r ∈ REMARKS, r.length ≤ 10 := by decide
theorem rem_item {A : Around} {Q E : Value → Shared → Prop} {value slice : Expr} {a : Addr} {k : Int} {u : Tok} (e : s.heap.get? a = some (listOf vs.toArray 0)) (hp : StrsAre vs REMARKS) (h0 : 0 ≤ k) (h1 : k < 3)
    (h : ∀ r t, r ∈ REMARKS → r.length ≤ 10 → Q (.str r t) s)
    (hs : subscripted slice false (.ref a) (.int k u) = operate [.ref a, .int k u] (getItem (.ref a) (.int k u)) := by with_unfolding_all rfl) : wpAny (model pw w) A (subscriptTail value slice (.ref a) (.int k u)) Q E s := by
  obtain ⟨y, t, e1, e2⟩ := strs_get hp k.toNat (by show k.toNat < 3; omega)
  exact list_item e h0 (by omega) e1 (h y t (List.mem_of_getElem? e2) (rem_len _ (List.mem_of_getElem? e2))) hs
abbrev PcHere (h₀ : Heap) (L : Addr) (news : List (Addr × Obj)) (T : Addr) (o : Obj) : Prop := ∀ h' m', Fr h₀ L h' m' → News h₀ L h' news → h'.get? T = some o
theorem tup_item {A : Around} {Q E : Value → Shared → Prop} {value slice : Expr} {k : Int} {u : Tok} {x y z v : Value} {m : Str → Option Value} (hP : PcHere h₀ L news T (tup3 x y z)) (F : Fr h₀ L s.heap m) (N : News h₀ L s.heap news)
    (hk : k = 0 ∧ v = x ∨ k = 1 ∧ v = y ∨ k = 2 ∧ v = z) (h : Q v s)
    (hs : subscripted slice false (.ref T) (.int k u) = operate [.ref T, .int k u] (getItem (.ref T) (.int k u)) := by with_unfolding_all rfl) : wpAny (model pw w) A (subscriptTail value slice (.ref T) (.int k u)) Q E s := by
  have ht : IsTup s.heap T [x, y, z].toArray := ⟨_, hP _ _ F N, rfl, _, rfl⟩
  rcases hk with ⟨rfl, rfl⟩ | ⟨rfl, rfl⟩ | ⟨rfl, rfl⟩
  · exact item_tupleT (j := 0) ht (by decide) (by decide) (by show seqIndex? 0 3 = some 0; decide) rfl h hs
  · exact item_tupleT (j := 1) ht (by decide) (by decide) (by show seqIndex? 1 3 = some 1; decide) rfl h hs
  · exact item_tupleT (j := 2) ht (by decide) (by decide) (by show seqIndex? 2 3 = some 2; decide) rfl h hs
local macro_rules | `(tactic| walk_at "subscriptTail Name BinOp ref int") => `(tactic| (first
  | (refine pcs_item (by assumption) (by assumption) (by first | omega | exact Int.fmod_nonneg_of_pos _ (by decide)) (by first | omega | exact Int.fmod_lt_of_pos _ (by decide)) (by assumption) ?_; intro T' p' t1' t2' t3' hp' N'')
  | (refine rem_item (by assumption) (by assumption) (by first | omega | exact Int.fmod_nonneg_of_pos _ (by decide)) (by first | omega | exact Int.fmod_lt_of_pos _ (by decide)) ?_; intro r' t' hr' hl')))
local macro_rules | `(tactic| walk_at "subscriptTail Name Constant ref int") => `(tactic| (first
  | (refine tup_item (by assumption) (by assumption) (by assumption) (by first | exact .inl ⟨rfl, rfl⟩ | exact .inr (.inl ⟨rfl, rfl⟩) | exact .inr (.inr ⟨rfl, rfl⟩)) ?_)
  | (refine tup_item (by assumption) (by assumption) (news_tail (by assumption)) (by first | exact .inl ⟨rfl, rfl⟩ | exact .inr (.inl ⟨rfl, rfl⟩) | exact .inr (.inr ⟨rfl, rfl⟩)) ?_)))
theorem append_useW {A : Around} {E Q : Value → Shared → Prop} {m : Str → Option Value} {x : Value} {p1 : Addr × Obj} {l : List (Addr × Obj)} (F : Fr h₀ L s.heap m) (N : News h₀ L s.heap (p1 :: (D, listOf its n) :: l)) (h1 : p1.1 ≠ D) (h2 : ∀ y ∈ l, y.1 ≠ D) (hsz : its.size < 1000)
    (hQ : ∀ h', Fr h₀ L h' m → News h₀ L h' (p1 :: (D, listOf (its.push x) (n + 1)) :: l) → Q .none { s with heap := h' }) : wpAny (model pw w) A (call (.builtin "list.append") [.ref D, x]) Q E s :=
  append_second F N h1 h2 hQ
local macro_rules | `(tactic| walk_at "call builtin:list.append") => `(tactic| (refine append_useW (by assumption) (by assumption) (by k_ne) (by assumption) (by assumption) ?_; intro h' F' N'))
local macro_rules | `(tactic| walk_at "call ref") => `(tactic| (first
  | (refine cell_use (by assumption) (by assumption) (by assumption) (by assumption) (by assumption) (by assumption) (by assumption) (by assumption) (by assumption) (by omega) (by omega) ?_; intro h' c t' tk' F' N' lo hi')
  | (refine pcs_use (by omega) (by omega) (by assumption) (by assumption) (by assumption) ?_; intro h' tk' a vs F' N' e' p')
  | (refine rem_use (by omega) (by omega) (by assumption) (by assumption) (by assumption) ?_; intro h' tk' a vs F' N' e' p')))
theorem l0 {Q : Flow → Shared → Prop} {k : Int} {kt : Tok} (hd : dp ≤ 360) (hu : un ≤ 30) (hd' : dp < 800) (F : Fr h₀ L s.heap (lM sc S ts D (some (.int k kt)) co po eo)) (X : (KX w.params).In h₀) (Tp : Top q loose mean mg mb h₀) (N : News h₀ L s.heap news) (hl : h₀.IsList sc vs.toArray) (hi : IntsAre vs ns) (hsz : vs.toArray.size = ns.length) (hlen : ns.length ≤ 1000) (h0 : 0 ≤ k) (h1 : k ≤ 100)
    (hQ : ∀ h' c t' tk', Fr h₀ L h' (lM sc S ts D (some (.int k kt)) (some (.int c t')) po eo) → News h₀ L h' news → 0 ≤ c → c < 1000003 → Q .next { s with heap := h', toks := tk' }) :
    wpAny (model pw w) (ar dp un gd fr) (exec (lL 0) (envOf nW (scopeOf nW) L f cd)) Q noE s := by
  change wpAny _ _ (exec (Stmt.Assign _ _ _) _) Q noE s
  repeat' walk1
  exact hQ _ _ _ _ (fr_eq (by assumption) lM_cell) (by assumption) (by assumption) (by assumption)
theorem l1 {Q : Flow → Shared → Prop} {c : Int} {ct : Tok} (hd : dp ≤ 360) (hu : un ≤ 30) (F : Fr h₀ L s.heap (lM sc S ts D ao (some (.int c ct)) po eo)) (X : (KX w.params).In h₀) (Tp : Top q loose mean mg mb h₀) (N : News h₀ L s.heap news) (h0 : 0 ≤ c) (h1 : c < 1000003)
    (hQ : ∀ h' tk' T p t1 t2 t3, Fr h₀ L h' (lM sc S ts D ao (some (.int c ct)) (some (.ref T)) eo) → p ∈ PIECES → News h₀ L h' ((T, tup3 (.str p.1 t1) (.str p.2.1 t2) (.str p.2.2 t3)) :: news) → Q .next { s with heap := h', toks := tk' }) :
    wpAny (model pw w) (ar dp un gd fr) (exec (lL 1) (envOf nW (scopeOf nW) L f cd)) Q noE s := by
  change wpAny _ _ (exec (Stmt.Assign _ _ _) _) Q noE s
  repeat' walk1
  exact hQ _ _ _ _ _ _ _ (fr_eq (by assumption) lM_piece) (by assumption) (by assumption)
theorem l2 {Q : Flow → Shared → Prop} {p : Str × Str × Str} {t1 t2 t3 : Tok} (hd : dp ≤ 360) (hu : un ≤ 30) (F : Fr h₀ L s.heap (lM sc S ts D ao co (some (.ref T)) eo)) (X : (KX w.params).In h₀) (Tp : Top q loose mean mg mb h₀) (N : News h₀ L s.heap ((D, listOf its n) :: news)) (hS : S.length ≤ 1000) (hP : PcHere h₀ L news T (tup3 (.str p.1 t1) (.str p.2.1 t2) (.str p.2.2 t3))) (hne : ∀ x ∈ news, x.1 ≠ D) (hn : its.size < 1000)
    (hQ : ∀ h' tk' TT t1 t2 t3, Fr h₀ L h' (lM sc S ts D ao co (some (.ref T)) eo) → News h₀ L h' ((TT, tup3 (.str p.2.1 t1) (.str p.2.2 t2) (.int S.length t3)) :: (D, listOf (its.push (.ref TT)) (n + 1)) :: news) → Q .next { s with heap := h', toks := tk' }) :
    wpAny (model pw w) (ar dp un gd fr) (exec (lL 2) (envOf nW (scopeOf nW) L f cd)) Q noE s := by
  change wpAny _ _ (exec (Stmt.Expr _ _) _) Q noE s
  repeat' walk1
  exact hQ _ _ _ _ _ _ (by assumption) (by assumption)
theorem l3 {Q : Flow → Shared → Prop} {p : Str × Str × Str} {t1 t2 t3 : Tok} {c : Int} {ct : Tok}  (hd : dp ≤ 360) (hu : un ≤ 30) (F : Fr h₀ L s.heap (lM sc S ts D ao (some (.int c ct)) (some (.ref T)) eo)) (X : (KX w.params).In h₀) (Tp : Top q loose mean mg mb h₀) (N : News h₀ L s.heap news) (hS : S.length ≤ 1000) (hP : PcHere h₀ L news T (tup3 (.str p.1 t1) (.str p.2.1 t2) (.str p.2.2 t3))) (h0 : 0 ≤ c) (h1 : c < 1000003) (hp : p.1.length ≤ 100)
    (hQ : ∀ h' tk' t' r, r ∈ REMARKS → Fr h₀ L h' (lM sc (S ++ p.1 ++ r) t' D ao (some (.int c ct)) (some (.ref T)) eo) → News h₀ L h' news → Q .next { s with heap := h', toks := tk' }) :
    wpAny (model pw w) (ar dp un gd fr) (exec (lL 3) (envOf nW (scopeOf nW) L f cd)) Q noE s := by
  change wpAny _ _ (exec (Stmt.Assign _ _ _) _) Q noE s
  repeat' walk1
  exact hQ _ _ _ _ (by assumption) (fr_eq (by assumption) lM_text) (by assumption)
end
end Mine
end

section
open PySem PySem.W PyProof.Rows PySem.Calls
open Sem (wp)
set_option Elab.async false
set_option maxRecDepth 100000
set_option maxHeartbeats 1000000
set_option linter.unusedVariables false
namespace Mine

def ValIs (v : Value) : Option Str → Prop
  | some V => ∃ t, v = .str V t
  | none => v = .none
def TupAt (h : Heap) (T : Addr) (k : Tk) : Prop := ∃ t1 t3 v, h.get? T = some (tup3 (.str k.kind t1) v (.int k.pos t3)) ∧ ValIs v k.val
inductive Found (h : Heap) (own : List Addr) : List Value → List Tk → Prop
  | nil : Found h own [] []
  | snoc {vs : List Value} {ks : List Tk} {T : Addr} {k : Tk} : Found h own vs ks → TupAt h T k → T ∉ own → Found h own (vs ++ [.ref T]) (ks ++ [k])
theorem Found.keeps {h h' : Heap} {own : List Addr} {vs : List Value} {ks : List Tk} (x : Found h own vs ks) (hk : ∀ b o, b ∉ own → h.get? b = some o → h'.get? b = some o) : Found h' own vs ks := by
  induction x with
  | nil => exact .nil
  | snoc _ t n ih =>
    obtain ⟨t1, t3, v, e, hv⟩ := t
    exact .snoc ih ⟨t1, t3, v, hk _ _ n e, hv⟩ n
def newsRest (h₀ h : Heap) (L R : Addr) : List (Addr × Obj) := (newsAll h₀ h L).filter fun p => decide (p.1 ≠ R)
theorem newsRest_mem {h₀ h : Heap} {L R b : Addr} {o : Obj} : (b, o) ∈ newsRest h₀ h L R ↔ (b ≠ L ∧ b ≠ R ∧ h₀.get? b = none ∧ h.get? b = some o) := by
  unfold newsRest
  rw [List.mem_filter, newsAll_mem]
  simp only [decide_eq_true_eq]
  exact ⟨fun ⟨⟨a, b, c⟩, d⟩ => ⟨a, d, b, c⟩, fun ⟨a, d, b, c⟩ => ⟨⟨a, b, c⟩, d⟩⟩
theorem newsRest_news {h₀ h : Heap} {L R : Addr} : News h₀ L h (newsRest h₀ h L R) := fun p hp => newsAll_news p (List.mem_filter.mp hp).1
theorem of_newsRest {h₀ h h' : Heap} {L R : Addr} {m m' : Str → Option Value} (F : Fr h₀ L h m) (F' : Fr h₀ L h' m') (N' : News h₀ L h' (newsRest h₀ h L R)) : ∀ b o, b ≠ L → b ≠ R → h.get? b = some o → h'.get? b = some o := by
  intro b o hb hr e
  cases q : h₀.get? b with
  | some o' => rw [F.keep b o' q] at e; cases e; exact F'.keep b o q
  | none => exact (N' (b, o) (newsRest_mem.mpr ⟨hb, hr, q, e⟩)).1
def iterOf : Stmt → Expr | .For _ i _ _ _ => i | _ => .Name "x" ⟨0,0,0,0⟩
def fposOf : Stmt → Pos | .For _ _ _ _ p => p | .Try _ _ _ _ p => p | _ => ⟨0,0,0,0⟩
def tgtOf : Stmt → Expr | .For t _ _ _ _ => t | _ => .Name "x" ⟨0,0,0,0⟩
theorem tFor_eq : tFor = .For (.Name "one" (exprPos (tgtOf tFor))) (iterOf tFor) loopT [] (fposOf tFor) := by kernel_rfl
section
variable {w : World} {dp un : Nat} {gd : Option (List Code)} {fr : Option (List Env)} {s : Shared} {h₀ : Heap} {L f : Addr} {cd : Value} {q : Program} {loose : List Str} {mean : ExcName → Option Value} {mg mb : Str → Option Value}
  {S : Str} {ts : Tok} {R : Addr} {o : Option Value} {news : List (Addr × Obj)} {v : Value} {pp : Pos}
theorem dM_one : (fun y => if y = Str.ofString "one" then some v else dM S ts R o y) = dM S ts R (some v) := by
  funext y; simp only [dM]; (repeat' split) <;> first | rfl | (subst_vars; first | contradiction | (exfalso; revert ‹Str.ofString _ = Str.ofString _›; decide)) | simp_all
theorem one_store {Q : Unit → Shared → Prop} (F : Fr h₀ L s.heap (dM S ts R o)) (N : News h₀ L s.heap news)
    (hQ : ∀ h' tk', Fr h₀ L h' (dM S ts R (some v)) → News h₀ L h' news → Q () { s with heap := h', toks := tk' }) :
    wpAny (model pw w) (ar dp un gd fr) (assign (.Name "one" pp) (envOf nT (scopeOf nT) L f cd) v) Q noE s := by
  refine wpAny_assign_Name ?_
  repeat' walk1
  exact hQ _ _ (fr_eq (by assumption) dM_one) (by assumption)

/-- what stands at the head of told's loop, n tokens before the end -/
structure LI (w : World) (Pg : GP) (h₀ : Heap) (Lc R : Addr) (S : Str) (ts : Tok) (ag g : Nat) (G0 : Array GenState) (dr : Drawn) (os : OsState) (n : Nat) (s : Shared) : Prop where
  F : ∃ o, Fr h₀ Lc s.heap (dM S ts R o)
  R : ∃ its k, s.heap.get? R = some (W.listOf its k) ∧ Found s.heap [Lc, R, Pg.L] its.toList (Pg.all.take (Pg.all.length - n)) ∧ its.size = Pg.all.length - n
  hn : n ≤ Pg.all.length
  gen : ∃ gs, s.gens[g]? = some gs ∧ gs.Goes (model pw w) Pg.A Pg.R Pg.Y n (.send .none) (s.setGen g .running)
  ig : s.heap.IsGen ag g
  gens : GenOnly g G0 s.gens
  dr : s.drawn = dr
  os : s.os = os
theorem setGen_get {s : Shared} {g : Nat} {gs x : GenState} (h : s.gens[g]? = some gs) : (s.setGen g x).gens[g]? = some x := setGen_self h
theorem found_len {h : Heap} {own : List Addr} {vs : List Value} {ks : List Tk} (x : Found h own vs ks) : vs.length = ks.length := by
  induction x with
  | nil => rfl
  | snoc _ _ _ ih => rw [List.length_append, List.length_append, ih]; rfl
theorem tokObj {h : Heap} {a : Addr} {k : Tk} (Z : TokIs h a k) : ∃ C D t1 v n1 sl hs tk t3 m1 sl2, h.get? a = some (tkO C D k.kind t1 v n1 sl) ∧ h.get? D = some (tdO hs tk k.pos t3 m1 sl2) ∧ (∀ P, TokCls P C) ∧ ValIs v k.val ∧ ∀ id, v ≠ .builtin id := by
  unfold TokIs at Z
  split at Z
  · rename_i V e
    obtain ⟨t, D, t1, n, sl, hs, tk, t3, m, sl2, h1, h2⟩ := Z
    exact ⟨127, D, t1, _, n, sl, hs, tk, t3, m, sl2, h1, h2, tc_127, by rw [e]; exact ⟨_, rfl⟩, fun _ e => nomatch e⟩
  · rename_i e
    obtain ⟨D, t1, n, sl, hs, tk, t3, m, sl2, h1, h2⟩ := Z
    exact ⟨155, D, t1, _, n, sl, hs, tk, t3, m, sl2, h1, h2, tc_155, by rw [e]; rfl, fun _ e => nomatch e⟩
end
section
variable {w : World} {dp un : Nat} {gd : Option (List Code)} {fr : Option (List Env)} {s : Shared} {h₀ : Heap} {Lc f : Addr} {cd : Value} {q : Program} {loose : List Str} {mean : ExcName → Option Value} {mg mb : Str → Option Value}
  {S : Str} {ts : Tok} {R ag g : Addr} {Pg : GP} {P : Nat → Shared → Shared → Prop} {PE : Nat → Shared → Addr → Shared → Prop} {Rr : Result → Shared → Prop}
abbrev PN (b : Bool) : Nat → Shared → Shared → Prop := fun n s₀ s₁ => b = false ∧ n = 0 ∧ s₁ = s₀
/-- the body of told's loop, for one token -/
theorem told_step {k : Tk} {a' n : Nat} {s₁ : Shared} {Q : Flow → Shared → Prop} (hd : dp ≤ 375) (X : (KX w.params).In h₀) (T : Top q loose mean mg mb h₀) (hown : Pg.own = [Lc, R]) (hall : Pg.all.length < 1000) (hR0 : h₀.get? R = none) (hRL : R ≠ Lc)
    (F : ∃ o, Fr h₀ Lc s₁.heap (dM S ts R o)) (hR : ∃ its k, s₁.heap.get? R = some (W.listOf its k) ∧ Found s₁.heap [Lc, R, Pg.L] its.toList (Pg.all.take (Pg.all.length - (n + 1))) ∧ its.size = Pg.all.length - (n + 1)) (hn : n + 1 ≤ Pg.all.length)
    (hk : Pg.all[Pg.all.length - (n + 1)]? = some k) (Z : TokIs s₁.heap a' k) (hL : (s₁.heap.get? Pg.L).isSome) (L0 : h₀.get? Pg.L = none) (L1 : Pg.L ≠ Lc) (L2 : Pg.L ≠ R)
    (hQ : ∀ h' tk', GK [Lc, R] s₁.heap h' → (∃ o, Fr h₀ Lc h' (dM S ts R o)) → (∃ its k, h'.get? R = some (W.listOf its k) ∧ Found h' [Lc, R, Pg.L] its.toList (Pg.all.take (Pg.all.length - n)) ∧ its.size = Pg.all.length - n) → Q .next { s₁ with heap := h', toks := tk' }) {pp : Pos} :
    wpAny (model pw w) (ar dp un gd fr) (assign (.Name "one" pp) (envOf nT (scopeOf nT) Lc f cd) (.ref a')) (fun _ s₂ => wpAny (model pw w) (ar dp un gd fr) (execs loopT (envOf nT (scopeOf nT) Lc f cd)) Q noE s₂) noE s₁ := by
  obtain ⟨o, F⟩ := F
  obtain ⟨its, kk, hRo, hF, hsz⟩ := hR
  obtain ⟨C, D, t1, v, n1, sl, hs, tk, t3, m1, sl2, ha, hD, hC, hv, hv'⟩ := tokObj Z
  have haL : ∀ b oo, s₁.heap.get? b = some oo → oo.cls ≠ .type "list" → b ≠ R := fun b oo e hc h => by rw [h, hRo] at e; cases e; exact hc rfl
  have N : News h₀ Lc s₁.heap ((R, W.listOf its kk) :: newsRest h₀ s₁.heap Lc R) := fun p hp => by
    rcases List.mem_cons.mp hp with rfl | hp
    · exact ⟨hRo, hRL, hR0⟩
    · exact newsRest_news p hp
  refine one_store F N fun h' tk' F' N' => ?_
  have frame : ∀ b oo, s₁.heap.get? b = some oo → b = Lc → ∃ es ep, oo.data = .dict es ep ∧ True := fun b oo e hb => by
    obtain ⟨oL, es, ep, hL, hd, _⟩ := F.ns
    rw [hb, hL] at e; cases e; exact ⟨es, ep, hd, trivial⟩
  have hTok : TokHere h₀ Lc (newsRest h₀ s₁.heap Lc R) a' D (tkO C D k.kind t1 v n1 sl) (tdO hs tk k.pos t3 m1 sl2) := fun h'' m'' F'' N'' => by
    refine ⟨of_newsRest F F'' N'' _ _ (fun e => ?_) (haL _ _ ha (by intro e; cases e)) ha, of_newsRest F F'' N'' _ _ (fun e => ?_) (haL _ _ hD (by intro e; injection e with e; exact absurd e (by decide))) hD⟩
    · obtain ⟨es, ep, h, _⟩ := frame _ _ ha e; cases h
    · obtain ⟨oL, es, ep, hL, hd, _, hf⟩ := F.ns
      rw [e, hL] at hD
      cases hD
      injection hd with hd
      have h1 := hf (Str.ofString "text")
      rw [← hd] at h1
      have h2 : nsFind #[⟨hs, .str (Str.ofString "pos") tk, .int k.pos t3⟩] (Str.ofString "text") = none := by kernel_rfl
      rw [h2] at h1
      cases h1
  refine told_turn (Nat.le_trans hd (by decide)) F' X N' hTok T (hC _) (by omega) hv' (fun x hx => (newsRest_mem.mp (show (x.1, x.2) ∈ _ from hx)).2.1) fun h'' tk'' TT F'' N'' lT => ?_
  have hgk : ∀ b oo, b ∉ [Lc, R] → s₁.heap.get? b = some oo → h''.get? b = some oo := fun b oo hb e => by
    simp only [List.mem_cons, List.not_mem_nil, or_false, not_or] at hb
    exact of_newsRest F F'' (news_tail (news_tail N'')) b oo hb.1 hb.2 e
  have hR'' := (N'' (R, W.listOf (its.push (.ref TT)) (kk + 1)) (.tail _ (.head _))).1
  have hT'' := N'' (TT, tup3 (.str k.kind t1) v (.int k.pos t3)) (.head _)
  refine hQ _ _ ⟨hgk, fun b hb => ?_⟩ ⟨_, F''⟩ ⟨_, _, hR'', ?_, by rw [Array.size_push]; omega⟩
  · simp only [List.mem_cons, List.not_mem_nil, or_false] at hb
    rcases hb with rfl | rfl
    · obtain ⟨oL, es, ep, hL, hd, _⟩ := F''.ns
      exact ⟨oL, hL, fun vs e => by rw [hd] at e; cases e⟩
    · exact ⟨_, hR'', fun vs e => by cases e⟩
  · rw [Array.toList_push]
    have e : Pg.all.take (Pg.all.length - n) = Pg.all.take (Pg.all.length - (n + 1)) ++ [k] := by
      rw [show Pg.all.length - n = Pg.all.length - (n + 1) + 1 by omega, List.take_add_one, hk]; rfl
    rw [e]
    refine .snoc (hF.keeps fun b oo hb e => hgk b oo (fun z => hb (by simp only [List.mem_cons, List.not_mem_nil, or_false] at z ⊢; rcases z with z | z; exact .inl z; exact .inr (.inl z))) e) ⟨t1, t3, v, hT''.1, hv⟩ ?_
    simp only [List.mem_cons, List.not_mem_nil, or_false, not_or]
    refine ⟨hT''.2.1, fun e => ?_, fun e => ?_⟩
    rotate_left
    · obtain ⟨oL, hoL⟩ := Option.isSome_iff_exists.mp hL
      have := allLt_mem lT (newsRest_mem.mpr ⟨L1, L2, L0, hoL⟩)
      rw [e] at this
      exact Nat.lt_irrefl _ this
    have := hT''.1
    dsimp only at this
    rw [e, hR''] at this
    injection this with this
    injection this with h1 h2 h3 h4
    injection h1 with h1
    exact absurd h1 (by decide)
end
end Mine
end

section
open PySem PySem.W PyProof.Rows PySem.Calls
open Sem (wp)
set_option Elab.async false
set_option maxRecDepth 100000
set_option maxHeartbeats 1000000
set_option linter.unusedVariables false
namespace Mine
/-- how the generator stands to its consumer -/
structure GF (b : Bool) (w : World) (A : Around) (Pg : GP) (PE : Nat → Shared → Addr → Shared → Prop) (h₀ : Heap) (Lc R ag : Addr) : Prop where
  gA : Pg.A = A.in1
  gR : Pg.R = RB (PN b) PE
  own : Pg.own = [Lc, R]
  L1 : Pg.L ≠ Lc
  L2 : Pg.L ≠ R
  L0 : h₀.get? Pg.L = none
  a0 : h₀.get? ag = none
  a1 : ag ≠ Lc
  a2 : ag ≠ R
  a3 : ag ≠ Pg.L
  R0 : h₀.get? R = none
  R1 : R ≠ Lc
section
variable {w : World} {dp un : Nat} {gd : Option (List Code)} {fr : Option (List Env)} {s : Shared} {h₀ : Heap} {Lc f : Addr} {cd : Value} {q : Program} {loose : List Str} {mean : ExcName → Option Value} {mg mb : Str → Option Value}
  {S : Str} {ts : Tok} {R ag : Addr} {g : Nat} {Pg : GP} {PE : Nat → Shared → Addr → Shared → Prop} {Rr : Result → Shared → Prop} {G0 : Array GenState} {dr : Drawn} {os : OsState}
theorem Fr.across {h h' : Heap} {L : Addr} {m : Str → Option Value} (F : Fr h₀ Lc h m) (hL : L ≠ Lc) (h0 : h₀.get? L = none) (k : ∀ b o, b ≠ L → h.get? b = some o → h'.get? b = some o) : Fr h₀ Lc h' m := by
  obtain ⟨oL, es, ep, hLo, hd, hs, hf⟩ := F.ns
  exact ⟨⟨oL, es, ep, k _ _ (Ne.symm hL) hLo, hd, hs, hf⟩, fun b o e => k b o (fun z => by rw [z, h0] at e; cases e) (F.keep b o e), F.above⟩
theorem told_loop {b : Bool} (hd : dp ≤ 374) (X : (KX w.params).In h₀) (T : Top q loose mean mg mb h₀) (hall : Pg.all.length < 1000) (G : GF b w (ar dp un gd fr) Pg PE h₀ Lc R ag) {pp : Pos}
    (hdone : ∀ s' o, Fr h₀ Lc s'.heap (dM S ts R o) → (∃ its k, s'.heap.get? R = some (W.listOf its k) ∧ Found s'.heap [Lc, R, Pg.L] its.toList Pg.all) → GenOnly g G0 s'.gens → s'.gens[g]? = some .finished → s'.drawn = dr → s'.os = os → b = false → Rr (.ok .next) s')
    (hraise : ∀ n s e s₁, LI w Pg h₀ Lc R S ts ag g G0 dr os n s → PE n (s.setGen g .running) e s₁ → (KX w.params).In s₁.heap ∧ (∃ o, s₁.heap.get? e = some o ∧ o.cls = .ref 71) ∧ s₁.heap.IsGen ag g ∧
      notedBy (model pw w) (ar dp un gd fr) (envOf nT (scopeOf nT) Lc f cd) (fun e s' => Rr (.error e) s') (.ref e) (s₁.setGen g .finished))
    (n : Nat) (I : LI w Pg h₀ Lc R S ts ag g G0 dr os n s) : codeAny (model pw w) (ar dp un gd fr) (.forLoop (.Name "one" pp) (.ref ag) loopT [] (envOf nT (scopeOf nT) Lc f cd)) Rr s := by
  refine codeAny_forLoop_any (fun n s => LI w Pg h₀ Lc R S ts ag g G0 dr os n s) (fun n s I => ?_) n I
  obtain ⟨o, F⟩ := I.F
  obtain ⟨its, kk, hRo, hF, hsz⟩ := I.R
  obtain ⟨gs, hgs, hgo⟩ := I.gen
  rw [G.gA, G.gR] at hgo
  refine pyNext_gen (P := PN b) (PE := PE) rfl (T.keeps F.keep).nolimit (Nat.lt_of_le_of_lt hd (by decide)) I.ig hgs hgo ?_ ?_ ?_
  · intro v s₁ gs' hy
    obtain ⟨a', k, rfl, hk, Z, st, hLs, hκ⟩ := hy
    have F₁ := Fr.across F G.L1 G.L0 st.1
    have hR₁ : s₁.heap.get? R = some (W.listOf its kk) := st.1 _ _ (Ne.symm G.L2) hRo
    have hF₁ : Found s₁.heap [Lc, R, Pg.L] its.toList (Pg.all.take (Pg.all.length - n)) := hF.keeps fun b oo hb e => st.1 b oo (fun z => hb (by rw [z]; exact .tail _ (.tail _ (.head _)))) e
    have own₁ : OwnAt [Lc, R] s₁.heap := fun b hb => by
      simp only [List.mem_cons, List.not_mem_nil, or_false] at hb
      rcases hb with rfl | rfl
      · obtain ⟨oL, es, ep, hL, hd, _⟩ := F₁.ns
        exact ⟨oL, hL, fun vs e => by rw [hd] at e; cases e⟩
      · exact ⟨_, hR₁, fun vs e => by cases e⟩
    cases n with
    | zero =>
      exact (hκ s₁ ⟨fun _ _ _ e => e, by rw [G.own]; exact own₁⟩).elim
    | succ m =>
      have hn := I.hn
      have hk' : Pg.all[Pg.all.length - (m + 1)]? = some k := by
        rw [← hk]; congr 1; omega
      refine wpAny_of_eq (a := ()) rfl ?_
      refine wpAny_mono (told_step (s₁ := s₁.setGen g gs') (n := m) (Q := fun f s₃ => match f with
            | .next | .cont => ∃ m', m' < m + 1 ∧ LI w Pg h₀ Lc R S ts ag g G0 dr os m' s₃
            | .brk => Rr (.ok .next) s₃
            | .ret v => Rr (.ok (.ret v)) s₃) (Nat.le_trans hd (by decide)) X T G.own hall G.R0 G.R1 ⟨_, F₁⟩ ⟨_, _, hR₁, hF₁, hsz⟩ hn hk' Z hLs G.L0 G.L1 G.L2 ?_) (fun _ s₂ z => wpAny_mono z (fun f s₃ z => z) fun _ _ x => x.elim) fun _ _ x => x.elim
      intro h' tk' gk F₂ R₂
      refine ⟨m, Nat.lt_succ_self m, F₂, R₂, Nat.le_of_succ_le hn, ⟨gs', ?_, ?_⟩, ?_, ?_, st.2.2.1.trans I.dr, st.2.2.2.trans I.os⟩
      · refine setGen_self (gs := .running) ?_
        show s₁.gens[g]? = _
        rw [st.2.1]; exact setGen_self hgs
      · rw [G.gA, G.gR]
        exact hκ _ (by rw [G.own]; exact gk)
      · obtain ⟨og, nm, qn, hog, rg⟩ := I.ig
        exact ⟨og, nm, qn, gk.1 ag og (by simp only [List.mem_cons, List.not_mem_nil, or_false, not_or]; exact ⟨G.a1, G.a2⟩) (st.1 ag og G.a3 hog), rg⟩
      · show GenOnly g G0 ((s₁.setGen g gs').gens)
        refine I.gens.trans ((GenOnly.setGen s g .running).trans ?_)
        rw [← st.2.1]
        exact GenOnly.setGen s₁ g gs'
  · rintro s₁ ⟨hb, rfl, rfl⟩ h' hk
    refine wpAny_pure ?_
    refine hdone _ o ⟨F.ns.keeps hk, fun b oo e => hk b oo (F.keep b oo e), F.above⟩ ⟨its, kk, hk _ _ hRo, ?_⟩ (I.gens.trans ((GenOnly.setGen s g .running).trans (GenOnly.setGen (s.setGen g .running) g .finished))) ?_ I.dr I.os hb
    · rw [Nat.sub_zero, List.take_length] at hF
      exact hF.keeps fun b oo _ e => hk b oo e
    · exact setGen_self (gs := .running) (setGen_self hgs)
  · intro e s₁ pe
    exact hraise n s e s₁ I pe
end
end Mine
end

section
open PySem PySem.W PyProof.Rows PySem.Calls
open Sem (wp)
set_option Elab.async false
set_option maxRecDepth 100000
set_option maxHeartbeats 1000000
set_option linter.unusedVariables false
namespace Mine
theorem Found.off {h : Heap} {own : List Addr} {vs : List Value} {ks : List Tk} (x : Found h own vs ks) : Found h [] vs ks := by
  induction x with
  | nil => exact .nil
  | snoc _ t _ ih => exact .snoc ih t (by simp)
theorem bodyT_eq : bodyOf nT = [tB 0, tB 1, tB 2] := by kernel_rfl
def handlersOf : Stmt → List ExceptHandler | .Try _ h _ _ _ => h | _ => []
def hTypeOf : List ExceptHandler → Expr | .ExceptHandler (some t) _ _ _ :: _ => t | _ => .Name "x" ⟨0,0,0,0⟩
def hBodyOf : List ExceptHandler → List Stmt | .ExceptHandler _ _ b _ :: _ => b | _ => []
def hPosOf : List ExceptHandler → Pos | .ExceptHandler _ _ _ p :: _ => p | _ => ⟨0,0,0,0⟩
theorem tB1_eq : tB 1 = .Try [tFor] [.ExceptHandler (some (hTypeOf (handlersOf (tB 1)))) none (hBodyOf (handlersOf (tB 1))) (hPosOf (handlersOf (tB 1)))] [] [] (fposOf (tB 1)) := by kernel_rfl
abbrev tup2 (x y : Value) : Obj := ⟨.type "tuple", none, .seq #[x, y] 0, #[]⟩
section
variable {w : World} {dp un : Nat} {gd : Option (List Code)} {fr : Option (List Env)} {s : Shared} {h₀ : Heap} {Lc f : Addr} {cd : Value} {q : Program} {loose : List Str} {mean : ExcName → Option Value} {mg mb : Str → Option Value}
  {S : Str} {ts : Tok} {R ag : Addr} {o : Option Value} {news : List (Addr × Obj)} {its : Array Value} {kk : Nat}
theorem ret_ok {Q : Flow → Shared → Prop} (F : Fr h₀ Lc s.heap (dM S ts R o)) (X : (KX w.params).In h₀) (T : Top q loose mean mg mb h₀) (N : News h₀ Lc s.heap news)
    (hQ : ∀ h' tk' T, Fr h₀ Lc h' (dM S ts R o) → News h₀ Lc h' ((T, tup2 (.ref R) (.bool false)) :: news) → Q (.ret (.ref T)) { s with heap := h', toks := tk' }) :
    wpAny (model pw w) (ar dp un gd fr) (exec (tB 2) (envOf nT (scopeOf nT) Lc f cd)) Q noE s := by
  change wpAny _ _ (exec (Stmt.Return _ _) _) Q noE s
  repeat' walk1
  exact hQ _ _ _ (by assumption) (by assumption)
theorem dM_start : (fun y => if y = Str.ofString "found" then some (Value.ref R) else (((argsOf nT).args.map (·.arg)).zip [Value.str S ts]).reverse.lookup y) = dM S ts R none := by
  have e0 : (((argsOf nT).args.map (·.arg)).zip [Value.str S ts]).reverse = [(Str.ofString "text", Value.str S ts)] := by kernel_rfl
  rw [e0]
  funext y
  have e3 : ¬ (Str.ofString "found" = Str.ofString "text") := by decide
  by_cases h2 : y = Str.ofString "found"
  · subst h2; simp [dM, e3]
  · by_cases h3 : y = Str.ofString "text"
    · subst h3; simp [dM, h2, List.lookup]
    · have h4 : (y == Str.ofString "text") = false := by simpa using h3
      simp [dM, h2, h3, List.lookup, h4]
theorem found_stmt {Q : Flow → Shared → Prop} {m} (F : Fr h₀ Lc s.heap m) (X : (KX w.params).In h₀) (T : Top q loose mean mg mb h₀)
    (hQ : ∀ h' tk' R, Fr h₀ Lc h' (fun y => if y = Str.ofString "found" then some (Value.ref R) else m y) → News h₀ Lc h' [(R, W.listOf #[] 0)] → Q .next { s with heap := h', toks := tk' }) :
    wpAny (model pw w) (ar dp un gd fr) (exec (tB 0) (envOf nT (scopeOf nT) Lc f cd)) Q noE s := by
  have N : News h₀ Lc s.heap [] := News.nil
  change wpAny _ _ (exec (Stmt.Assign _ _ _) _) Q noE s
  repeat' walk1
  exact hQ _ _ _ (by assumption) (by assumption)
theorem iter_eval {Q : Value → Shared → Prop} (hd : dp ≤ 380) (F : Fr h₀ Lc s.heap (dM S ts R none)) (X : (KX w.params).In h₀) (T : Top q loose mean mg mb h₀) (N : News h₀ Lc s.heap news)
    (hQ : ∀ h1 L a h' tk' cdg, Fr h₀ Lc h1 (dM S ts R none) → News h₀ Lc h1 news → (∀ b o, h1.get? b = some o → h'.get? b = some o) → Fr h1 L h' (tS S ts) → h1.get? L = none → h'.IsGen a s.gens.size → h1.get? a = none → a ≠ L →
      Q (.ref a) { s with heap := h', toks := tk', gens := s.gens.push (.fresh (funC L 224 cdg)) }) :
    wpAny (model pw w) (ar dp un gd fr) (eval (iterOf tFor) (envOf nT (scopeOf nT) Lc f cd)) Q noE s := by
  change wpAny _ _ (eval (Expr.Call _ _ _ _) _) Q noE s
  repeat' walk1
  exact tok_start (Nat.lt_of_le_of_lt hd (by decide)) (X.keeps F.keep) (T.keeps F.keep) fun L a h' tk' cd k F' n1 ig n2 ne => hQ _ _ _ _ _ _ F N k F' n1 ig n2 ne

def GKH (b : Bool) (w : World) (Lc R L : Addr) (dp un : Nat) (gd : Option (List Code)) (fr : Option (List Env)) (cdg : Value) (all : List Tk) (PE : Nat → Shared → Addr → Shared → Prop) (hd : dp ≤ 374) (hu : un ≤ 60) : GP :=
  { w, dp, un := un + 1, gd, fr, R := RB (PN b) PE, L, f := 224, cd := cdg, p := ⟨0,0,0,0⟩, own := [Lc, R], all, hd := by omega, hu := by omega }
theorem Fr.weak {h₀ h1 h' : Heap} {L : Addr} {m : Str → Option Value} (F : Fr h1 L h' m) (k : ∀ b o, h₀.get? b = some o → h1.get? b = some o) (hs : h₀.objs.size ≤ h1.objs.size) : Fr h₀ L h' m :=
  ⟨F.ns, fun b o e => F.keep b o (k b o e), Nat.le_trans hs F.above⟩
/-- the loop of told: from the call of tokenize to the end of the loop -/
theorem told_for {b : Bool} {bad : Nat → Prop} {all : List Tk} {PE : Addr → Nat → Shared → Addr → Shared → Prop} {Q : Flow → Shared → Prop} {E : Value → Shared → Prop} (hd : dp ≤ 374) (hu : un ≤ 60) (X : (KX w.params).In h₀) (T : Top q loose mean mg mb h₀)
    (hS : S.cps.size ≤ 100000) (hn : NoNul S) (Z : Scan S bad b 0 all) (hall : all.length < 1000) (F : Fr h₀ Lc s.heap (dM S ts R none)) (N : News h₀ Lc s.heap [(R, W.listOf #[] 0)]) (hsz : h₀.objs.size ≤ s.heap.objs.size)
    (hbad : b = true → ∀ Lg cdg p d s₀ s₁, GC w q loose mean mg mb h₀ Lg [Lc, R] S → bad d → StepG Lg s₀ s₁ → GS h₀ Lg [Lc, R] S d s₁ → Head { GKH b w Lc R Lg dp un gd fr cdg all (PE Lg) hd hu with p := p } 0 s₀ s₁)
    (hraise : ∀ Lg ag cdg n s' e s₁, GF b w (ar dp un gd fr) (GKH b w Lc R Lg dp un gd fr cdg all (PE Lg) hd hu) (PE Lg) h₀ Lc R ag → LI w (GKH b w Lc R Lg dp un gd fr cdg all (PE Lg) hd hu) h₀ Lc R S ts ag s.gens.size (s.gens.push (.fresh (funC Lg 224 cdg))) s.drawn s.os n s' → PE Lg n (s'.setGen s.gens.size .running) e s₁ →
      (KX w.params).In s₁.heap ∧ (∃ o, s₁.heap.get? e = some o ∧ o.cls = .ref 71) ∧ s₁.heap.IsGen ag s.gens.size ∧
      notedBy (model pw w) (ar dp un gd fr) (envOf nT (scopeOf nT) Lc f cd) (fun e s' => cameBackBy (model pw w) (ar dp un gd fr) (envOf nT (scopeOf nT) Lc f cd) E e s') (.ref e) (s₁.setGen s.gens.size .finished))
    (hQ : ∀ s' o its k, Fr h₀ Lc s'.heap (dM S ts R o) → s'.heap.get? R = some (W.listOf its k) → Found s'.heap [] its.toList all → s'.gens = s.gens.push .finished → s'.drawn = s.drawn → s'.os = s.os → b = false → Q .next s') :
    wpAny (model pw w) (ar dp un gd fr) (exec tFor (envOf nT (scopeOf nT) Lc f cd)) Q E s := by
  rw [tFor_eq]
  refine wpAny_For ?_
  refine wpAny_mono (iter_eval (Nat.le_trans hd (by decide)) F X T N (Q := fun x s₁ => wpAny (model pw w) (ar dp un gd fr) (pyIter x) (fun it s₂ =>
      codeAny (model pw w) (ar dp un gd fr) (.forLoop (.Name "one" (exprPos (tgtOf tFor))) it loopT [] (envOf nT (scopeOf nT) Lc f cd)) (fun r s' => match r with | .ok f => Q f s' | .error e => cameBackBy (model pw w) (ar dp un gd fr) (envOf nT (scopeOf nT) Lc f cd) E e s') s₂) E s₁) ?_) (fun _ _ z => z) fun _ _ x => x.elim
  intro h1 L a h' tk' cdg F1 N1 k FL hL ig ha0 haL
  refine wpAny_pyIter_gen ig ?_
  have Rk := (N1 (R, W.listOf #[] 0) (.head _))
  have F' : Fr h₀ Lc h' (dM S ts R none) := ⟨F1.ns.keeps k, fun b oo e => k b oo (F1.keep b oo e), F1.above⟩
  have hR' : h'.get? R = some (W.listOf #[] 0) := k _ _ Rk.1
  have hLc : Lc < h1.objs.size := F1.ns.lt
  have hRl : R < h1.objs.size := Heap.lt_size Rk.1
  have hL1 : h1.objs.size ≤ L := FL.above
  have hs1 : h₀.objs.size ≤ h1.objs.size := Nat.le_trans F1.above (Nat.le_of_lt hLc)
  have FL' : Fr h₀ L h' (tS S ts) := Fr.weak FL F1.keep hs1
  have L1 : L ≠ Lc := fun e => by rw [e] at hL1; exact Nat.lt_irrefl _ (Nat.lt_of_lt_of_le hLc hL1)
  have L2 : L ≠ R := fun e => by rw [e] at hL1; exact Nat.lt_irrefl _ (Nat.lt_of_lt_of_le hRl hL1)
  have a1 : a ≠ Lc := fun e => by obtain ⟨oL, _, _, ho, _⟩ := F1.ns; rw [e, ho] at ha0; cases ha0
  have a2 : a ≠ R := fun e => by rw [e, Rk.1] at ha0; cases ha0
  have L0 : h₀.get? L = none := Heap.get?_none_of_le (Nat.le_trans hs1 hL1)
  have a0 : h₀.get? a = none := by cases q : h₀.get? a with | none => rfl | some oo => rw [F1.keep _ _ q] at ha0; cases ha0
  have own : OwnAt [Lc, R] h' := fun b hb => by
    simp only [List.mem_cons, List.not_mem_nil, or_false] at hb
    rcases hb with rfl | rfl
    · obtain ⟨oL, es, ep, hL, hd, _⟩ := F'.ns
      exact ⟨oL, hL, fun vs e => by rw [hd] at e; cases e⟩
    · exact ⟨_, hR', fun vs e => by cases e⟩
  have C : GC w q loose mean mg mb h₀ L [Lc, R] S := ⟨X, T, hS, fun b hb => by
    simp only [List.mem_cons, List.not_mem_nil, or_false] at hb
    rcases hb with rfl | rfl
    · exact Heap.get?_none_of_le F.above
    · exact Rk.2.2, by simp only [List.mem_cons, List.not_mem_nil, or_false, not_or]; exact ⟨L1, L2⟩⟩
  have G : GF b w (ar dp un gd fr) (GKH b w Lc R L dp un gd fr cdg all (PE L) hd hu) (PE L) h₀ Lc R a := ⟨rfl, rfl, rfl, L1, L2, L0, a0, a1, a2, haL, Rk.2.2, Rk.2.1⟩
  have hg : (s.gens.push (.fresh (funC L 224 cdg)))[s.gens.size]? = some (.fresh (funC L 224 cdg)) := by simp
  refine told_loop (q := q) (loose := loose) (mean := mean) (mg := mg) (mb := mb) (Pg := GKH b w Lc R L dp un gd fr cdg all (PE L) hd hu) (PE := PE L) (g := s.gens.size) (G0 := s.gens.push (.fresh (funC L 224 cdg))) (dr := s.drawn) (os := s.os) hd X T hall G ?_ (fun n s' e s₁ I pe => hraise L a cdg n s' e s₁ G I pe) all.length ?_
  · intro s' o F2 ⟨its, kk, hR2, hF2⟩ go gf hdr hos hb
    refine hQ s' o its kk F2 hR2 ?_ ?_ hdr hos hb
    · exact hF2.off
    · refine Array.ext_getElem? fun i => ?_
      by_cases hi : i = s.gens.size
      · rw [hi, gf]; simp
      · rw [go.2 i hi]
        simp only [Array.getElem?_push, if_neg hi]
  · refine ⟨⟨none, F'⟩, ⟨#[], 0, hR', ?_, by show 0 = all.length - all.length; omega⟩, Nat.le_refl _, ⟨_, hg, ?_⟩, ig, ⟨rfl, fun _ _ => rfl⟩, rfl, rfl⟩
    · show Found h' _ [] (all.take (all.length - all.length))
      rw [Nat.sub_self]; exact .nil
    · exact gen_start (P := GKH b w Lc R L dp un gd fr cdg all (PE L) hd hu) C Z hn FL' own (fun hb s => .inl ⟨rfl, hb, rfl, rfl⟩) (fun hb p d s₀ s hbd st G => hbad hb L cdg p d s₀ s C hbd st G) rfl
end
end Mine
end

section
open PySem PySem.W PyProof.Rows PySem.Calls
open Sem (wp)
set_option Elab.async false
set_option maxRecDepth 100000
set_option maxHeartbeats 1000000
set_option linter.unusedVariables false
namespace Mine
theorem Found.keepsTup {h h' : Heap} {vs : List Value} {ks : List Tk} (x : Found h [] vs ks) (hk : ∀ b x y z, h.get? b = some (tup3 x y z) → h'.get? b = some (tup3 x y z)) : Found h' [] vs ks := by
  induction x with
  | nil => exact .nil
  | snoc _ t n ih =>
    obtain ⟨t1, t3, v, e, hv⟩ := t
    exact .snoc ih ⟨t1, t3, v, hk _ _ _ _ e, hv⟩ n
theorem tup_notFr {h₀ h : Heap} {L : Addr} {m : Str → Option Value} {x y z : Value} (F : Fr h₀ L h m) (e : h.get? L = some (tup3 x y z)) : False := by
  obtain ⟨oL, es, ep, hL, hd, _⟩ := F.ns
  rw [e] at hL; cases hL; cases hd
theorem tup_notList {its : Array Value} {k : Nat} {x y z : Value} (e : some (W.listOf its k) = some (tup3 x y z)) : False := by
  injection e with e
  injection e with h1
  injection h1 with h1
  exact absurd h1 (by decide)
section
variable {w : World} {dp un : Nat} {gd : Option (List Code)} {fr : Option (List Env)} {s : Shared} {q : Program} {loose : List Str} {mean : ExcName → Option Value} {mg mb : Str → Option Value}
  {S : Str} {ts : Tok} {all : List Tk}
/-- _law_told on a text that ends well -/
theorem told_ok {Q E : Value → Shared → Prop} {bad : Nat → Prop} (hd : dp ≤ 370) (hu : un ≤ 50) (X : (KX w.params).In s.heap) (T : Top q loose mean mg mb s.heap) (hS : S.cps.size ≤ 100000) (hn : NoNul S) (Z : Scan S bad false 0 all) (hall : all.length < 1000)
    (hQ : ∀ h' tk' TT R its k, (∀ b o, s.heap.get? b = some o → h'.get? b = some o) → h'.get? TT = some (tup2 (.ref R) (.bool false)) → h'.get? R = some (W.listOf its k) → Found h' [] its.toList all → s.heap.get? TT = none → s.heap.get? R = none →
      Q (.ref TT) { s with heap := h', toks := tk', gens := s.gens.push .finished }) :
    wpAny (model pw w) (ar dp un gd fr) (call (.ref 252) [.str S ts]) Q E s := by
  obtain ⟨o, pm, cd, doc, h1, h2, h3⟩ := (def_252 X).at_
  refine wpAny_call (call_pos_ret (Nat.lt_of_le_of_lt hd (by decide)) h1 h2 T.nolimit h3 rfl (locs rfl) (fun h₁ F => ?_) rfl rfl rfl (by decide))
  rw [bodyT_eq]
  show wpAny (model pw w) (ar (dp + 1) (un + 3) gd (fr.map (envOf nT (scopeOf nT) s.heap.objs.size 252 cd :: ·))) _ _ _ _
  refine wpAny_execs_cons (found_stmt F X T fun h' tk' R F' N' => ?_)
  have F' := fr_eq F' dM_start
  refine wpAny_execs_cons ?_
  rw [tB1_eq, arm_exec_Try]
  refine wpAny_bind (wpAny_standAt (wpAny_tryStmt_except (wpAny_execs_cons ?_)))
  refine told_for (b := false) (bad := bad) (all := all) (PE := fun _ _ _ _ _ => False) (by omega) (by omega) X T hS hn Z hall F' N' (Nat.le_trans F'.above (Nat.le_of_lt F'.ns.lt)) (fun e => by cases e) (fun _ _ _ _ _ _ _ _ _ x => x.elim) ?_
  intro s' o its k F2 hR2 hF2 hg hdr hos _
  refine wpAny_execs_nil ?_
  refine wpAny_execs_nil ?_
  refine wpAny_execs_cons ?_
  have N2 : News s.heap s.heap.objs.size s'.heap ((R, W.listOf its k) :: newsRest s.heap s'.heap s.heap.objs.size R) := by
    intro p hp
    rcases List.mem_cons.mp hp with rfl | hp
    · exact ⟨hR2, (N' _ (.head _)).2⟩
    · exact newsRest_news p hp
  refine ret_ok F2 X T N2 fun h'' tk'' TT F3 N3 => ?_
  obtain ⟨hp, gns, dr, tk, os⟩ := s'
  dsimp only at hg hdr hos
  subst hg hdr hos
  have hT := N3 _ (.head _)
  have hR3 := N3 (R, W.listOf its k) (.tail _ (.head _))
  refine hQ h'' tk'' TT R its k F3.keep hT.1 hR3.1 ?_ hT.2.2 hR3.2.2
  refine hF2.keepsTup fun b x y z e => of_newsRest F2 F3 (news_tail (news_tail N3)) b _ (fun z => ?_) (fun z => ?_) e
  · exact tup_notFr F2 (z ▸ e)
  · rw [z, hR2] at e; exact tup_notList e
end
end Mine
end

section
open PySem PySem.W PyProof.Rows PySem.Calls
open Sem (wp)
set_option Elab.async false
set_option maxRecDepth 100000
set_option maxHeartbeats 1000000
set_option linter.unusedVariables false
namespace Mine
section
variable {M : Model} {A : Around} {E : Value → Shared → Prop} {s : Shared}
theorem notes_made {base h : Heap} {env : Env} {outer : List Env} {L e : Addr} {cls : Value} {args : List Value} {Q : Unit → Shared → Prop}
    (hfr : A.frames = some (env :: outer)) (hf : env.frame = some L) (hkb : base.StaysIn h) (hl : h.FunFrames base (env :: outer)) (hx : Heap.MadeExcOf h s.heap e cls args)
    (hQ : ∀ h' a0, Heap.HeldW base (env :: outer) e cls a0 L h' → s.heap.UpToSlots h' → Q () { s with heap := h' }) : wpAny M A (noteFrame (.ref e) env) Q E s := by
  obtain ⟨t, he, htn, ht⟩ := hx.there
  have fresh : ∀ b, h.get? b = none → base.get? b = none := fun b hb => by
    cases hq : base.get? b with
    | none => rfl
    | some o' => have := hkb b o' hq; rw [hb] at this; cases this
  unfold noteFrame
  simp only [hf]
  refine wpAny_bind (wpAny_field he rfl (x := .none) rfl ?_)
  rw [if_neg (by decide)]
  exact wpAny_entryW (a0 := .ref t) hfr (hl.of_keeps fun b o hb _ => ⟨o, hx.keeps b o hb, rfl⟩) hf he (fun b o hb => hx.keeps b o (hkb b o hb)) (fresh e hx.new) rfl (by show 1 < Array.size _; simp) rfl fun h' ⟨k1, k2, k3, k4⟩ => hQ h' _ ⟨k1, fresh e hx.new, k2, k3⟩ k4
theorem wpAny_cond_not_none {x : Value} {e : Addr} {base : Heap} {l : List Env} {cls a0 fl : Value} {Q : Unit → Shared → Prop} {m : Sem Unit} (ht : s.heap.TracedAtW base e cls a0 fl) (h : wpAny M A m Q E s) :
    wpAny M A (do if (← field (.ref e) 1) == Value.none then unsupported "frame.own-activation:exception-without-traceback"
                  m) Q E s := by
  obtain ⟨oe, vs, T, oT, ts, he, hcls, hd, h1, r⟩ := ht
  refine wpAny_bind (wpAny_field he hd h1 ?_)
  rw [if_neg (show ¬ ((Value.ref T == Value.none) = true) by simp)]
  exact h
theorem setFlight_held {base : Heap} {l : List Env} {e L : Addr} {cls a0 : Value} {Q : Unit → Shared → Prop} (hh : Heap.HeldW base l e cls a0 L s.heap)
    (h : ∀ h', Heap.HeldW base l e cls a0 L h' → s.heap.UpToSlots h' → Q () { s with heap := h' }) : wpAny M A (setFlight (.ref e) (some L)) Q E s := by
  obtain ⟨hkb, hen, hl, oe, vs, T, oT, ts, he, hcls, hd, h1, hnT, hTe, hT, hdT, h3⟩ := hh
  have hsz3 : 3 < ts.size := (Array.getElem?_eq_some_iff.mp h3).1
  have other : ∀ b, b ≠ T → (s.heap.update T (Obj.mapFields (·.setIfInBounds 3 ((some L).elim Value.none fun f => rawInt f)))).get? b = s.heap.get? b :=
    fun b hb => Heap.get?_update_other _ _ (Ne.symm hb)
  have noRecord : ∀ b o, s.heap.get? b = some o → (∀ vs, o.data ≠ .fields vs) → b ≠ T := fun b o hb hnf q => by
    rw [q, hT] at hb; injection hb with hb; subst hb; exact hnf ts hdT
  unfold setFlight
  refine wpAny_bind (wpAny_field he hd h1 ?_)
  rw [if_pos (show (Value.ref T != Value.none) = true from by simp)]
  refine wpAny_setField hT hdT hsz3 (h _ ⟨fun b o hbo => (other b fun q => by rw [q, hnT] at hbo; cases hbo).trans (hkb b o hbo), hen,
    hl.of_keeps fun b o hb hnf => ⟨o, (other b (noRecord b o hb hnf)).trans hb, rfl⟩, ?_⟩ fun b o hb hnf => ⟨o.slots, (other b (noRecord b o hb hnf)).trans hb⟩)
  exact ⟨oe, vs, T, _, _, (other e (Ne.symm hTe)).trans he, hcls, hd, h1, hnT, hTe, Heap.get?_update_self _ hT (Obj.isFreed_of_fields (Obj.data_mapFields hdT _)), Obj.data_mapFields hdT _, by simp [hsz3]⟩
end
/-- how an exception leaves the generator's loop and its body -/
theorem seg_leaves {P : GP} {outer : List Env} {base h : Heap} {e : Addr} {cls : Value} {args : List Value} {s₀ s : Shared} {n : Nat} (hfr : P.fr = some outer) (hkb : base.StaysIn h) (hl : h.FunFrames base (P.env :: outer)) (hx : Heap.MadeExcOf h s.heap e cls args)
    (hR : ∀ h' a0, Heap.FlyingW base outer e cls a0 h' → s.heap.UpToSlots h' → P.R n s₀ (.error (.ref e)) { s with heap := h' }) :
    Seg (model pw P.w) P.A P.R P.Y n s₀ P.c (HL P.env (.ref e)) P.fs s := by
  have hA : P.A'.frames = some (P.env :: outer) := by show pushEnvs [P.env] P.fr = _; rw [hfr]; rfl
  refine seg_wrap ?_
  rw [P.over]
  refine wpAny_bind (notes_made hA rfl hkb hl hx fun h1 a0 H1 u1 => wpAny_theTreesLotGoes ?_)
  show Seg (model pw P.w) P.A P.R P.Y n s₀ P.c (leafOf (.error (.ref e))) (.ret (kW P.env) none false [] (funC P.L P.f P.cd) P.p [] :: []) _
  refine seg_leaf (.error (.ref e)) ?_
  show Seg (model pw P.w) P.A P.R P.Y n s₀ (funC P.L P.f P.cd) (((Sem.raise (.ref e) : Sem Flow).onRaise _).wrap _ _ id id) [] _
  rw [Sem.onRaise_eq_wrap, Sem.wrap_wrap]
  show Seg (model pw P.w) P.A P.R P.Y n s₀ (funC P.L P.f P.cd) (Sem.wrap _ _ _ _ (Sem.bind _ _)) [] _
  rw [Sem.bind_eq_wrap, Sem.wrap_wrap]
  refine seg_wrap ?_
  rw [over_func]
  show wpAny _ P.A' _ _ _ _
  refine wpAny_cond_not_none (x := .none) (l := P.env :: outer) H1.2.2.2 ?_
  refine setFlight_held H1 fun h2 H2 u2 => ?_
  show Seg (model pw P.w) P.A P.R P.Y n s₀ (funC P.L P.f P.cd) (HF P.env (.ref e)) [] _
  refine seg_wrap ?_
  rw [over_func]
  show wpAny _ P.A' _ _ _ _
  unfold «leaving»
  refine wpAny_bind (wpAny_noteFrame_againW (L := P.L) rfl H2.2.2.2 ?_)
  refine wpAny_landsW H2 fun h3 H3 u3 => ?_
  obtain ⟨k1, k2, ⟨_, _, k3⟩, k4⟩ := H3
  show Seg (model pw P.w) P.A P.R P.Y n s₀ (funC P.L P.f P.cd) (leafOf (.error (.ref e))) [] _
  exact seg_end _ (hR h3 a0 ⟨k1, k2, k3, k4⟩ ((u1.trans u2).trans u3))
inductive BadAt (S : Str) : Nat → Prop
  | unclosed {d e : Nat} {ex : Bool} {W W' : List Nat} {V : Str} {ad : Addr} {code : Array Nat} : d < S.length → Win d S.cps S.cps.size ex W → look ex cWs 0 W = some none → look ex cId 2 W = some none → look ex cHash 1 W = some none → Win (d + 1) S.cps S.cps.size ex W' →
      (∀ {P : Params} {h : Heap}, (KX P).In h → IsPat h ad code 2) → look ex code 2 W' = some (some e) → Txt.item S d = V → valueAt qD V = some (.ref ad) → d + 1 + e = S.length → BadAt S d
  | newline {d e : Nat} {ex : Bool} {W W' : List Nat} {V : Str} {ad : Addr} {code : Array Nat} : d < S.length → Win d S.cps S.cps.size ex W → look ex cWs 0 W = some none → look ex cId 2 W = some none → look ex cHash 1 W = some none → Win (d + 1) S.cps S.cps.size ex W' →
      (∀ {P : Params} {h : Heap}, (KX P).In h → IsPat h ad code 2) → look ex code 2 W' = some (some e) → Txt.item S d = V → valueAt qD V = some (.ref ad) → d + 1 + e < S.length → (Txt.item S (d + 1 + e : Nat) == V) = false → BadAt S d
section
variable {P : GP} {q : Program} {loose : List Str} {mean : ExcName → Option Value} {mg mb : Str → Option Value} {h₀ : Heap} {S : Str} {n d : Nat} {s₀ s : Shared}
theorem bad_pre {e : Nat} {ex : Bool} {W W' : List Nat} {V : Str} {ad : Addr} {code : Array Nat} (C : GC P.w q loose mean mg mb h₀ P.L P.own S) (G : GS h₀ P.L P.own S d s) (hlt : d < S.length) (H : Win d S.cps S.cps.size ex W) (lw : look ex cWs 0 W = some none) (li : look ex cId 2 W = some none) (lh : look ex cHash 1 W = some none)
    (H' : Win (d + 1) S.cps S.cps.size ex W') (Pt : IsPat h₀ ad code 2) (ls : look ex code 2 W' = some (some e)) (hV : Txt.item S d = V) (hv : valueAt qD V = some (.ref ad))
    (h : ∀ s' mo t1 t2 vo po more, At h₀ P.L S d (more ++ newsAll h₀ s.heap P.L) s (some (.ref mo)) vo (some (.str V t1)) (some (.int (d + 1 + e : Nat) t2)) po s' → SK P (andThen P.env (HL P.env) (KL P.c) [stT 8, stT 9, stT 10, stT 11, stT 12, stT 13]) n s₀ [stB 7 3, stB 7 4, stB 7 5, stB 7 6, stB 7 7, stB 7 8] s') : Head P n s₀ s := by
  have hS := lenS C
  refine head_turn C G hlt fun s' mo vo qo eo po A => ?_
  refine no_0 C A H lw fun s' A => ?_
  refine no_2 C A H li fun s' A => ?_
  refine no_4 C A H lh fun s' A => ?_
  refine yes_q C A hlt hV (by rw [hv]; rfl) fun s' t' A => ?_
  obtain ⟨ts, tp, tn, F⟩ := A.F
  refine sk_stmt P.over (s0_some F C.X A.N C.T rfl (Nat.le_trans C.hS (by decide)) Pt hv H' ls fun h' tk' A₂ A₁ pos lim li sp F N l1 l2 => ⟨rfl, ?_⟩)
  refine sk_stmt P.over (s1 F C.X C.T N fun tk' => ⟨rfl, ?_⟩)
  refine sk_stmt P.over (s2 F C.X C.T N fun h' t' tk' F N => ⟨rfl, ?_⟩)
  exact h _ _ _ _ _ _ [_, _] ⟨⟨_, _, _, F⟩, N, A.same⟩
theorem bad_head {outer : List Env} {base : Shared → Heap} (C : GC P.w q loose mean mg mb h₀ P.L P.own S) (st : StepG P.L s₀ s) (G : GS h₀ P.L P.own S d s) (B : BadAt S d) (hfr : P.fr = some outer)
    (hkb : ∀ s', StepG P.L s₀ s' → (base s₀).StaysIn s'.heap) (hl : ∀ s', StepG P.L s₀ s' → GS h₀ P.L P.own S d s' → s'.heap.FunFrames (base s₀) (P.env :: outer))
    (hR : ∀ s' h' e a0, StepG P.L s₀ s' → Heap.FlyingW (base s₀) outer e (.ref 71) a0 h' → s'.heap.UpToSlots h' → P.R 0 s₀ (.error (.ref e)) { s' with heap := h' }) : Head P 0 s₀ s := by
  have hS := lenS C
  have key : ∀ (s' : Shared) (h' : Heap) (a : Addr) (v : Value) (tk' : Nat), StepG P.L s₀ s' → GS h₀ P.L P.own S d s' → s'.heap.MadeExcOf h' a (.ref 71) [v] →
      Seg (model pw P.w) P.A P.R P.Y 0 s₀ P.c (HL P.env (.ref a)) P.fs { s' with heap := h', toks := tk' } := fun s' h' a v tk' st' G' hx =>
    seg_leaves hfr (hkb s' st') (hl s' st' G') hx fun h'' a0 fl u => hR { s' with toks := tk' } h'' a a0 st' fl ((Heap.UpToSlots.of_keeps hx.keeps).trans u)
  cases B with
  | @unclosed e ex W W' V ad code h1 H l1 l2 l3 H' Pt ls hV hv he =>
    refine bad_pre C G h1 H l1 l2 l3 H' (Pt C.X) ls hV hv fun s' mo t1 t2 vo po more A => ?_
    obtain ⟨ts, tp, tn, F⟩ := A.F
    have he' : ((d + 1 + e : Nat) : Int) = (S.length : Nat) := by rw [he]
    exact sk_raise P.over (s3_raise (e := d + 1 + e) F C.X C.T A.N he' (by omega) (by omega) fun h' a v tk' hx => key s' h' a v tk' (st.trans (A.step G)) (A.gs C.ownL G) hx)
  | @newline e ex W W' V ad code h1 H l1 l2 l3 H' Pt ls hV hv he hc =>
    refine bad_pre C G h1 H l1 l2 l3 H' (Pt C.X) ls hV hv fun s' mo t1 t2 vo po more A => ?_
    obtain ⟨ts, tp, tn, F⟩ := A.F
    have h6 : ((d + 1 + e : Nat) : Int) ≠ (S.length : Nat) := by omega
    refine sk_stmt P.over (s3 (e := d + 1 + e) F C.X C.T A.N h6 fun tk' => ⟨rfl, ?_⟩)
    exact sk_raise P.over (s4_raise (e := d + 1 + e) F C.X C.T A.N (by omega) (by omega) (by omega) he hc fun h' a v tk'' hx => key s' h' a v tk'' (st.trans (A.step G)) (A.gs C.ownL G) hx)
end
end Mine
end

section
open PySem PySem.W PyProof.Rows PySem.Calls
open Sem (wp)
set_option Elab.async false
set_option maxRecDepth 100000
set_option maxHeartbeats 1000000
set_option linter.unusedVariables false
namespace Mine
section
variable {w : World} {A : Around} {s : Shared} {h₀ : Heap} {Lc f : Addr} {cd : Value} {q : Program} {loose : List Str} {mean : ExcName → Option Value} {mg mb : Str → Option Value}
  {S : Str} {ts : Tok} {R : Addr} {o : Option Value} {news : List (Addr × Obj)}
theorem exc_71 {E : Value → Shared → Prop} {e : Addr} {oe : Obj} {Q : Bool → Shared → Prop} (X : (KX w.params).In s.heap) (he : s.heap.get? e = some oe) (hc : oe.cls = .ref 71) (hq : Q true s) : wpAny (model pw w) A (excMatches (.ref e) (.ref 71)) Q E s := by
  obtain ⟨h, g, d, t, os⟩ := s
  exact wpAny_excMatches_sub_self (X 71 _ rfl) he hc (by decide) hq
abbrev hnd : List ExceptHandler := handlersOf (tB 1)
theorem hBody_eq : hBodyOf hnd = [(hBodyOf hnd).getD 0 (.Pass ⟨0,0,0,0⟩)] := by kernel_rfl
theorem ret_bad {Q : Flow → Shared → Prop} (F : Fr h₀ Lc s.heap (dM S ts R o)) (X : (KX w.params).In h₀) (T : Top q loose mean mg mb h₀) (N : News h₀ Lc s.heap news)
    (hQ : ∀ h' tk' T, Fr h₀ Lc h' (dM S ts R o) → News h₀ Lc h' ((T, tup2 (.ref R) (.bool true)) :: news) → Q (.ret (.ref T)) { s with heap := h', toks := tk' }) :
    wpAny (model pw w) A (exec ((hBodyOf hnd).getD 0 (.Pass ⟨0,0,0,0⟩)) (envOf nT (scopeOf nT) Lc f cd)) Q noE s := by
  change wpAny _ _ (exec (Stmt.Return _ _) _) Q noE s
  repeat' walk1
  exact hQ _ _ _ (by assumption) (by assumption)
theorem type_name {Q : Value → Shared → Prop} (F : Fr h₀ Lc s.heap (dM S ts R o)) (X : (KX w.params).In h₀) (T : Top q loose mean mg mb h₀) (N : News h₀ Lc s.heap news)
    (hQ : Q (.ref 71) s) : wpAny (model pw w) A (eval (hTypeOf hnd) (envOf nT (scopeOf nT) Lc f cd)) Q noE s := by
  change wpAny _ _ (eval (Expr.Name _ _) _) Q noE s
  repeat' walk1
  exact hQ
/-- the handler: what told does once its exception has come -/
theorem told_handles {base : Heap} {outer : List Env} {e : Addr} {a0 : Value} {E : Value → Shared → Prop} {Q : Flow → Shared → Prop} (hkb : ∀ h', base.StaysIn h' → Heap.UpToSlots s.heap h' → Fr h₀ Lc h' (dM S ts R o)) (X : (KX w.params).In h₀) (T : Top q loose mean mg mb h₀)
    (H : Heap.HeldW base (envOf nT (scopeOf nT) Lc f cd :: outer) e (.ref 71) a0 Lc s.heap)
    (hQ : ∀ h2 h'' tk' TT, base.StaysIn h2 → s.heap.UpToSlots h2 → (∀ b o, b ≠ Lc → h2.get? b = some o → h''.get? b = some o) → h''.get? TT = some (tup2 (.ref R) (.bool true)) → h₀.get? TT = none → Q (.ret (.ref TT)) { s with heap := h'', toks := tk' }) :
    wpAny (model pw w) A (noteFrame (.ref e) (envOf nT (scopeOf nT) Lc f cd)) (fun _ s₂ => wpAny (model pw w) A (setFlight (.ref e) none) (fun _ s₃ => wpAny (model pw w) A (handleBy (.ref e) (envOf nT (scopeOf nT) Lc f cd)
      [.ExceptHandler (some (hTypeOf hnd)) none (hBodyOf hnd) (hPosOf hnd)]) Q E s₃) E s₂) E s := by
  refine wpAny_noteFrame_againW (L := Lc) rfl H.2.2.2 ?_
  refine wpAny_landsW H fun h1 H1 u1 => ?_
  have F := hkb h1 H1.1 u1
  have N : News h₀ Lc h1 (newsAll h₀ h1 Lc) := newsAll_news
  have X1 := X.keeps F.keep
  refine wpAny_handleBy_cons ?_ (by intro q; cases q)
  refine codeAny_handlers_test (wpAny_mono (type_name (o := o) (R := R) (S := S) (ts := ts) F X T N (Q := fun c s' => c = .ref 71 ∧ s' = { s with heap := h1 }) ⟨rfl, rfl⟩) (fun c s' z => ?_) fun _ _ x => x.elim)
  obtain ⟨rfl, rfl⟩ := z
  obtain ⟨oe, he, hc⟩ := H1.there
  refine exc_71 X1 he hc ?_
  dsimp only
  rw [hBody_eq]
  refine codeAny_handlers_suite ?_
  refine wpAny_setFlight_noneW H1.1 H1.2.2.1 H1.2.2.2.at fun h2 k1 k2 k3 k4 => ?_
  have u2 : s.heap.UpToSlots h2 := u1.trans fun b o e hn => ⟨o.slots, k4 b o e hn⟩
  have F2 := hkb h2 k1 u2
  refine wpAny_execs_cons ?_
  refine wpAny_mono (ret_bad (o := o) (R := R) (S := S) (ts := ts) (s := { s with heap := h2 }) F2 X T (newsAll_news (h₀ := h₀) (h := h2) (L := Lc)) (Q := fun f s' => ∃ h'' tk' TT, f = .ret (.ref TT) ∧ s' = { s with heap := h'', toks := tk' } ∧ Fr h₀ Lc h'' (dM S ts R o) ∧ News h₀ Lc h'' ((TT, tup2 (.ref R) (.bool true)) :: newsAll h₀ h2 Lc)) fun h'' tk' TT F3 N3 => ⟨h'', tk', TT, rfl, rfl, F3, N3⟩) (fun f s' z => ?_) fun _ _ x => x.elim
  obtain ⟨h'', tk', TT, rfl, rfl, F3, N3⟩ := z
  exact hQ h2 h'' tk' TT k1 u2 (of_newsAll (more := [_]) F2 F3 N3) (N3 _ (.head _)).1 (N3 _ (.head _)).2.2
end
end Mine
end

section
open PySem PySem.W PyProof.Rows PySem.Calls
open Sem (wp)
set_option Elab.async false
set_option maxRecDepth 100000
set_option maxHeartbeats 1000000
set_option linter.unusedVariables false
namespace Mine
abbrev hid (h : Heap) (l : List Addr) : Heap := PySem.W.hideAll h l
/-- how the exception comes out of the generator, as its consumer sees it -/
def PEr (told : Env) (outer : List Env) (Lc : Addr) (L : Addr) : Nat → Shared → Addr → Shared → Prop := fun n s₀ e s₁ =>
  n = 0 ∧ (∃ a0, Heap.FlyingW (hid s₀.heap (L :: Lc :: outer.filterMap (·.frame))) (told :: outer) e (.ref 71) a0 s₁.heap) ∧
    (∀ b o, b ≠ L → s₀.heap.get? b = some o → notRec o → ∃ sl, s₁.heap.get? b = some { o with slots := sl }) ∧ Same s₀ s₁
theorem Found.keepsTup' {h h' : Heap} {own : List Addr} {vs : List Value} {ks : List Tk} (x : Found h own vs ks) (hk : ∀ b x y z, b ∉ own → h.get? b = some (tup3 x y z) → h'.get? b = some (tup3 x y z)) : Found h' own vs ks := by
  induction x with
  | nil => exact .nil
  | snoc _ t n ih =>
    obtain ⟨t1, t3, v, e, hv⟩ := t
    exact .snoc ih ⟨t1, t3, v, hk _ _ _ _ n e, hv⟩ n
section
variable {w : World} {dp un : Nat} {gd : Option (List Code)} {fr : Option (List Env)} {s : Shared} {q : Program} {loose : List Str} {mean : ExcName → Option Value} {mg mb : Str → Option Value}
  {S : Str} {ts : Tok} {all : List Tk} {outer : List Env}
structure OutOk (h : Heap) (outer : List Env) : Prop where
  ok : ∀ env ∈ outer, env.scope.kind ≠ .module ∧ ∃ Lx o, env.frame = some Lx ∧ h.get? Lx = some o ∧ ∃ es ep, o.data = .dict es ep
theorem notRec_dict {o : Obj} (h : ∃ es ep, o.data = .dict es ep) : notRec o := by
  obtain ⟨es, ep, h⟩ := h
  intro vs e
  rw [h] at e; cases e
theorem OutOk.mem {h : Heap} {outer : List Env} (O : OutOk h outer) {b : Addr} (hb : b ∈ outer.filterMap (·.frame)) : ∃ o, h.get? b = some o ∧ ∃ es ep, o.data = .dict es ep := by
  obtain ⟨env, he, hf⟩ := List.mem_filterMap.mp hb
  obtain ⟨_, Lx, o, hL, ho, hn⟩ := O.ok env he
  rw [hL] at hf; cases hf
  exact ⟨o, ho, hn⟩
theorem funFrames_of {h base : Heap} : ∀ {l : List Env}, (∀ env ∈ l, env.scope.kind ≠ .module ∧ ∃ L o, env.frame = some L ∧ base.get? L = none ∧ h.get? L = some o ∧ notRec o) → h.FunFrames base l
  | [], _ => trivial
  | env :: l, H => ⟨(H env (.head _)).1, (H env (.head _)).2, funFrames_of fun e he => H e (.tail _ he)⟩
theorem hid_stays {s₀ s' : Shared} {L : Addr} {l : List Addr} (st : StepG L s₀ s') : (hid s₀.heap (L :: l)).StaysIn s'.heap := fun b o e => st.1 b o (fun z => by
  have := hideAll_none (h := s₀.heap) (L :: l) (b := L) (.head _)
  rw [z] at e; rw [show hid s₀.heap (L :: l) = hideAll s₀.heap (L :: l) from rfl, this] at e; cases e) (of_hideAll _ e)
theorem hid_frames {h₀ : Heap} {s₀ s' : Shared} {L Lc R f f' : Addr} {cd cd' : Value} {d : Nat} (G : GS h₀ L [Lc, R] S d s') (O : OutOk h₀ outer) :
    s'.heap.FunFrames (hid s₀.heap (L :: Lc :: outer.filterMap (·.frame))) (gEnv L f cd :: envOf nT (scopeOf nT) Lc f' cd' :: outer) := by
  obtain ⟨ts, tp, tn, mo, vo, qo, eo, po, F⟩ := G.F
  refine funFrames_of fun env he => ?_
  rcases List.mem_cons.mp he with rfl | he
  · obtain ⟨oL, es, ep, hL, hd, _⟩ := F.ns
    exact ⟨by show (scopeOf nK).kind ≠ _; decide, L, oL, rfl, hideAll_none _ (.head _), hL, fun vs e => by rw [hd] at e; cases e⟩
  · rcases List.mem_cons.mp he with rfl | he
    · obtain ⟨o, ho, hn⟩ := G.own Lc (.head _)
      exact ⟨by show (scopeOf nT).kind ≠ _; decide, Lc, o, rfl, hideAll_none _ (.tail _ (.head _)), ho, hn⟩
    · obtain ⟨hk, Lx, o, hL, ho, hn⟩ := O.ok env he
      exact ⟨hk, Lx, o, hL, hideAll_none _ (.tail _ (.tail _ (List.mem_filterMap.mpr ⟨env, he, hL⟩))), F.keep _ _ ho, notRec_dict hn⟩
theorem pe_of {told : Env} {s₀ s' : Shared} {h' : Heap} {L Lc e : Addr} {a0 : Value} (st : StepG L s₀ s') (fl : Heap.FlyingW (hid s₀.heap (L :: Lc :: outer.filterMap (·.frame))) (told :: outer) e (.ref 71) a0 h') (u : s'.heap.UpToSlots h') :
    PEr told outer Lc L 0 s₀ e { s' with heap := h' } := ⟨rfl, ⟨a0, fl⟩, fun b o hb e hn => u b o (st.1 b o hb e) hn, st.2⟩
theorem told_raised {A : Around} {hb h₀ : Heap} {Lc R ag g f : Addr} {cd : Value} {Pg : GP} {n : Nat} {s' s₁ : Shared} {e : Addr} {G0 : Array GenState} {dr : Drawn} {os : OsState} {E : Value → Shared → Prop} {Q : Flow → Shared → Prop}
    (Xb : (KX w.params).In hb) (Tb : Top q loose mean mg mb hb) (kb : ∀ b o, hb.get? b = some o → h₀.get? b = some o) (O : OutOk h₀ outer) (fresh : ∀ b ∈ outer.filterMap (·.frame), hb.get? b = none)
    (hfr : A.frames = some (envOf nT (scopeOf nT) Lc f cd :: outer)) (hL0 : h₀.get? Lc = none) (hL1 : h₀.objs.size ≤ Lc)
    (G : GF true w A Pg (PEr (envOf nT (scopeOf nT) Lc f cd) outer Lc Pg.L) h₀ Lc R ag) (I : LI w Pg h₀ Lc R S ts ag g G0 dr os n s') (pe : PEr (envOf nT (scopeOf nT) Lc f cd) outer Lc Pg.L n (s'.setGen g .running) e s₁)
    (hQ : ∀ h'' tk' TT its k, (∀ b o, b ∉ outer.filterMap (·.frame) → h₀.get? b = some o → h''.get? b = some o) → (∀ b o, h₀.get? b = some o → notRec o → ∃ sl, h''.get? b = some { o with slots := sl }) →
      h''.get? TT = some (tup2 (.ref R) (.bool true)) → h''.get? R = some (W.listOf its k) → Found h'' [] its.toList Pg.all → Q (.ret (.ref TT)) { (s₁.setGen g .finished) with heap := h'', toks := tk' }) :
    (KX w.params).In s₁.heap ∧ (∃ o, s₁.heap.get? e = some o ∧ o.cls = .ref 71) ∧ s₁.heap.IsGen ag g ∧
      notedBy (model pw w) A (envOf nT (scopeOf nT) Lc f cd) (fun e s' => cameBackBy (model pw w) A (envOf nT (scopeOf nT) Lc f cd) (fun e s₁ => wpAny (model pw w) A (noteFrame e (envOf nT (scopeOf nT) Lc f cd)) (fun _ s₂ => wpAny (model pw w) A (setFlight e none) (fun _ s₃ => wpAny (model pw w) A (handleBy e (envOf nT (scopeOf nT) Lc f cd)
      [.ExceptHandler (some (hTypeOf hnd)) none (hBodyOf hnd) (hPosOf hnd)]) Q E s₃) E s₂) E s₁) e s') (.ref e) (s₁.setGen g .finished) := by
  obtain ⟨rfl, ⟨a0, fl⟩, us, sm⟩ := pe
  obtain ⟨o, F⟩ := I.F
  obtain ⟨its, kk, hRo, hF, hsz⟩ := I.R
  rw [Nat.sub_zero, List.take_length] at hF
  have outH : ∀ b ∈ outer.filterMap (·.frame), ∃ o, h₀.get? b = some o := fun b hb => (O.mem hb).imp fun _ h => h.1
  have keep1 : ∀ b o, b ≠ Pg.L → b ≠ Lc → b ∉ outer.filterMap (·.frame) → s'.heap.get? b = some o → (hid (s'.setGen g .running).heap (Pg.L :: Lc :: outer.filterMap (·.frame))).get? b = some o := fun b o h1 h2 h3 e =>
    hideAll_get _ e (by simp only [List.mem_cons, not_or]; exact ⟨h1, h2, h3⟩)
  have offL : ∀ b o, h₀.get? b = some o → b ≠ Pg.L ∧ b ≠ Lc := fun b o e => ⟨fun z => (by rw [z, G.L0] at e; cases e), fun z => (by rw [z, hL0] at e; cases e)⟩
  have newOff : ∀ b, h₀.get? b = none → b ∉ outer.filterMap (·.frame) := fun b e hb => by obtain ⟨o, ho⟩ := outH b hb; rw [e] at ho; cases ho
  have offX : ∀ b o, hb.get? b = some o → b ∉ outer.filterMap (·.frame) := fun b o e hb' => by rw [fresh b hb'] at e; cases e
  have X1 : (KX w.params).In s₁.heap := fun b o e => by
    have e1 := Xb b o e
    have e2 := kb b o e1
    exact fl.1 b o (keep1 b o (offL b o e2).1 (offL b o e2).2 (offX b o e1) (F.keep b o e2))
  refine ⟨X1, fl.there, ?_, ?_⟩
  · obtain ⟨og, nm, qn, hog, rg⟩ := I.ig
    exact ⟨og, nm, qn, fl.1 _ _ (keep1 _ _ G.a3 G.a1 (newOff _ G.a0) hog), rg⟩
  · refine wpAny_looks_onW hfr rfl fl fun hA HA uA => ?_
    refine wpAny_cond_not_none (x := .none) (l := []) HA.2.2.2 ?_
    refine setFlight_held HA fun hB HB uB => ?_
    -- the heap told goes on in: what stood ahead of it, its frames' records hidden
    let hz := hid h₀ (outer.filterMap (·.frame))
    have kz : ∀ b o, hb.get? b = some o → hz.get? b = some o := fun b o e => hideAll_get _ (kb b o e) (offX b o e)
    have up : ∀ h', hB.UpToSlots h' → s₁.heap.UpToSlots h' := fun h' u => (uA.trans uB).trans u
    have frz : ∀ h', Heap.StaysIn (hid (s'.setGen g .running).heap (Pg.L :: Lc :: outer.filterMap (·.frame))) h' → hB.UpToSlots h' → Fr hz Lc h' (dM S ts R o) := fun h' st u => by
      obtain ⟨oL, es, ep, hL, hd, hs, hf⟩ := F.ns
      obtain ⟨sl, hLa⟩ := us Lc oL (Ne.symm G.L1) hL (fun vs e => by rw [hd] at e; cases e)
      obtain ⟨sl2, hLb⟩ := up h' u Lc _ hLa (fun vs e => by rw [show ({ oL with slots := sl } : Obj).data = oL.data from rfl, hd] at e; cases e)
      refine ⟨⟨_, es, ep, hLb, hd, hs, hf⟩, fun b oo e => ?_, by show (hideAll h₀ _).objs.size ≤ _; rw [hideAll_size]; exact hL1⟩
      have e0 := of_hideAll _ e
      have hb : b ∉ outer.filterMap (·.frame) := fun z => by
        have := hideAll_none (h := h₀) _ z
        rw [show hz.get? b = (hideAll h₀ (outer.filterMap (·.frame))).get? b from rfl, this] at e; cases e
      exact st b oo (keep1 b oo (offL b oo e0).1 (offL b oo e0).2 hb (F.keep b oo e0))
    refine told_handles (base := hid (s'.setGen g .running).heap (Pg.L :: Lc :: outer.filterMap (·.frame))) (outer := outer) (h₀ := hz) (s := { (s₁.setGen g .finished) with heap := hB }) frz (Xb.keeps kz) (Tb.keeps kz) HB ?_
    intro h2 h'' tk' TT st2 u2 k2 hTT hn
    have all2 : ∀ b oo, b ≠ Pg.L → b ≠ Lc → b ∉ outer.filterMap (·.frame) → s'.heap.get? b = some oo → h''.get? b = some oo := fun b oo n1 n2 n3 e => k2 b oo n2 (st2 b oo (keep1 b oo n1 n2 n3 e))
    refine hQ h'' tk' TT its kk (fun b oo n3 e => all2 b oo (offL b oo e).1 (offL b oo e).2 n3 (F.keep b oo e)) (fun b oo e hn => ?_) hTT (all2 R _ (Ne.symm G.L2) G.R1 (newOff _ G.R0) hRo) ?_
    · obtain ⟨sl, e1⟩ := us b oo (offL b oo e).1 (F.keep b oo e) hn
      obtain ⟨sl2, e2⟩ := up h2 u2 b _ e1 hn
      exact ⟨sl2, k2 b _ (offL b oo e).2 e2⟩
    · have hF' : Found h'' [Lc, R, Pg.L] its.toList Pg.all := by
        refine Found.keepsTup' hF fun b x y z hb e => all2 b _ (fun q => hb (by rw [q]; exact .tail _ (.tail _ (.head _)))) (fun q => hb (by rw [q]; exact .head _)) (fun q => ?_) e
        obtain ⟨oo, ho, es, ep, hd⟩ := O.mem q
        rw [F.keep _ _ ho] at e; cases e; cases hd
      exact hF'.off
theorem told_bad {hb : Heap} {Q E : Value → Shared → Prop} (hd : dp ≤ 370) (hu : un ≤ 50) (Xb : (KX w.params).In hb) (Tb : Top q loose mean mg mb hb) (kb : ∀ b o, hb.get? b = some o → s.heap.get? b = some o)
    (O : OutOk s.heap outer) (fresh : ∀ b ∈ outer.filterMap (·.frame), hb.get? b = none) (hfr : fr = some outer) (hS : S.cps.size ≤ 100000) (hn : NoNul S) (Z : Scan S (BadAt S) true 0 all) (hall : all.length < 1000)
    (hQ : ∀ h' tk' TT R its k, (∀ b o, b ∉ outer.filterMap (·.frame) → s.heap.get? b = some o → h'.get? b = some o) → (∀ b o, s.heap.get? b = some o → notRec o → ∃ sl, h'.get? b = some { o with slots := sl }) →
      h'.get? TT = some (tup2 (.ref R) (.bool true)) → h'.get? R = some (W.listOf its k) → Found h' [] its.toList all → s.heap.get? R = none →
      Q (.ref TT) { s with heap := h', toks := tk', gens := s.gens.push .finished }) :
    wpAny (model pw w) (ar dp un gd fr) (call (.ref 252) [.str S ts]) Q E s := by
  have X := Xb.keeps kb
  have T := Tb.keeps kb
  obtain ⟨o, pm, cd, doc, h1, h2, h3⟩ := (def_252 X).at_
  refine wpAny_call (call_pos_ret (Nat.lt_of_le_of_lt hd (by decide)) h1 h2 T.nolimit h3 rfl (locs rfl) (fun h₁ F => ?_) rfl rfl rfl (by decide))
  rw [bodyT_eq]
  show wpAny (model pw w) (ar (dp + 1) (un + 3) gd (fr.map (envOf nT (scopeOf nT) s.heap.objs.size 252 cd :: ·))) _ _ _ _
  refine wpAny_execs_cons (found_stmt F X T fun h' tk' R F' N' => ?_)
  have F' := fr_eq F' dM_start
  refine wpAny_execs_cons ?_
  rw [tB1_eq, arm_exec_Try]
  refine wpAny_bind (wpAny_standAt (wpAny_tryStmt_except (wpAny_execs_cons ?_)))
  have hLc : s.heap.get? s.heap.objs.size = none := Heap.get?_none_of_le (Nat.le_refl _)
  refine told_for (b := true) (bad := BadAt S) (all := all) (PE := PEr (envOf nT (scopeOf nT) s.heap.objs.size 252 cd) outer s.heap.objs.size) (by omega) (by omega) X T hS hn Z hall F' N' (Nat.le_trans F'.above (Nat.le_of_lt F'.ns.lt)) (fun _ Lg cdg p d s₀ s₁ C hbd st G => ?_) (fun Lg ag cdg n s' e s₁ G I pe => ?_) ?_
  · have hP : fr.map (envOf nT (scopeOf nT) s.heap.objs.size 252 cd :: ·) = some (envOf nT (scopeOf nT) s.heap.objs.size 252 cd :: outer) := by rw [hfr]; rfl
    refine bad_head (P := { GKH true w s.heap.objs.size R Lg (dp + 1) (un + 3) gd (fr.map (envOf nT (scopeOf nT) s.heap.objs.size 252 cd :: ·)) cdg all (PEr (envOf nT (scopeOf nT) s.heap.objs.size 252 cd) outer s.heap.objs.size Lg) (by omega) (by omega) with p := p })
      (base := fun s₀ => hid s₀.heap (Lg :: s.heap.objs.size :: outer.filterMap (·.frame))) C st G hbd hP (fun s' st' => hid_stays st') (fun s' st' G' => hid_frames G' O) (fun s' h' e a0 st' fl u => .inr ⟨e, rfl, pe_of st' fl u⟩)
  · refine told_raised (hb := hb) (h₀ := s.heap) (q := q) (loose := loose) (mean := mean) (mg := mg) (mb := mb) (Q := fun f s' => _) Xb Tb kb O fresh (by show Option.map _ fr = _; rw [hfr]; rfl) hLc (Nat.le_refl _) G I pe ?_
    intro h'' tk' TT its k k1 k2 hTT hR hF
    have e1 : s₁.drawn = s.drawn := pe.2.2.2.2.1.trans I.dr
    have e2 : s₁.os = s.os := pe.2.2.2.2.2.trans I.os
    have e3 : (s₁.setGen s.gens.size .finished).gens = s.gens.push .finished := by
      have g1 : GenOnly s.gens.size (s.gens.push (.fresh (funC Lg 224 cdg))) (s₁.setGen s.gens.size .finished).gens := I.gens.trans ((GenOnly.setGen s' s.gens.size .running).trans (by rw [← pe.2.2.2.1]; exact GenOnly.setGen s₁ s.gens.size .finished))
      have g2 : (s₁.setGen s.gens.size .finished).gens[s.gens.size]? = some .finished := by
        refine setGen_self (gs := .running) ?_
        rw [pe.2.2.2.1]
        obtain ⟨gs, hgs, _⟩ := I.gen
        exact setGen_self hgs
      refine Array.ext_getElem? fun i => ?_
      by_cases hi : i = s.gens.size
      · rw [hi, g2]; simp
      · rw [g1.2 i hi]
        simp only [Array.getElem?_push, if_neg hi]
    show Q (.ref TT) ⟨h'', (s₁.setGen s.gens.size .finished).gens, s₁.drawn, tk', s₁.os⟩
    rw [e3, e1, e2]
    exact hQ h'' tk' TT R its k k1 k2 hTT hR hF (N' _ (.head _)).2.2
  · intro _ _ _ _ _ _ _ _ _ _ hb; cases hb
end
end Mine
end

section
open PySem PySem.W PyProof.Rows PySem.Calls
set_option Elab.async false
set_option maxRecDepth 100000
set_option maxHeartbeats 4000000
set_option linter.unusedVariables false
set_option pp.deepTerms false
set_option pp.maxSteps 3000
namespace Mine
def valD : Option Str → PyData
  | some V => .str V
  | none => .none
def tkD (k : Tk) : PyData := .tuple [.str k.kind, valD k.val, .int k.pos]
def outD (ks : List Tk) (b : Bool) : PyData := .tuple [.list (ks.map tkD), .bool b]
theorem readsAll_snoc {h : Heap} {vs : List Value} {ds : List PyData} {as : List Addr} {v : Value} {d : PyData} {bs : List Addr} (x : ReadsAll h vs ds as) (y : Reads h v d bs) : ∃ cs, ReadsAll h (vs ++ [v]) (ds ++ [d]) cs := by
  induction vs generalizing ds as with
  | nil => cases x; exact ⟨_, .cons y .nil⟩
  | cons v0 vs ih =>
    cases x with
    | cons x1 x2 =>
      obtain ⟨cs, z⟩ := ih x2
      exact ⟨_, .cons x1 z⟩
theorem tup_reads {h : Heap} {T : Addr} {k : Tk} (x : TupAt h T k) : ∃ as, Reads h (.ref T) (tkD k) as := by
  obtain ⟨t1, t3, v, e, hv⟩ := x
  have hv' : Reads h v (valD k.val) [] := by
    unfold ValIs at hv
    split at hv
    · rename_i V hk
      obtain ⟨t, rfl⟩ := hv
      rw [hk]; exact .str _ _
    · rename_i hk
      subst hv; rw [hk]; exact .none
  exact ⟨_, .tuple e rfl rfl (.cons (.str _ _) (.cons hv' (.cons (.int _ _) .nil)))⟩
theorem found_reads {h : Heap} {own : List Addr} {vs : List Value} {ks : List Tk} (x : Found h own vs ks) : ∃ as, ReadsAll h vs (ks.map tkD) as := by
  induction x with
  | nil => exact ⟨_, .nil⟩
  | snoc _ t _ ih =>
    obtain ⟨as, ih⟩ := ih
    obtain ⟨bs, t⟩ := tup_reads t
    rw [List.map_append]
    exact readsAll_snoc ih t
theorem out_reads {h : Heap} {TT R : Addr} {its : Array Value} {k : Nat} {ks : List Tk} {b : Bool} (hT : h.get? TT = some (tup2 (.ref R) (.bool b))) (hR : h.get? R = some (W.listOf its k)) (hF : Found h [] its.toList ks) : ∃ as, Reads h (.ref TT) (outD ks b) as := by
  obtain ⟨as, x⟩ := found_reads hF
  exact ⟨_, .tuple hT rfl rfl (.cons (.list hR rfl rfl x) (.cons (.bool _) .nil))⟩
theorem eqv_tk (k : Tk) : (tkD k).eqv (tkD k) = true := by
  unfold tkD valD
  cases k.val <;> simp [PyData.eqv, PyData.eqvAll]
theorem eqv_all (ks : List Tk) : PyData.eqvAll (ks.map tkD) (ks.map tkD) = true := by
  induction ks with
  | nil => simp [PyData.eqvAll]
  | cons k r ih => simp [PyData.eqvAll, eqv_tk, ih]
theorem eqv_out (ks : List Tk) (b : Bool) : (outD ks b).eqv (outD ks b) = true := by
  unfold outD
  simp [PyData.eqv, PyData.eqvAll, eqv_all]
theorem depth_all (ks : List Tk) : PyData.depthAll (ks.map tkD) ≤ 2 := by
  induction ks with
  | nil => simp [PyData.depthAll]
  | cons k r ih =>
    simp only [List.map_cons, PyData.depthAll]
    have : (tkD k).depth ≤ 2 := by unfold tkD valD; cases k.val <;> simp [PyData.depth, PyData.depthAll]
    omega
def tksOk (ks : List Tk) : Bool := ks.all fun k => (tkD k).canLay0
theorem canLay_all {ks : List Tk} (h : tksOk ks = true) : PyData.canLayAll0 (ks.map tkD) = true := by
  induction ks with
  | nil => simp [PyData.canLayAll0]
  | cons k r ih =>
    simp only [tksOk, List.all_cons, Bool.and_eq_true] at h
    simp only [List.map_cons, PyData.canLayAll0, h.1, ih h.2, Bool.and_self]
theorem shaped_out {ks : List Tk} {b : Bool} (h : tksOk ks = true) : SeqAt.shaped (outD ks b) = true := by
  unfold SeqAt.shaped outD
  have := depth_all ks
  simp only [PyData.canLay0, PyData.canLayAll0, canLay_all h, PyData.depth, PyData.depthAll, Bool.and_eq_true, Bool.and_self, true_and]
  refine decide_eq_true ?_
  omega
section
variable {w : World} {A : Around} {s : Shared} {ks : List Tk} {b : Bool} {TT TT' R R' : Addr} {its its' : Array Value} {k k' : Nat}
theorem eq_out {Q E : Value → Shared → Prop} (hu : A.units + 64 < cLine) (hk : tksOk ks = true) (hT : s.heap.get? TT = some (tup2 (.ref R) (.bool b))) (hR : s.heap.get? R = some (W.listOf its k)) (hF : Found s.heap [] its.toList ks)
    (hT' : s.heap.get? TT' = some (tup2 (.ref R') (.bool b))) (hR' : s.heap.get? R' = some (W.listOf its' k')) (hF' : Found s.heap [] its'.toList ks) (h : Q (.bool true) s) : wpAny (model pw w) A (compareOp .Eq (.ref TT) (.ref TT')) Q E s := by
  obtain ⟨as, ra⟩ := out_reads hT hR hF
  obtain ⟨bs, rb⟩ := out_reads hT' hR' hF'
  exact eq_dataH ra rb (shaped_out hk) (shaped_out hk) hu (by rw [eqv_out]; exact h)
end
/-- what the law is told of _law_told on one text -/
def Told (w : World) (h₀ : Heap) (L : Addr) (cd : Value) (S : Str) (all : List Tk) (b : Bool) : Prop :=
  ∀ {dp un : Nat} {gd : Option (List Code)} {s : Shared} {m : Str → Option Value} {ts : Tok} {Q E : Value → Shared → Prop}, dp ≤ 370 → un ≤ 50 → Fr h₀ L s.heap m →
    (∀ h' tk' TT R its k, Fr h₀ L h' m → (∀ b o, b ≠ L → s.heap.get? b = some o → h'.get? b = some o) → h'.get? TT = some (tup2 (.ref R) (.bool b)) → h'.get? R = some (W.listOf its k) → Found h' [] its.toList all →
      Q (.ref TT) { s with heap := h', toks := tk', gens := s.gens.push .finished }) →
    wpAny (model pw w) (ar dp un gd (some [envOf nW (scopeOf nW) L 259 cd])) (call (.ref 252) [.str S ts]) Q E s
section
variable {w : World} {h₀ : Heap} {L : Addr} {cd : Value} {q : Program} {loose : List Str} {mean : ExcName → Option Value} {mg mb : Str → Option Value} {S : Str} {all : List Tk}
theorem Told.ok {bad : Nat → Prop} (X : (KX w.params).In h₀) (T : Top q loose mean mg mb h₀) (hS : S.cps.size ≤ 100000) (hn : NoNul S) (Z : Scan S bad false 0 all) (hall : all.length < 1000) : Told w h₀ L cd S all false := by
  intro dp un gd s m ts Q E hd hu F hQ
  exact told_ok hd hu (X.keeps F.keep) (T.keeps F.keep) hS hn Z hall fun h' tk' TT R its k hk hT hR hF _ _ => hQ h' tk' TT R its k ⟨F.ns.keeps hk, fun b o e => hk b o (F.keep b o e), F.above⟩ (fun b o _ e => hk b o e) hT hR hF
theorem Told.bad (X : (KX w.params).In h₀) (T : Top q loose mean mg mb h₀) (hS : S.cps.size ≤ 100000) (hn : NoNul S) (Z : Scan S (BadAt S) true 0 all) (hall : all.length < 1000) : Told w h₀ L cd S all true := by
  intro dp un gd s m ts Q E hd hu F hQ
  have hL : h₀.get? L = none := Heap.get?_none_of_le F.above
  have hl : ([envOf nW (scopeOf nW) L 259 cd] : List Env).filterMap (·.frame) = [L] := rfl
  refine told_bad (hb := h₀) (outer := [envOf nW (scopeOf nW) L 259 cd]) hd hu X T F.keep ⟨fun env he => ?_⟩ (fun b hb => ?_) rfl hS hn Z hall fun h' tk' TT R its k k1 k2 hT hR hF _ => ?_
  · simp only [List.mem_singleton] at he
    subst he
    obtain ⟨oL, es, ep, hLo, hd, _⟩ := F.ns
    exact ⟨by show (scopeOf nW).kind ≠ _; decide, L, oL, rfl, hLo, es, ep, hd⟩
  · rw [hl, List.mem_singleton] at hb; rw [hb]; exact hL
  · rw [hl] at k1
    have keep : ∀ b o, b ≠ L → s.heap.get? b = some o → h'.get? b = some o := fun b o hb e => k1 b o (by simpa using hb) e
    obtain ⟨oL, es, ep, hLo, hd, hs, hf⟩ := F.ns
    obtain ⟨sl, hL'⟩ := k2 L oL hLo (fun vs e => by rw [hd] at e; cases e)
    exact hQ h' tk' TT R its k ⟨⟨_, es, ep, hL', hd, hs, hf⟩, fun b o e => keep b o (fun z => by rw [z, hL] at e; cases e) (F.keep b o e), F.above⟩ keep hT hR hF
end
end Mine
end

section
open PySem PySem.W PyProof.Rows PySem.Calls
set_option Elab.async false
set_option maxRecDepth 100000
set_option maxHeartbeats 4000000
set_option linter.unusedVariables false
set_option pp.deepTerms false
set_option pp.maxSteps 3000
namespace Mine
def OutAt (h : Heap) (TT : Addr) (ks : List Tk) (b : Bool) : Prop := ∃ R its k, h.get? TT = some (tup2 (.ref R) (.bool b)) ∧ h.get? R = some (W.listOf its k) ∧ Found h [] its.toList ks
def DueAt (h : Heap) (D : Addr) (ks : List Tk) : Prop := ∃ its k, h.get? D = some (W.listOf its k) ∧ Found h [] its.toList ks
abbrev Here (h₀ : Heap) (L : Addr) (news : List (Addr × Obj)) (P : Heap → Prop) : Prop := ∀ h' m', Fr h₀ L h' m' → News h₀ L h' news → P h'
theorem list_notFr {h₀ h : Heap} {L : Addr} {m : Str → Option Value} {its : Array Value} {k : Nat} (F : Fr h₀ L h m) (e : h.get? L = some (W.listOf its k)) : False := by
  obtain ⟨oL, es, ep, hL, hd, _⟩ := F.ns
  rw [e] at hL; cases hL; cases hd
theorem tup2_notFr {h₀ h : Heap} {L : Addr} {m : Str → Option Value} {x y : Value} (F : Fr h₀ L h m) (e : h.get? L = some (tup2 x y)) : False := by
  obtain ⟨oL, es, ep, hL, hd, _⟩ := F.ns
  rw [e] at hL; cases hL; cases hd
theorem DueAt.move {h₀ h h' : Heap} {L D : Addr} {m : Str → Option Value} {ks : List Tk} (F : Fr h₀ L h m) (x : DueAt h D ks) (k : ∀ b o, b ≠ L → h.get? b = some o → h'.get? b = some o) : DueAt h' D ks := by
  obtain ⟨its, n, e, f⟩ := x
  exact ⟨its, n, k _ _ (fun z => list_notFr F (z ▸ e)) e, f.keepsTup fun b x y z e => k _ _ (fun q => tup_notFr F (q ▸ e)) e⟩
theorem OutAt.move {h₀ h h' : Heap} {L TT : Addr} {m : Str → Option Value} {ks : List Tk} {b : Bool} (F : Fr h₀ L h m) (x : OutAt h TT ks b) (k : ∀ b o, b ≠ L → h.get? b = some o → h'.get? b = some o) : OutAt h' TT ks b := by
  obtain ⟨R, its, n, e1, e, f⟩ := x
  exact ⟨R, its, n, k _ _ (fun z => tup2_notFr F (z ▸ e1)) e1, k _ _ (fun z => list_notFr F (z ▸ e)) e, f.keepsTup fun b x y z e => k _ _ (fun q => tup_notFr F (q ▸ e)) e⟩
section
variable {w : World} {dp un : Nat} {gd : Option (List Code)} {fr : Option (List Env)} {s : Shared} {h₀ : Heap} {L f : Addr} {cd : Value} {q : Program} {loose : List Str} {mean : ExcName → Option Value} {mg mb : Str → Option Value}
  {sc D T TT : Addr} {S S' : Str} {ts : Tok} {ao co po eo : Option Value} {news : List (Addr × Obj)} {vs : List Value} {ns : List Int} {its : Array Value} {n : Nat} {ks ks' : List Tk} {b : Bool} {m : Str → Option Value}
theorem told_use {Q E : Value → Shared → Prop} (hT : Told w h₀ L cd S ks b) (hd : dp ≤ 370) (hu : un ≤ 50) (F : Fr h₀ L s.heap m) (N : News h₀ L s.heap news) (hD : Here h₀ L news (DueAt · D ks'))
    (hQ : ∀ h' tk' TT news', Fr h₀ L h' m → News h₀ L h' news' → Here h₀ L news' (DueAt · D ks') → Here h₀ L news' (OutAt · TT ks b) → Q (.ref TT) { s with heap := h', toks := tk', gens := s.gens.push .finished }) :
    wpAny (model pw w) (ar dp un gd (some [envOf nW (scopeOf nW) L 259 cd])) (call (.ref 252) [.str S ts]) Q E s := by
  refine hT hd hu F fun h' tk' TT R its k F' keep e1 e2 e3 => ?_
  have hd := hD _ _ F N
  exact hQ h' tk' TT (newsAll h₀ h' L) F' newsAll_news (fun h'' m'' F'' N'' => ((hd.move F keep).move F' (of_newsAll (more := []) F' F'' N''))) (fun h'' m'' F'' N'' => OutAt.move F' ⟨R, its, k, e1, e2, e3⟩ (of_newsAll (more := []) F' F'' N''))
theorem eq_use {A : Around} {Q E : Value → Shared → Prop} (hu : A.units ≤ 60) (hk : tksOk ks = true) (F : Fr h₀ L s.heap m) (N : News h₀ L s.heap ((T, tup2 (.ref D) (.bool b)) :: news)) (hO : Here h₀ L news (OutAt · TT ks b)) (hD : Here h₀ L news (DueAt · D ks)) (h : Q (.bool true) s) :
    wpAny (model pw w) A (compareOp .Eq (.ref TT) (.ref T)) Q E s := by
  obtain ⟨R, its, k, e1, e2, e3⟩ := hO _ _ F (news_tail N)
  obtain ⟨its', k', e4, e5⟩ := hD _ _ F (news_tail N)
  exact eq_out (by unfold cLine; omega) hk e1 e2 e3 (N _ (.head _)).1 e4 e5 h
theorem found_len' {h : Heap} {own : List Addr} {vs : List Value} {ks : List Tk} (x : Found h own vs ks) : vs.length = ks.length := found_len x
theorem add_due {A : Around} {Q E : Value → Shared → Prop} {l : Addr} {t1 t3 : Tok} {nn : Nat} (F : Fr h₀ L s.heap m) (N : News h₀ L s.heap ((l, W.listOf #[.ref T] 0) :: (T, tup3 (.str (Str.ofString "EOF") t1) .none (.int nn t3)) :: news)) (hD : Here h₀ L news (DueAt · D ks')) (hO : Here h₀ L news (OutAt · TT ks b)) (hlen : ks'.length ≤ 1000)
    (hQ : ∀ h' A news', Fr h₀ L h' m → News h₀ L h' news' → Here h₀ L news' (DueAt · A (ks' ++ [⟨"EOF", none, nn⟩])) → Here h₀ L news' (OutAt · TT ks b) → Q (.ref A) { s with heap := h' }) :
    wpAny (model pw w) A (binaryOp .Add (.ref D) (.ref l)) Q E s := by
  have N0 := news_tail (news_tail N)
  obtain ⟨its, k, e4, e5⟩ := hD _ _ F N0
  have hO1 := hO _ _ F N0
  have hsz : its.size ≤ 1000 := by rw [← Array.length_toList, found_len e5]; exact hlen
  have F1 := fun h' (F' : Fr h₀ L h' m) (N' : News h₀ L h' (newsAll h₀ s.heap L)) => of_newsAll (more := []) F F' N'
  refine add_arrays F newsAll_news ⟨_, e4, rfl, _, rfl⟩ ⟨_, (N _ (.head _)).1, rfl, _, rfl⟩ (fun h' F' N' => ?_) (by unfold sizeLine; simp; omega)
  have keep := F1 h' F' (news_tail N')
  have eT := keep T _ (N _ (.tail _ (.head _))).2.1 (N _ (.tail _ (.head _))).1
  have due' : DueAt h' s.heap.objs.size (ks' ++ [⟨"EOF", none, nn⟩]) := by
    refine ⟨_, _, (N' _ (.head _)).1, ?_⟩
    show Found h' [] (its.toList ++ [.ref T]) _
    exact .snoc (e5.keepsTup fun b x y z e => keep b _ (fun q => tup_notFr F (q ▸ e)) e) ⟨t1, t3, .none, eT, rfl⟩ (by simp)
  have out' : OutAt h' TT ks b := hO1.move F keep
  exact hQ h' _ (newsAll h₀ h' L) F' newsAll_news (fun h'' m'' F'' N'' => due'.move F' (of_newsAll (more := []) F' F'' N'')) (fun h'' m'' F'' N'' => out'.move F' (of_newsAll (more := []) F' F'' N''))
local macro_rules | `(tactic| walk_at "binaryOp Add ref ref") => `(tactic| (refine add_due (by assumption) (by assumption) (by assumption) (by assumption) (by assumption) ?_; intro h' A news' F' N' hD' hO'))
local macro_rules | `(tactic| walk_at "call ref") => `(tactic| (refine told_use (by assumption) (by omega) (by omega) (by assumption) (by assumption) (by assumption) ?_; intro h' tk' TT news' F' N' hD' hO'))
local macro_rules | `(tactic| walk_at "compareOp Eq ref ref") => `(tactic| (refine eq_use (by dsimp only; omega) (by assumption) (by assumption) (by assumption) (by assumption) (by assumption) ?_))
theorem r3 {Q : Flow → Shared → Prop} (hd : dp ≤ 360) (hu : un ≤ 30) (F : Fr h₀ L s.heap (lM sc S ts D ao co po eo)) (X : (KX w.params).In h₀) (Tp : Top q loose mean mg mb h₀) (N : News h₀ L s.heap news) (hS : S.length ≤ 2000) (hk : tksOk ks = true) (hT : Told w h₀ L cd (S ++ Str.ofString "'open") ks true) (hD : Here h₀ L news (DueAt · D ks))
    (hQ : ∀ h' tk' m', Fr h₀ L h' m' → Q (.ret (.bool true)) { s with heap := h', toks := tk', gens := s.gens.push .finished }) :
    wpAny (model pw w) (ar dp un gd (some [envOf nW (scopeOf nW) L 259 cd])) (execs (ifBodyOf (lB 3)) (envOf nW (scopeOf nW) L 259 cd)) Q noE s := by
  repeat' walk1
  exact hQ _ _ _ (by assumption)
theorem r4 {Q : Flow → Shared → Prop} (hd : dp ≤ 360) (hu : un ≤ 30) (F : Fr h₀ L s.heap (lM sc S ts D ao co po eo)) (X : (KX w.params).In h₀) (Tp : Top q loose mean mg mb h₀) (N : News h₀ L s.heap news) (hS : S.length ≤ 2000) (hk : tksOk ks = true) (hT : Told w h₀ L cd (S ++ Str.ofString "\"a\nb\"") ks true) (hD : Here h₀ L news (DueAt · D ks))
    (hQ : ∀ h' tk' m', Fr h₀ L h' m' → Q (.ret (.bool true)) { s with heap := h', toks := tk', gens := s.gens.push .finished }) :
    wpAny (model pw w) (ar dp un gd (some [envOf nW (scopeOf nW) L 259 cd])) (execs (ifBodyOf (lB 4)) (envOf nW (scopeOf nW) L 259 cd)) Q noE s := by
  repeat' walk1
  exact hQ _ _ _ (by assumption)
theorem r5 {Q : Flow → Shared → Prop} (F : Fr h₀ L s.heap (lM sc S ts D ao co po eo)) (X : (KX w.params).In h₀) (Tp : Top q loose mean mg mb h₀) (N : News h₀ L s.heap news) (hS : S.length ≤ 2000)
    (hQ : ∀ h' tk' t', Fr h₀ L h' (lM sc (S ++ Str.ofString "/* open") t' D ao co po eo) → News h₀ L h' news → Q .next { s with heap := h', toks := tk' }) :
    wpAny (model pw w) (ar dp un gd (some [envOf nW (scopeOf nW) L 259 cd])) (execs (ifBodyOf (lB 5)) (envOf nW (scopeOf nW) L 259 cd)) Q noE s := by
  repeat' walk1
  exact hQ _ _ _ (fr_eq (by assumption) lM_text) (by assumption)
theorem if_test {Q : Bool → Shared → Prop} {x e : Int} {t : Tok} {i : Nat} (hi : i = 3 ∧ x = 3 ∨ i = 4 ∧ x = 4 ∨ i = 5 ∧ x = 5) (F : Fr h₀ L s.heap (lM sc S ts D ao co po (some (.int e t)))) (X : (KX w.params).In h₀) (Tp : Top q loose mean mg mb h₀) (N : News h₀ L s.heap news)
    (hQ : ∀ tk', Q (decide (e = x)) { s with toks := tk' }) : wpAny (model pw w) (ar dp un gd (some [envOf nW (scopeOf nW) L 259 cd])) (isTrue (ifTestOf (lB i)) (envOf nW (scopeOf nW) L 259 cd) (eval (ifTestOf (lB i)) (envOf nW (scopeOf nW) L 259 cd))) Q noE s := by
  rcases hi with ⟨rfl, rfl⟩ | ⟨rfl, rfl⟩ | ⟨rfl, rfl⟩
  all_goals
    change wpAny _ _ (PySem.isTrue (Expr.Compare _ _ _ _) _ _) Q noE s
    repeat' walk1
    exact hQ _
theorem r6 {Q : Flow → Shared → Prop} (hd : dp ≤ 360) (hu : un ≤ 30) (F : Fr h₀ L s.heap (lM sc S ts D ao co po eo)) (X : (KX w.params).In h₀) (Tp : Top q loose mean mg mb h₀) (N : News h₀ L s.heap news) (hS : S.length ≤ 2000) (hk : tksOk (ks' ++ [⟨"EOF", none, S.length⟩]) = true) (hlen : ks'.length ≤ 1000) (hT : Told w h₀ L cd S (ks' ++ [⟨"EOF", none, S.length⟩]) false) (hD : Here h₀ L news (DueAt · D ks'))
    (hQ : ∀ h' tk' m', Fr h₀ L h' m' → Q (.ret (.bool true)) { s with heap := h', toks := tk', gens := s.gens.push .finished }) :
    wpAny (model pw w) (ar dp un gd (some [envOf nW (scopeOf nW) L 259 cd])) (exec (lB 6) (envOf nW (scopeOf nW) L 259 cd)) Q noE s := by
  change wpAny _ _ (exec (Stmt.Return _ _) _) Q noE s
  repeat' walk1
  all_goals first | exact hQ _ _ _ (by assumption) | (trace_state; walk_report)
end
section
variable {w : World} {dp un : Nat} {gd : Option (List Code)} {fr : Option (List Env)} {s : Shared} {h₀ : Heap} {L f : Addr} {cd : Value} {q : Program} {loose : List Str} {mean : ExcName → Option Value} {mg mb : Str → Option Value}
  {sc D T TT : Addr} {S S' : Str} {ts : Tok} {ao co po eo : Option Value} {news : List (Addr × Obj)} {vs : List Value} {ns : List Int} {its : Array Value} {n : Nat} {ks ks' : List Tk} {b : Bool} {m : Str → Option Value}
local macro_rules | `(tactic| walk_at "call ref") => `(tactic| (refine cell_use (by omega) (by assumption) (by assumption) (by assumption) (by assumption) (by assumption) (by assumption) (by assumption) (by assumption) (by decide) (by decide) ?_; intro h' c t' tk' F' N' lo hi'))
theorem e2 {Q : Flow → Shared → Prop} (hd : dp ≤ 360) (F : Fr h₀ L s.heap (lM sc S ts D ao co po eo)) (X : (KX w.params).In h₀) (Tp : Top q loose mean mg mb h₀) (N : News h₀ L s.heap news) (hl : h₀.IsList sc vs.toArray) (hi : IntsAre vs ns) (hsz : vs.toArray.size = ns.length) (hlen : ns.length ≤ 1000)
    (hQ : ∀ h' tk' e t', Fr h₀ L h' (lM sc S ts D ao co po (some (.int e t'))) → News h₀ L h' news → Q .next { s with heap := h', toks := tk' }) :
    wpAny (model pw w) (ar dp un gd fr) (exec (lB 2) (envOf nW (scopeOf nW) L 259 cd)) Q noE s := by
  change wpAny _ _ (exec (Stmt.Assign _ _ _) _) Q noE s
  repeat' walk1
  exact hQ _ _ _ _ (fr_eq (by assumption) lM_end) (by assumption)
theorem lM_start {D : Addr} {sc : Addr} {t : Tok} : (fun y => if y = Str.ofString "text" then some (Value.str (Str.ofString "") t) else if y = Str.ofString "due" then some (Value.ref D) else (((argsOf nW).args.map (·.arg)).zip [Value.ref sc]).reverse.lookup y) = lM sc (Str.ofString "") t D none none none none := by
  have e0 : (((argsOf nW).args.map (·.arg)).zip [Value.ref sc]).reverse = [(Str.ofString "script", Value.ref sc)] := by kernel_rfl
  rw [e0]
  funext y
  have n1 : ¬ (Str.ofString "text" = Str.ofString "script") := by decide
  have n2 : ¬ (Str.ofString "due" = Str.ofString "script") := by decide
  have n3 : ¬ (Str.ofString "due" = Str.ofString "text") := by decide
  have n4 : ¬ (Str.ofString "script" = Str.ofString "text") := by decide
  have n5 : ¬ (Str.ofString "script" = Str.ofString "due") := by decide
  by_cases h1 : y = Str.ofString "text"
  · subst h1; simp [lM, n1]
  · by_cases h2 : y = Str.ofString "due"
    · subst h2; simp [lM, n2, n3]
    · by_cases h3 : y = Str.ofString "script"
      · subst h3; simp [lM, n4, n5, List.lookup]
      · have h4 : (y == Str.ofString "script") = false := by simpa using h3
        simp [lM, h1, h2, h3, List.lookup, h4]
theorem e0 {Q : Flow → Shared → Prop} {m} (F : Fr h₀ L s.heap m) (X : (KX w.params).In h₀) (Tp : Top q loose mean mg mb h₀) (N : News h₀ L s.heap [])
    (hQ : ∀ h' tk' D t, Fr h₀ L h' (fun y => if y = Str.ofString "text" then some (Value.str (Str.ofString "") t) else if y = Str.ofString "due" then some (Value.ref D) else m y) → News h₀ L h' [(D, W.listOf #[] 0)] → Q .next { s with heap := h', toks := tk' }) :
    wpAny (model pw w) (ar dp un gd fr) (exec (lB 0) (envOf nW (scopeOf nW) L 259 cd)) Q noE s := by
  change wpAny _ _ (exec (Stmt.Assign _ _ _) _) Q noE s
  repeat' walk1
  all_goals first | exact hQ _ _ _ _ (by assumption) (by assumption) | exact hQ _ _ _ _ (by assumption) (news_tail (by assumption)) | (trace_state; walk_report)
end
end Mine
end

section
open PySem PySem.W PyProof.Rows PySem.Calls
set_option Elab.async false
set_option maxRecDepth 100000
set_option maxHeartbeats 4000000
set_option linter.unusedVariables false
set_option pp.deepTerms false
set_option pp.maxSteps 3000
namespace Mine
section
variable {w : World} {dp un : Nat} {gd : Option (List Code)} {fr : Option (List Env)} {s : Shared} {h₀ : Heap} {L f : Addr} {cd : Value} {q : Program} {loose : List Str} {mean : ExcName → Option Value} {mg mb : Str → Option Value}
  {sc D T TT : Addr} {S S' : Str} {ts : Tok} {ao co po eo : Option Value} {news : List (Addr × Obj)} {vs : List Value} {ns : List Int} {its : Array Value} {n : Nat} {ks ks' : List Tk} {b : Bool} {m : Str → Option Value}
local macro_rules | `(tactic| walk_at "call builtin:len") => `(tactic| (refine len_list (Fr.lst (by assumption) (by assumption)) (by omega) ?_))
theorem f_iter {Q : Value → Shared → Prop} (F : Fr h₀ L s.heap (lM sc S ts D ao co po eo)) (X : (KX w.params).In h₀) (Tp : Top q loose mean mg mb h₀) (N : News h₀ L s.heap news) (hl : h₀.IsList sc vs.toArray) (hi : IntsAre vs ns) (hsz : vs.toArray.size = ns.length) (hlen : ns.length ≤ 1000)
    (hQ : ∀ h' tk' r n t u v, IsRange h' r 0 n 1 t u v → 1 ≤ n → n ≤ 10 → Fr h₀ L h' (lM sc S ts D ao co po eo) → News h₀ L h' news → Q (.ref r) { s with heap := h', toks := tk' }) :
    wpAny (model pw w) (ar dp un gd fr) (eval (iterOf (lB 1)) (envOf nW (scopeOf nW) L 259 cd)) Q noE s := by
  change wpAny _ _ (eval (Expr.Call _ _ _ _) _) Q noE s
  repeat' walk1
  exact hQ _ _ _ _ _ _ _ (by assumption) (by omega) (by omega) (by assumption) (by assumption)
theorem at_store {Q : Unit → Shared → Prop} {v : Value} {pp : Pos} (F : Fr h₀ L s.heap (lM sc S ts D ao co po eo)) (N : News h₀ L s.heap news)
    (hQ : ∀ h' tk', Fr h₀ L h' (lM sc S ts D (some v) co po eo) → News h₀ L h' news → Q () { s with heap := h', toks := tk' }) :
    wpAny (model pw w) (ar dp un gd fr) (assign (.Name "at" pp) (envOf nW (scopeOf nW) L 259 cd) v) Q noE s := by
  refine wpAny_assign_Name ?_
  repeat' walk1
  exact hQ _ _ (fr_eq (by assumption) lM_at) (by assumption)
end
inductive Built : Nat → Str → List Tk → Prop
  | zero : Built 0 (Str.ofString "") []
  | step {i : Nat} {S : Str} {ks : List Tk} {p : Str × Str × Str} {r : Str} : Built i S ks → p ∈ PIECES → r ∈ REMARKS → Built (i + 1) (S ++ p.1 ++ r) (ks ++ [⟨p.2.1, some p.2.2, S.length⟩])
theorem pc_len : ∀ p ∈ PIECES, p.1.length ≤ 10 := by decide
theorem str_len (a b : Str) : (a ++ b).length = a.length + b.length := by
  show (a.cps ++ b.cps).size = _
  rw [Array.size_append]; rfl
theorem built_len {i : Nat} {S : Str} {ks : List Tk} (B : Built i S ks) : S.length ≤ 20 * i ∧ ks.length = i := by
  induction B with
  | zero => exact ⟨by decide, rfl⟩
  | step B hp hr ih =>
    rw [str_len, str_len, List.length_append]
    have h1 := pc_len _ hp
    have h2 := rem_len _ hr
    simp only [List.length_cons, List.length_nil]
    omega
theorem fW_eq : lB 1 = .For (.Name "at" (exprPos (tgtOf (lB 1)))) (iterOf (lB 1)) [lL 0, lL 1, lL 2, lL 3] [] (fposOf (lB 1)) := by kernel_rfl
section
variable {w : World} {dp un : Nat} {gd : Option (List Code)} {fr : Option (List Env)} {s : Shared} {h₀ : Heap} {L f : Addr} {cd : Value} {q : Program} {loose : List Str} {mean : ExcName → Option Value} {mg mb : Str → Option Value}
  {sc D T TT I : Addr} {S S' : Str} {ts : Tok} {ao co po eo : Option Value} {news : List (Addr × Obj)} {vs : List Value} {ns : List Int} {its : Array Value} {n i : Nat} {ks ks' : List Tk} {b : Bool} {m : Str → Option Value}
/-- one turn of the law's loop -/
theorem turnW {Q : Flow → Shared → Prop} {k : Nat} {t : Tok} (hd : dp ≤ 360) (hu : un ≤ 30) (X : (KX w.params).In h₀) (Tp : Top q loose mean mg mb h₀) (hl : h₀.IsList sc vs.toArray) (hi : IntsAre vs ns) (hsz : vs.toArray.size = ns.length) (hlen : ns.length ≤ 1000)
    (F : Fr h₀ L s.heap (lM sc S ts D (some (.int i t)) co po eo)) (hD : s.heap.get? D = some (W.listOf its k)) (hDn : D ≠ L ∧ h₀.get? D = none) (hF : Found s.heap [] its.toList ks) (B : Built i S ks) (hi10 : i < 10)
    (hQ : ∀ h' tk' S' ks' ts' co' po' its' k', Fr h₀ L h' (lM sc S' ts' D (some (.int i t)) co' po' eo) → h'.get? D = some (W.listOf its' k') → Found h' [] its'.toList ks' → Built (i + 1) S' ks' → (∀ b o, b ≠ L → b ≠ D → s.heap.get? b = some o → h'.get? b = some o) → Q .next { s with heap := h', toks := tk' }) :
    wpAny (model pw w) (ar dp un gd fr) (execs [lL 0, lL 1, lL 2, lL 3] (envOf nW (scopeOf nW) L 259 cd)) Q noE s := by
  obtain ⟨b1, b2⟩ := built_len B
  have N : News h₀ L s.heap ((D, W.listOf its k) :: newsRest h₀ s.heap L D) := fun p hp => by
    rcases List.mem_cons.mp hp with rfl | hp
    · exact ⟨hD, hDn⟩
    · exact newsRest_news p hp
  have hsize : its.size = ks.length := by rw [← Array.length_toList, found_len hF]
  refine wpAny_execs_cons (l0 hd hu (by omega) F X Tp N hl hi hsz hlen (by omega) (by omega) fun h1 c ct tk1 F1 N1 c0 c1 => ?_)
  refine wpAny_execs_cons (l1 hd hu F1 X Tp N1 c0 c1 fun h2 tk2 T p t1 t2 t3 F2 hp N2 => ?_)
  have hTD : T ≠ D := fun e => by
    have a := (N2 _ (.head _)).1
    have b := (N2 (D, W.listOf its k) (.tail _ (.head _))).1
    dsimp only at a b
    rw [e, b] at a
    exact tup_notList a
  refine wpAny_execs_cons (l2 (news := (T, tup3 (.str p.1 t1) (.str p.2.1 t2) (.str p.2.2 t3)) :: newsRest h₀ s.heap L D) (its := its) (n := k) hd hu F2 X Tp ?_ (by omega) (fun h' m' _ N' => (N' _ (.head _)).1) ?_ (by omega) fun h3 tk3 TT u1 u2 u3 F3 N3 => ?_)
  · intro x hx
    rcases List.mem_cons.mp hx with rfl | hx
    · exact N2 _ (.tail _ (.head _))
    · rcases List.mem_cons.mp hx with rfl | hx
      · exact N2 _ (.head _)
      · exact N2 _ (.tail _ (.tail _ hx))
  · intro x hx
    rcases List.mem_cons.mp hx with rfl | hx
    · exact hTD
    · exact (newsRest_mem.mp (show (x.1, x.2) ∈ _ from hx)).2.1
  refine wpAny_execs_cons (l3 (T := T) (p := p) (t1 := t1) (t2 := t2) (t3 := t3) hd hu F3 X Tp N3 (by omega) (fun h' m' _ N' => (N' _ (.tail _ (.tail _ (.head _)))).1) c0 c1 (Nat.le_trans (pc_len _ hp) (by decide)) fun h4 tk4 t4 r hr F4 N4 => ?_)
  refine wpAny_execs_nil ?_
  have keep : ∀ b o, b ≠ L → b ≠ D → s.heap.get? b = some o → h4.get? b = some o := of_newsRest F F4 (fun x hx => N4 x (.tail _ (.tail _ (.tail _ hx))))
  have hT4 := (N4 _ (.head _)).1
  refine hQ h4 tk4 _ _ _ _ _ _ _ F4 (N4 _ (.tail _ (.head _))).1 ?_ (B.step hp hr) keep
  show Found h4 [] (its.push (.ref TT)).toList _
  rw [Array.toList_push]
  refine .snoc (hF.keepsTup fun b x y z e => keep b _ (fun q => tup_notFr F (q ▸ e)) (fun q => ?_) e) ⟨u1, u3, .str p.2.2 u2, hT4, _, rfl⟩ (by simp)
  rw [q, hD] at e; exact tup_notList e
end
end Mine
end

section
open PySem PySem.W PyProof.Rows PySem.Calls
set_option Elab.async false
set_option maxRecDepth 100000
set_option maxHeartbeats 1000000
set_option linter.unusedVariables false
namespace Mine
def HereAt (T : Str) (d : Nat) (W : List Nat) (post : List Nat) : Prop := ∃ pre, T.cps.toList = pre ++ W ++ post ∧ pre.length = d
section
variable {T : Str} {d e : Nat} {W W' post : List Nat} {c : Nat}
theorem HereAt.size (H : HereAt T d W post) : T.cps.size = d + W.length + post.length := by
  obtain ⟨pre, e, h⟩ := H
  rw [← Array.length_toList, e, List.length_append, List.length_append, h]
theorem HereAt.get (H : HereAt T d W post) {j : Nat} (hj : j < W.length) : T.cps[d + j]? = W[j]? := by
  obtain ⟨pre, e, h⟩ := H
  rw [← Array.getElem?_toList, e, List.append_assoc, List.getElem?_append_right (by omega), List.getElem?_append_left (by omega)]
  congr 1; omega
theorem HereAt.win (H : HereAt T d W post) : Win d T.cps T.cps.size false W := by
  refine ⟨fun j hj => ?_, by have := H.size; omega, by intro h; cases h⟩
  rw [Array.getD_eq_getD_getElem?, List.getD_eq_getElem?_getD, Nat.add_comm j d, H.get hj]
theorem HereAt.winT (H : HereAt T d W []) : Win d T.cps T.cps.size true W := by
  refine ⟨fun j hj => ?_, by have := H.size; simp at this; omega, fun _ => by have := H.size; simp at this; omega⟩
  rw [Array.getD_eq_getD_getElem?, List.getD_eq_getElem?_getD, Nat.add_comm j d, H.get hj]
theorem HereAt.tail (H : HereAt T d (W ++ W') post) : HereAt T (d + W.length) W' post := by
  obtain ⟨pre, e, h⟩ := H
  exact ⟨pre ++ W, by rw [e]; simp, by rw [List.length_append, h]⟩
theorem HereAt.head (H : HereAt T d (W ++ W') post) : HereAt T d W (W' ++ post) := by
  obtain ⟨pre, e, h⟩ := H
  exact ⟨pre, by rw [e]; simp, h⟩
theorem HereAt.more (H : HereAt T d W (W' ++ post)) : HereAt T d (W ++ W') post := by
  obtain ⟨pre, e, h⟩ := H
  exact ⟨pre, by rw [e]; simp, h⟩
theorem HereAt.cut (H : HereAt T d W post) (he : e ≤ W.length) : (⟨T.cps.extract d (d + e)⟩ : Str) = ⟨(W.take e).toArray⟩ := by
  congr 1
  apply Array.ext'
  rw [Array.toList_extract]
  obtain ⟨pre, h1, h2⟩ := H
  rw [h1, List.extract_eq_drop_take, List.append_assoc]
  subst h2
  rw [List.drop_left, show pre.length + e - pre.length = e by omega, List.take_append_of_le_length he]
theorem HereAt.item (H : HereAt T d W post) {j : Nat} {x : Nat} (hj : W[j]? = some x) : Txt.item T ((d + j : Nat) : Int) = ⟨#[x]⟩ := by
  have hl : j < W.length := by
    obtain ⟨h, _⟩ := List.getElem?_eq_some_iff.mp hj; exact h
  have hs := H.size
  unfold Txt.item Txt.charAt
  have : seqIndex? ((d + j : Nat) : Int) T.length = some (d + j) := by
    unfold seqIndex?
    show (if _ then _ else _) = _
    have : T.length = T.cps.size := rfl
    simp
    omega
  rw [this]
  show (⟨#[((T.cps[d + j]?)).getD 0]⟩ : Str) = _
  rw [H.get hl, hj]; rfl
end
end Mine
end

section
open PySem PySem.W PyProof.Rows PySem.Calls Builtin Builtin.Str StrLaws
set_option Elab.async false
set_option maxRecDepth 100000
set_option maxHeartbeats 1000000
set_option linter.unusedVariables false
namespace Mine
theorem occ_empty (s sub : Str) (hi limit : Nat) : ∀ (l : List Nat) (st : Array Nat × Nat), (∀ i ∈ l, ¬ (i + sub.length ≤ hi ∧ subAt s sub i = true)) → (forIn l st (occBody s sub hi limit)).run.fst = st.fst
  | [], st, _ => rfl
  | a :: l, st, h => by
    rw [List.forIn_cons]
    unfold occBody
    rw [if_neg (fun c => h a (List.mem_cons_self ..) ⟨c.1.2, c.2⟩)]
    exact occ_empty s sub hi limit l _ fun i hi' => h i (List.mem_cons_of_mem _ hi')
theorem occ_full (s sub : Str) (hi limit : Nat) : ∀ (l : List Nat) (st : Array Nat × Nat), limit ≤ st.fst.size → (forIn l st (occBody s sub hi limit)).run.fst = st.fst
  | [], st, _ => rfl
  | a :: l, st, h => by
    rw [List.forIn_cons]
    unfold occBody
    rw [if_neg (fun c => by have := c.1.1.1; omega)]
    exact occ_full s sub hi limit l _ h
theorem occ_from (s sub : Str) (hi : Nat) : ∀ (k lo n free : Nat), free ≤ lo → k < n → (∀ j, j < k → ¬ (lo + j + sub.length ≤ hi ∧ subAt s sub (lo + j) = true)) → lo + k + sub.length ≤ hi → subAt s sub (lo + k) = true →
    (forIn (List.range' lo n) ((#[] : Array Nat), free) (occBody s sub hi 1)).run.fst = #[lo + k]
  | 0, lo, n + 1, free, hf, hn, _, h1, h2 => by
    rw [List.range'_succ, List.forIn_cons]
    unfold occBody
    rw [if_pos ⟨⟨⟨by simp, hf⟩, h1⟩, h2⟩]
    exact occ_full s sub hi 1 _ _ (by simp)
  | k + 1, lo, n + 1, free, hf, hn, h0, h1, h2 => by
    rw [List.range'_succ, List.forIn_cons]
    unfold occBody
    rw [if_neg (fun c => h0 0 (Nat.succ_pos _) ⟨by simpa using c.1.2, by simpa using c.2⟩)]
    have := occ_from s sub hi k (lo + 1) n free (by omega) (by omega) (fun j hj => by
      have := h0 (j + 1) (by omega)
      rw [show lo + (j + 1) = lo + 1 + j by omega] at this
      exact this) (by omega) (by rw [show lo + 1 + k = lo + (k + 1) by omega]; exact h2)
    rw [show lo + 1 + k = lo + (k + 1) by omega] at this
    exact this
  | k, lo, 0, free, hf, hn, _, _, _ => absurd hn (Nat.not_lt_zero _)
theorem noNul_of {S : Str} (h : ∀ c ∈ S.cps.toList, c ≠ 0) : NoNul S := by
  unfold NoNul
  rw [occ_eq, occ_empty]
  · rfl
  · intro i _ ⟨h1, h2⟩
    have := (subAt_one S 0 i).mp ⟨h1, h2⟩
    exact h 0 (List.mem_of_getElem? this) rfl
section
variable {T : Str} {d e : Nat} {W W' post : List Nat} {c : Nat}
theorem HereAt.drop (H : HereAt T d W post) (j : Nat) (hj : j ≤ W.length) : HereAt T (d + j) (W.drop j) post := by
  have : HereAt T d (W.take j ++ W.drop j) post := by rw [List.take_append_drop]; exact H
  have h := this.tail
  rw [List.length_take, Nat.min_eq_left hj] at h
  exact h
theorem subAt_win (H : HereAt T d W post) (j : Nat) (hj : j + 2 ≤ W.length) : subAt T (Str.ofString "*/") (d + j) = ((W.drop j).take 2 == [42, 47]) := by
  have h := (H.drop j (by omega)).cut (e := 2) (by rw [List.length_drop]; omega)
  have h' : T.cps.extract (d + j) (d + j + 2) = ((W.drop j).take 2).toArray := by injection h
  unfold subAt
  show (T.cps.extract (d + j) (d + j + 2) == #[42, 47]) = _
  rw [h']
  generalize (W.drop j).take 2 = l
  rw [Bool.eq_iff_iff]
  simp
theorem find_at (H : HereAt T d W post) (k : Nat) (h2 : 2 + k + 2 ≤ W.length) (hno : ∀ j, j < k → ((W.drop (2 + j)).take 2 == [42, 47]) = false) (hyes : ((W.drop (2 + k)).take 2 == [42, 47]) = true) :
    Txt.find3 T (Str.ofString "*/") ((d : Int) + 2) = ((d + 2 + k : Nat) : Int) := by
  have hs := H.size
  have hl : T.length = T.cps.size := rfl
  unfold Txt.find3
  have hf : fromIndex T.length ((d : Int) + 2) = d + 2 := by unfold fromIndex; rw [if_neg (by omega)]; omega
  rw [hf, occ_eq]
  have hsub : (Str.ofString "*/").length = 2 := by decide
  rw [occ_from T (Str.ofString "*/") T.length k (d + 2) _ (d + 2) (Nat.le_refl _) (by omega) (fun j hj c => by
    have := hno j hj
    rw [← subAt_win H (2 + j) (by omega), show d + (2 + j) = d + 2 + j by omega, c.2] at this
    cases this) (by rw [hsub]; omega) (by rw [show d + 2 + k = d + (2 + k) by omega, subAt_win H (2 + k) (by omega)]; exact hyes)]
theorem find_no (H : HereAt T d W []) (hno : ∀ j, j + 2 ≤ W.length → 2 ≤ j → ((W.drop j).take 2 == [42, 47]) = false) : Txt.find3 T (Str.ofString "*/") ((d : Int) + 2) = -1 := by
  have hs := H.size
  have hl : T.length = T.cps.size := rfl
  unfold Txt.find3
  have hf : fromIndex T.length ((d : Int) + 2) = d + 2 := by unfold fromIndex; rw [if_neg (by omega)]; omega
  have hsub : (Str.ofString "*/").length = 2 := by decide
  rw [hf, occ_eq, occ_empty]
  · intro i hi ⟨h1, h2⟩
    have hlo : d + 2 ≤ i := by
      obtain ⟨j, _, rfl⟩ := List.mem_range'.mp hi
      omega
    simp only [List.length_nil, Nat.add_zero] at hs
    have := hno (i - d) (by rw [hsub] at h1; omega) (by omega)
    rw [← subAt_win H (i - d) (by rw [hsub] at h1; omega), show d + (i - d) = i by omega, h2] at this
    cases this
theorem slice_two {a b : Nat} (H : HereAt T d (a :: b :: W) post) : Txt.slice T (some (d : Int)) (some ((d : Int) + 2)) = ⟨#[a, b]⟩ := by
  have hs := H.size
  simp only [List.length_cons] at hs
  have hi : strSliceIndices (some (d : Int)) (some ((d : Int) + 2)) 1 T.length = [d, d + 1] := by
    have hl : T.length = T.cps.size := rfl
    unfold strSliceIndices sliceRange
    simp only [show (1 : Int) > 0 by decide, if_true]
    rw [if_neg (show ¬ (d : Int) < 0 by omega), if_neg (show ¬ ((d : Int) + 2) < 0 by omega)]
    rw [show max 0 (min (d : Int) (T.length : Int)) = d by omega, show max 0 (min ((d : Int) + 2) (T.length : Int)) = (d : Int) + 2 by omega]
    rw [if_pos (by omega), show ((d : Int) + 2 - d + 1 - 1) / 1 = 2 by omega]
    show [_, _] = _
    simp
  have g0 := H.get (j := 0) (by simp)
  have g1 := H.get (j := 1) (by simp)
  simp only [Nat.add_zero, List.getElem?_cons_zero, List.getElem?_cons_succ] at g0 g1
  unfold Txt.slice
  rw [hi]
  split
  · rename_i hc
    have hlen : T.length = 2 := by simp at hc; omega
    have hl : T.length = T.cps.size := rfl
    have hd0 : d = 0 := by omega
    subst hd0
    have : T.cps = #[a, b] := by
      apply Array.ext_getElem?
      intro i
      match i with
      | 0 => simpa using g0
      | 1 => simpa using g1
      | i + 2 => rw [Array.getElem?_eq_none (by omega), Array.getElem?_eq_none (by simp)]
    cases T with
    | mk c => simp at this; rw [this]
  · simp only [List.filterMap_cons, g0, g1, List.filterMap_nil]
end
end Mine
end

section
open PySem PySem.W PyProof.Rows PySem.Calls
set_option Elab.async false
set_option maxRecDepth 100000
set_option maxHeartbeats 4000000
set_option linter.unusedVariables false
set_option pp.deepTerms false
set_option pp.maxSteps 3000
namespace Mine
structure Pure (S : Str) (ks : List Tk) : Prop where
  ok : tksOk ks = true
  s3 : NoNul (S ++ Str.ofString "'open") ∧ Scan (S ++ Str.ofString "'open") (BadAt (S ++ Str.ofString "'open")) true 0 ks
  s4 : NoNul (S ++ Str.ofString "\"a\nb\"") ∧ Scan (S ++ Str.ofString "\"a\nb\"") (BadAt (S ++ Str.ofString "\"a\nb\"")) true 0 ks
  s5 : NoNul (S ++ Str.ofString "/* open") ∧ Scan (S ++ Str.ofString "/* open") (fun _ => False) false 0 (ks ++ [⟨"EOF", none, (S ++ Str.ofString "/* open").length⟩])
  s6 : NoNul S ∧ Scan S (fun _ => False) false 0 (ks ++ [⟨"EOF", none, S.length⟩])
theorem bodyW_eq : bodyOf nW = [lB 0, lB 1, lB 2, lB 3, lB 4, lB 5, lB 6] := by kernel_rfl
theorem lB3_eq : lB 3 = .If (ifTestOf (lB 3)) (ifBodyOf (lB 3)) [] (posOf (lB 3)) := by kernel_rfl
theorem lB4_eq : lB 4 = .If (ifTestOf (lB 4)) (ifBodyOf (lB 4)) [] (posOf (lB 4)) := by kernel_rfl
theorem lB5_eq : lB 5 = .If (ifTestOf (lB 5)) (ifBodyOf (lB 5)) [] (posOf (lB 5)) := by kernel_rfl
theorem small_range {n : Int} (h1 : 1 ≤ n) (h2 : n ≤ 10) : Builtin.Range.small 0 n 1 = true ∧ Builtin.Range.rangeSize 0 n 1 = n := by
  have : n = 1 ∨ n = 2 ∨ n = 3 ∨ n = 4 ∨ n = 5 ∨ n = 6 ∨ n = 7 ∨ n = 8 ∨ n = 9 ∨ n = 10 := by omega
  rcases this with rfl | rfl | rfl | rfl | rfl | rfl | rfl | rfl | rfl | rfl <;> decide +kernel
theorem tksOk_snoc {ks : List Tk} {k : Nat} (h : tksOk ks = true) : tksOk (ks ++ [⟨"EOF", none, k⟩]) = true := by
  unfold tksOk at h ⊢
  rw [List.all_append, h]
  simp only [List.all_cons, List.all_nil, Bool.and_true, Bool.true_and]
  unfold tkD valD
  simp only [PyData.canLay0, PyData.canLayAll0, Bool.and_true]
  decide +kernel
def LawI (h₀ : Heap) (L sc D I m : Nat) (s : Shared) (j : Nat) (s' : Shared) : Prop := ∃ h' tk' i S ks ts ao co po its k, s' = { s with heap := h', toks := tk' } ∧ i + j = m ∧ IsRangeIter h' I (i : Nat) (j : Nat) 1 ∧ Built i S ks ∧ Fr h₀ L h' (lM sc S ts D ao co po none) ∧ h'.get? D = some (W.listOf its k) ∧ Found h' [] its.toList ks
section
variable {w : World} {dp un : Nat} {gd : Option (List Code)} {s : Shared} {h₀ : Heap} {L : Addr} {cd : Value} {q : Program} {loose : List Str} {mean : ExcName → Option Value} {mg mb : Str → Option Value}
  {sc D I : Addr} {S : Str} {ts : Tok} {ao co po eo : Option Value} {vs : List Value} {ns : List Int} {its : Array Value} {k : Nat} {ks : List Tk}
/-- the law's loop -/
theorem loopW {fr : Option (List Env)} {Q : Flow → Shared → Prop} {E : Value → Shared → Prop} (hd : dp ≤ 360) (hu : un ≤ 30) (X : (KX w.params).In h₀) (Tp : Top q loose mean mg mb h₀) (hl : h₀.IsList sc vs.toArray) (hi : IntsAre vs ns) (hsz : vs.toArray.size = ns.length) (hlen : ns.length ≤ 1000)
    (F : Fr h₀ L s.heap (lM sc (Str.ofString "") ts D none none none none)) (N : News h₀ L s.heap [(D, W.listOf #[] 0)])
    (hQ : ∀ h' tk' n S ks ts ao co po its k, 1 ≤ n → n ≤ 10 → Built n S ks → Fr h₀ L h' (lM sc S ts D ao co po none) → h'.get? D = some (W.listOf its k) → Found h' [] its.toList ks → Q .next { s with heap := h', toks := tk' }) :
    wpAny (model pw w) (ar dp un gd fr) (exec (lB 1) (envOf nW (scopeOf nW) L 259 cd)) Q E s := by
  rw [fW_eq]
  refine wpAny_For ?_
  refine wpAny_mono (f_iter F X Tp N hl hi hsz hlen (Q := fun x s₁ => wpAny (model pw w) (ar dp un gd fr) (pyIter x) (fun it s₂ =>
      codeAny (model pw w) (ar dp un gd fr) (.forLoop (.Name "at" (exprPos (tgtOf (lB 1)))) it [lL 0, lL 1, lL 2, lL 3] [] (envOf nW (scopeOf nW) L 259 cd)) (fun r s' => match r with | .ok f => Q f s' | .error e => cameBackBy (model pw w) (ar dp un gd fr) (envOf nW (scopeOf nW) L 259 cd) E e s') s₂) E s₁) ?_) (fun _ _ z => z) fun _ _ x => x.elim
  intro h1 tk1 r n t u v hr n1 n10 F1 N1
  obtain ⟨hsm, hrs⟩ := small_range n1 n10
  refine wpAny_pyIter_range hr hsm ?_
  rw [hrs]
  obtain ⟨m, rfl⟩ := Int.eq_ofNat_of_zero_le (show 0 ≤ n by omega)
  have FI := F1.push (PySem.Obj.mk (.type "range_iterator") none (.fields #[rawInt 0, rawInt (m : Int), rawInt 1]) #[])
  have NI := News.push F1 N1 (PySem.Obj.mk (.type "range_iterator") none (.fields #[rawInt 0, rawInt (m : Int), rawInt 1]) #[])
  have hI0 := (NI _ (.head _)).2
  have hID : h1.objs.size ≠ D := fun e => by
    have a := (NI _ (.head _)).1
    have b := (NI (D, W.listOf #[] 0) (.tail _ (.head _))).1
    dsimp only at a b
    rw [e, b] at a
    injection a with a; injection a with a; injection a with a; exact absurd a (by decide)
  have hDn := (NI (D, W.listOf #[] 0) (.tail _ (.head _))).2
  refine codeAny_forLoop (LawI h₀ L sc D h1.objs.size m s)
    ?_ m ⟨_, _, 0, _, _, _, _, _, _, _, _, rfl, by omega, (NI _ (.head _)).1, .zero, FI, (NI _ (.tail _ (.head _))).1, .nil⟩
  rintro j s' ⟨h', tk', i, S, ks, ts, ao, co, po, its, k, rfl, hij, hit, B, F', hD, hF⟩
  cases j with
  | zero =>
    refine wpAny_pyNext_range_end rfl hit (by simp) fun h2 ext => wpAny_execs_nil ?_
    have hi : i = m := by omega
    subst hi
    have F2 : Fr h₀ L h2 (lM sc S ts D ao co po none) := Fr.across F' hI0.1 hI0.2 ext
    refine hQ h2 _ i S ks ts ao co po its k (by omega) (by omega) B F2 (ext _ _ (Ne.symm hID) hD) (hF.keepsTup fun b x y z e => ext b _ (fun q => ?_) e)
    rw [q, hit] at e
    injection e with e; injection e with e; injection e with e; exact absurd e (by decide)
  | succ j =>
    refine wpAny_pyNext_range_item hit (by omega) fun h2 hit2 same => ?_
    have ext : ∀ b o, b ≠ h1.objs.size → h'.get? b = some o → h2.get? b = some o := fun b o hb e => same.extBut b o hb e
    have F2 : Fr h₀ L h2 (lM sc S ts D ao co po none) := Fr.across F' hI0.1 hI0.2 ext
    have hD2 := ext _ _ (Ne.symm hID) hD
    have hF2 : Found h2 [] its.toList ks := hF.keepsTup fun b x y z e => ext b _ (fun q => by
      rw [q, hit] at e
      injection e with e; injection e with e; injection e with e; exact absurd e (by decide)) e
    refine wpAny_mono (at_store F2 (newsAll_news (h₀ := h₀) (h := h2) (L := L)) (Q := fun _ s₂ => wpAny (model pw w) (ar dp un gd fr) (execs [lL 0, lL 1, lL 2, lL 3] (envOf nW (scopeOf nW) L 259 cd)) _ _ s₂) fun h3 tk3 F3 N3 => ?_) (fun _ _ z => z) fun _ _ x => x.elim
    have k3 := of_newsAll (more := []) F2 F3 N3
    have nL : ∀ b o, h2.get? b = some o → (∀ es ep, o.data ≠ .dict es ep) → b ≠ L := fun b o e hn z => by
      obtain ⟨oL, es, ep, hL, hd, _⟩ := F2.ns
      rw [z, hL] at e; cases e; exact hn _ _ hd
    have hD3 := k3 D _ hDn.1 hD2
    have hF3 : Found h3 [] its.toList ks := hF2.keepsTup fun b x y z e => k3 b _ (fun q => tup_notFr F2 (q ▸ e)) e
    refine wpAny_mono (turnW hd hu X Tp hl hi hsz hlen F3 hD3 hDn hF3 B (by omega) (Q := fun f s₃ => f = .next ∧ ∃ m', m' < j + 1 ∧ LawI h₀ L sc D h1.objs.size m s m' s₃) fun h4 tk4 S' ks' ts' co' po' its' k' F4 hD4 hF4 B4 keep => ⟨rfl, j, Nat.lt_succ_self j, h4, tk4, i + 1, S', ks', ts', _, co', po', its', k', rfl, by omega, ?_, B4, F4, hD4, hF4⟩) (fun f s₃ z => by
        obtain ⟨rfl, z⟩ := z
        exact z) fun _ _ x => x.elim
    have e4 := keep _ _ hI0.1 hID (k3 _ _ hI0.1 hit2)
    have e1 : ((i : Nat) : Int) + 1 = ((i + 1 : Nat) : Int) := by omega
    have e2 : ((j + 1 : Nat) : Int) - 1 = ((j : Nat) : Int) := by omega
    show h4.get? _ = _
    rw [← e1, ← e2]
    exact e4
end
end Mine
end

section
open PySem PySem.W PyProof.Rows PySem.Calls
set_option Elab.async false
set_option maxRecDepth 100000
set_option maxHeartbeats 4000000
set_option linter.unusedVariables false
set_option pp.deepTerms false
set_option pp.maxSteps 3000
namespace Mine
section
variable {w : World} {dp un : Nat} {gd : Option (List Code)} {s : Shared} {q : Program} {loose : List Str} {mean : ExcName → Option Value} {mg mb : Str → Option Value}
  {sc : Addr} {vs : List Value} {ns : List Int}
theorem law_call {Q E : Value → Shared → Prop} (hd : dp ≤ 350) (hu : un ≤ 20) (X : (KX w.params).In s.heap) (Tp : Top q loose mean mg mb s.heap) (hl : s.heap.IsList sc vs.toArray) (hi : IntsAre vs ns) (hsz : vs.toArray.size = ns.length) (hlen : ns.length ≤ 1000)
    (hpure : ∀ n S ks, Built n S ks → 1 ≤ n → n ≤ 10 → Pure S ks)
    (hQ : ∀ h' tk', (∀ b o, s.heap.get? b = some o → h'.get? b = some o) → Q (.bool true) { s with heap := h', toks := tk', gens := s.gens.push .finished }) :
    wpAny (model pw w) (ar dp un gd (some [])) (call (.ref 259) [.ref sc]) Q E s := by
  obtain ⟨o, pm, cd, doc, h1, h2, h3⟩ := (def_259 X).at_
  refine wpAny_call (call_pos_ret (Nat.lt_of_le_of_lt hd (by decide)) h1 h2 Tp.nolimit h3 rfl (locs rfl) (fun h₁ F => ?_) rfl rfl rfl (by decide))
  rw [bodyW_eq]
  show wpAny (model pw w) (ar (dp + 1) (un + 3) gd (some [envOf nW (scopeOf nW) s.heap.objs.size 259 cd])) _ _ _ _
  refine wpAny_execs_cons (e0 F X Tp News.nil fun h2 tk2 D t F2 N2 => ?_)
  refine wpAny_execs_cons (loopW (by omega) (by omega) X Tp hl hi hsz hlen (fr_eq F2 lM_start) N2 fun h3 tk3 n S ks ts ao co po its k n1 n10 B F3 hD hF => ?_)
  have P := hpure n S ks B n1 n10
  obtain ⟨bl, bk⟩ := built_len B
  have due : DueAt h3 D ks := ⟨its, k, hD, hF⟩
  refine wpAny_execs_cons (e2 (by omega) F3 X Tp (newsAll_news (h₀ := s.heap) (h := h3) (L := s.heap.objs.size)) hl hi hsz hlen fun h4 tk4 e et F4 N4 => ?_)
  have due4 : Here s.heap s.heap.objs.size (newsAll s.heap h4 s.heap.objs.size) (DueAt · D ks) := fun h' m' F' N' => (due.move F3 (of_newsAll (more := []) F3 F4 N4)).move F4 (of_newsAll (more := []) F4 F' N')
  have N5 : News s.heap s.heap.objs.size h4 (newsAll s.heap h4 s.heap.objs.size) := newsAll_news
  have hS : S.cps.size ≤ 200 := by have : S.length = S.cps.size := rfl; omega
  have len_of : ∀ a b : Str, (a ++ b).cps.size = a.cps.size + b.cps.size := fun a b => str_len a b
  have q3 : (S ++ Str.ofString "'open").cps.size ≤ 100000 := by
    rw [len_of]
    have : (Str.ofString "'open").cps.size = 5 := by decide
    omega
  have q4 : (S ++ Str.ofString "\"a\nb\"").cps.size ≤ 100000 := by
    rw [len_of]
    have : (Str.ofString "\"a\nb\"").cps.size = 5 := by decide
    omega
  have q5 : (S ++ Str.ofString "/* open").cps.size = S.cps.size + 7 := by
    rw [len_of]
    have : (Str.ofString "/* open").cps.size = 7 := by decide
    omega
  have q5' : (S ++ Str.ofString "/* open").length ≤ 2000 := by
    show (S ++ Str.ofString "/* open").cps.size ≤ 2000
    omega
  have T3 : Told w s.heap s.heap.objs.size cd (S ++ Str.ofString "'open") ks true := Told.bad X Tp q3 P.s3.1 P.s3.2 (by omega)
  have T4 : Told w s.heap s.heap.objs.size cd (S ++ Str.ofString "\"a\nb\"") ks true := Told.bad X Tp q4 P.s4.1 P.s4.2 (by omega)
  have T5 : Told w s.heap s.heap.objs.size cd (S ++ Str.ofString "/* open") (ks ++ [⟨"EOF", none, (S ++ Str.ofString "/* open").length⟩]) false := Told.ok X Tp (by omega) P.s5.1 P.s5.2 (by rw [List.length_append]; simp; omega)
  have T6 : Told w s.heap s.heap.objs.size cd S (ks ++ [⟨"EOF", none, S.length⟩]) false := Told.ok X Tp (by omega) P.s6.1 P.s6.2 (by rw [List.length_append]; simp; omega)
  rw [lB3_eq, lB4_eq, lB5_eq]
  refine wpAny_execs_cons (wpAny_If (if_test (.inl ⟨rfl, rfl⟩) F4 X Tp N5 fun tk5 => ?_))
  by_cases c3 : e = 3
  · rw [decide_eq_true c3, if_pos rfl]
    exact r3 (by omega) (by omega) F4 X Tp N5 (by omega) P.ok T3 due4 fun h' tk' m' F' => hQ h' tk' F'.keep
  rw [decide_eq_false c3, if_neg Bool.false_ne_true]
  refine wpAny_execs_nil (wpAny_execs_cons (wpAny_If (if_test (.inr (.inl ⟨rfl, rfl⟩)) F4 X Tp N5 fun tk6 => ?_)))
  by_cases c4 : e = 4
  · rw [decide_eq_true c4, if_pos rfl]
    exact r4 (by omega) (by omega) F4 X Tp N5 (by omega) P.ok T4 due4 fun h' tk' m' F' => hQ h' tk' F'.keep
  rw [decide_eq_false c4, if_neg Bool.false_ne_true]
  refine wpAny_execs_nil (wpAny_execs_cons (wpAny_If (if_test (.inr (.inr ⟨rfl, rfl⟩)) F4 X Tp N5 fun tk7 => ?_)))
  by_cases c5 : e = 5
  · rw [decide_eq_true c5, if_pos rfl]
    refine r5 F4 X Tp N5 (by omega) fun h5 tk8 t8 F5 N8 => ?_
    refine wpAny_execs_cons (r6 (by omega) (by omega) F5 X Tp N8 q5' (tksOk_snoc P.ok) (by omega) T5 due4 fun h' tk' m' F' => hQ h' tk' F'.keep)
  rw [decide_eq_false c5, if_neg Bool.false_ne_true]
  refine wpAny_execs_nil (wpAny_execs_cons (r6 (by omega) (by omega) F4 X Tp N5 (by omega) (tksOk_snoc P.ok) (by omega) T6 due4 fun h' tk' m' F' => hQ h' tk' F'.keep))
end
end Mine
end

section
open PySem PySem.W PyProof.Rows PySem.Calls PySem.Builtin.Re
set_option Elab.async false
set_option maxRecDepth 100000
set_option maxHeartbeats 4000000
namespace Mine
theorem unesc_0 : Unesc "a" "a" := ⟨_, _, _, (.miss (by decide +kernel) (by decide +kernel) .stop), (by decide +kernel : _ = ("a" : Str)), (.plain (by decide +kernel) (by decide +kernel) .stop), by decide +kernel, by decide +kernel, by decide +kernel, ⟨by decide +kernel, by decide +kernel⟩, by decide +kernel, by decide +kernel⟩
theorem unesc_1 : Unesc "b-C" "b-C" := ⟨_, _, _, (.miss (by decide +kernel) (by decide +kernel) (.miss (by decide +kernel) (by decide +kernel) (.miss (by decide +kernel) (by decide +kernel) .stop))), (by decide +kernel : _ = ("b-C" : Str)), (.plain (by decide +kernel) (by decide +kernel) (.plain (by decide +kernel) (by decide +kernel) (.plain (by decide +kernel) (by decide +kernel) .stop))), by decide +kernel, by decide +kernel, by decide +kernel, ⟨by decide +kernel, by decide +kernel⟩, by decide +kernel, by decide +kernel⟩
theorem unesc_2 : Unesc "-x_1" "-x_1" := ⟨_, _, _, (.miss (by decide +kernel) (by decide +kernel) (.miss (by decide +kernel) (by decide +kernel) (.miss (by decide +kernel) (by decide +kernel) (.miss (by decide +kernel) (by decide +kernel) .stop)))), (by decide +kernel : _ = ("-x_1" : Str)), (.plain (by decide +kernel) (by decide +kernel) (.plain (by decide +kernel) (by decide +kernel) (.plain (by decide +kernel) (by decide +kernel) (.plain (by decide +kernel) (by decide +kernel) .stop)))), by decide +kernel, by decide +kernel, by decide +kernel, ⟨by decide +kernel, by decide +kernel⟩, by decide +kernel, by decide +kernel⟩
theorem unesc_3 : Unesc "éa" "éa" := ⟨_, _, _, (.miss (by decide +kernel) (by decide +kernel) (.miss (by decide +kernel) (by decide +kernel) .stop)), (by decide +kernel : _ = ("éa" : Str)), (.plain (by decide +kernel) (by decide +kernel) (.plain (by decide +kernel) (by decide +kernel) .stop)), by decide +kernel, by decide +kernel, by decide +kernel, ⟨by decide +kernel, by decide +kernel⟩, by decide +kernel, by decide +kernel⟩
theorem unesc_4 : Unesc "\\+d" "+d" := ⟨_, _, _, (.miss (by decide +kernel) (by decide +kernel) (.miss (by decide +kernel) (by decide +kernel) (.miss (by decide +kernel) (by decide +kernel) .stop))), (by decide +kernel : _ = ("\\+d" : Str)), (.esc (by decide +kernel) (by decide +kernel) (by decide +kernel) (.plain (by decide +kernel) (by decide +kernel) .stop)), by decide +kernel, by decide +kernel, by decide +kernel, ⟨by decide +kernel, by decide +kernel⟩, by decide +kernel, by decide +kernel⟩
theorem unesc_5 : Unesc "e\\41 f" "eAf" := ⟨_, _, _, (.miss (by decide +kernel) (by decide +kernel) (.hit rfl (.miss (by decide +kernel) (by decide +kernel) .stop))), (by decide +kernel : _ = ("eAf" : Str)), (.plain (by decide +kernel) (by decide +kernel) (.plain (by decide +kernel) (by decide +kernel) (.plain (by decide +kernel) (by decide +kernel) .stop))), by decide +kernel, by decide +kernel, by decide +kernel, ⟨by decide +kernel, by decide +kernel⟩, by decide +kernel, by decide +kernel⟩
theorem unesc_6 : Unesc "a-1" "a-1" := ⟨_, _, _, (.miss (by decide +kernel) (by decide +kernel) (.miss (by decide +kernel) (by decide +kernel) (.miss (by decide +kernel) (by decide +kernel) .stop))), (by decide +kernel : _ = ("a-1" : Str)), (.plain (by decide +kernel) (by decide +kernel) (.plain (by decide +kernel) (by decide +kernel) (.plain (by decide +kernel) (by decide +kernel) .stop))), by decide +kernel, by decide +kernel, by decide +kernel, ⟨by decide +kernel, by decide +kernel⟩, by decide +kernel, by decide +kernel⟩
theorem unesc_7 : Unesc "0" "0" := ⟨_, _, _, (.miss (by decide +kernel) (by decide +kernel) .stop), (by decide +kernel : _ = ("0" : Str)), (.plain (by decide +kernel) (by decide +kernel) .stop), by decide +kernel, by decide +kernel, by decide +kernel, ⟨by decide +kernel, by decide +kernel⟩, by decide +kernel, by decide +kernel⟩
theorem unesc_8 : Unesc "t u" "t u" := ⟨_, _, _, (.miss (by decide +kernel) (by decide +kernel) (.miss (by decide +kernel) (by decide +kernel) (.miss (by decide +kernel) (by decide +kernel) .stop))), (by decide +kernel : _ = ("t u" : Str)), (.plain (by decide +kernel) (by decide +kernel) (.plain (by decide +kernel) (by decide +kernel) (.plain (by decide +kernel) (by decide +kernel) .stop))), by decide +kernel, by decide +kernel, by decide +kernel, ⟨by decide +kernel, by decide +kernel⟩, by decide +kernel, by decide +kernel⟩
theorem unesc_9 : Unesc "v'" "v'" := ⟨_, _, _, (.miss (by decide +kernel) (by decide +kernel) (.miss (by decide +kernel) (by decide +kernel) .stop)), (by decide +kernel : _ = ("v'" : Str)), (.plain (by decide +kernel) (by decide +kernel) (.plain (by decide +kernel) (by decide +kernel) .stop)), by decide +kernel, by decide +kernel, by decide +kernel, ⟨by decide +kernel, by decide +kernel⟩, by decide +kernel, by decide +kernel⟩
theorem unesc_10 : Unesc "" "" := ⟨_, _, _, .stop, (by decide +kernel : _ = ("" : Str)), .stop, by decide +kernel, by decide +kernel, by decide +kernel, ⟨by decide +kernel, by decide +kernel⟩, by decide +kernel, by decide +kernel⟩
theorem unesc_11 : Unesc "wx" "wx" := ⟨_, _, _, (.miss (by decide +kernel) (by decide +kernel) (.miss (by decide +kernel) (by decide +kernel) .stop)), (by decide +kernel : _ = ("wx" : Str)), (.plain (by decide +kernel) (by decide +kernel) (.plain (by decide +kernel) (by decide +kernel) .stop)), by decide +kernel, by decide +kernel, by decide +kernel, ⟨by decide +kernel, by decide +kernel⟩, by decide +kernel, by decide +kernel⟩
end Mine
end

section
open PySem PySem.W PyProof.Rows PySem.Calls
set_option Elab.async false
set_option maxRecDepth 100000
set_option maxHeartbeats 1000000
set_option linter.unusedVariables false
namespace Mine
section
variable {T : Str} {d e d' : Nat} {W W' post : List Nat} {c : Nat} {r V V1 : Str}
theorem HereAt.lt (H : HereAt T d W post) (h : 0 < W.length) : d < T.length := by
  have := H.size
  show d < T.cps.size
  omega
theorem HereAt.item0 {x : Nat} (H : HereAt T d W post) (hj : W[0]? = some x) : Txt.item T (d : Int) = ⟨#[x]⟩ := H.item (j := 0) hj
theorem ev_ws (H : HereAt T d W post) (h0 : 0 < W.length) (l1 : look false cWs 0 W = some (some e)) (hd : d' = d + e) : Ev T d d' (some ⟨"S", some " ", d⟩) := hd ▸ .ws (H.lt h0) H.win l1
theorem ev_id (H : HereAt T d W post) (h0 : 0 < W.length) (l1 : look false cWs 0 W = some none) (l2 : look false cId 2 W = some (some e)) (he : e ≤ 1000 ∧ e ≤ W.length) (hV : (⟨(W.take e).toArray⟩ : Str) = V) (U : Unesc V r) (hd : d' = d + e) : Ev T d d' (some ⟨"IDENT", some r, d⟩) :=
  hd ▸ .id (H.lt h0) H.win l1 l2 he.1 (by rw [H.cut he.2, hV]; exact U)
theorem ev_hash (H : HereAt T d W post) (h0 : 0 < W.length) (l1 : look false cWs 0 W = some none) (l2 : look false cId 2 W = some none) (l3 : look false cHash 1 W = some (some e)) (he : e ≤ 1000 ∧ e ≤ W.length) (hV : Txt.slice (⟨(W.take e).toArray⟩ : Str) (some 1) none = V) (U : Unesc V r) (hd : d' = d + e) : Ev T d d' (some ⟨"HASH", some r, d⟩) :=
  hd ▸ .hash (H.lt h0) H.win l1 l2 l3 he.1 (by
    rw [H.cut he.2]
    show (W.take e).toArray.size ≤ sizeLine
    rw [List.size_toArray, List.length_take]
    unfold sizeLine; omega) (by rw [H.cut he.2, hV]; exact U)
theorem ev_num {x : Nat} (H : HereAt T d W post) (h0 : W[0]? = some x) (l1 : look false cWs 0 W = some none) (l2 : look false cId 2 W = some none) (l3 : look false cHash 1 W = some none) (l4 : look false cNum 0 W = some (some e)) (hx : (valueAt qD (⟨#[x]⟩ : Str)).isSome = false) (he : e ≤ 1000 ∧ e ≤ W.length)
    (hV : (⟨(W.take e).toArray⟩ : Str) = r) (hd : d' = d + e) : Ev T d d' (some ⟨"NUMBER", some r, d⟩) :=
  hd ▸ .num (H.lt (List.getElem?_eq_some_iff.mp h0).1) H.win l1 l2 l3 l4 (by rw [H.item0 h0]; exact hx) he.1 (by rw [H.cut he.2, hV])
theorem ev_delim {x y : Nat} (H : HereAt T d [x, y] post) (l1 : look false cWs 0 [x, y] = some none) (l2 : look false cId 2 [x, y] = some none) (l3 : look false cHash 1 [x, y] = some none) (l4 : look false cNum 0 [x, y] = some none) (hx : (valueAt qD (⟨#[x]⟩ : Str)).isSome = false) (hV : (⟨#[x]⟩ : Str) = V)
    (hs : ((⟨#[x, y]⟩ : Str) == Str.ofString "/*") = false) (hd : d' = d + 1) : Ev T d d' (some ⟨"DELIM", some V, d⟩) :=
  hd ▸ .delim (H.lt (by simp)) H.win l1 l2 l3 l4 ((H.item0 rfl).trans hV) (hV ▸ hx) (by rw [slice_two H]; exact hs)
theorem ev_str {x ad : Nat} {code : Array Nat} (H : HereAt T d W post) (h0 : W[0]? = some x) (l1 : look false cWs 0 W = some none) (l2 : look false cId 2 W = some none) (l3 : look false cHash 1 W = some none) (hW : W.drop 1 = W') (Pt : ∀ {P : Params} {h : Heap}, (KX P).In h → IsPat h ad code 2) (ls : look false code 2 W' = some (some e))
    (hv : valueAt qD (⟨#[x]⟩ : Str) = some (.ref ad)) (he : 1 + e < W.length) (hc : W[1 + e]? = some x) (hZ : (⟨(W'.take e).toArray⟩ : Str) = V) (hS : SubOk V V1) (U : Unesc V1 r) (hd : d' = d + 1 + e + 1) : Ev T d d' (some ⟨"STRING", some r, d⟩) := by
  have hl := H.size
  have H1 : HereAt T (d + 1) W' post := by rw [← hW]; exact H.drop 1 (by omega)
  have hW' : W'.length = W.length - 1 := by rw [← hW, List.length_drop]
  have hlen : T.length = T.cps.size := rfl
  subst hd
  refine .str (H.lt (by omega)) H.win l1 l2 l3 H1.win Pt ls (H.item0 h0) hv (by omega) ?_ (by rw [H1.cut (by omega), hZ]; exact hS) U
  rw [show d + 1 + e = d + (1 + e) by omega, H.item hc]; simp
theorem ev_rem (H : HereAt T d W post) (hW : W = 47 :: 42 :: W') (hf : Txt.find3 T (Str.ofString "*/") ((d : Int) + 2) = -1 ∧ d' = T.length ∨ ∃ k : Nat, k ≤ T.length ∧ Txt.find3 T (Str.ofString "*/") ((d : Int) + 2) = k ∧ d' = k + 2) : Ev T d d' none := by
  subst hW
  have H2 : HereAt T d [47, 42] (W' ++ post) := HereAt.head (W := [47, 42]) H
  exact .rem (H.lt (by simp)) H2.win rm_ws rm_id rm_ha rm_nu (by rw [H2.item0 rfl]; decide) (by rw [slice_two H2]; decide) hf
end
theorem rem_ev {T : Str} {d : Nat} {post : List Nat} {r : Str} (hr : r ∈ REMARKS) (H : HereAt T d r.cps.toList post) : Ev T d (d + r.length) none := by
  simp only [REMARKS, List.mem_cons, List.not_mem_nil, or_false] at hr
  have hs := H.size
  have hl : T.length = T.cps.size := rfl
  rcases hr with rfl | rfl | rfl
  · exact ev_rem H (W' := [42, 47]) rfl (.inr ⟨d + 2 + 0, by rw [hl, hs]; exact Nat.le_trans (by omega) (Nat.le_add_right (d + 4) _), find_at H 0 (by decide) (fun j hj => absurd hj (Nat.not_lt_zero _)) (by decide), rfl⟩)
  · exact ev_rem H (W' := [32, 97, 32, 39, 98, 32, 42, 47]) rfl (.inr ⟨d + 2 + 6, by rw [hl, hs]; exact Nat.le_trans (by omega) (Nat.le_add_right (d + 10) _), find_at H 6 (by decide) (by decide) (by decide), rfl⟩)
  · exact ev_rem H (W' := [10, 42, 47]) rfl (.inr ⟨d + 2 + 1, by rw [hl, hs]; exact Nat.le_trans (by omega) (Nat.le_add_right (d + 5) _), find_at H 1 (by decide) (by decide) (by decide), rfl⟩)
end Mine
end

section
open PySem PySem.W PyProof.Rows PySem.Calls
set_option Elab.async false
set_option maxRecDepth 100000
set_option maxHeartbeats 1000000
set_option linter.unusedVariables false
namespace Mine
theorem piece_ev {T : Str} {d : Nat} {post : List Nat} {p : Str × Str × Str} (hp : p ∈ PIECES) (H : HereAt T d (p.1.cps.toList ++ [47]) post) : Ev T d (d + p.1.length) (some ⟨p.2.1, some p.2.2, d⟩) := by
  simp only [PIECES, List.mem_cons, List.not_mem_nil, or_false] at hp
  rcases hp with rfl | rfl | rfl | rfl | rfl | rfl | rfl | rfl | rfl | rfl | rfl | rfl | rfl | rfl | rfl | rfl | rfl | rfl | rfl | rfl | rfl | rfl | rfl | rfl | rfl | rfl | rfl
  · exact ev_ws (show HereAt T d [32, 47] post from H) (by decide) p0_ws rfl
  · exact ev_ws (show HereAt T d [9, 32, 10, 47] post from H) (by decide) p1_ws rfl
  · exact ev_id (show HereAt T d [97, 47] post from H) (by decide) p2_ws p2_id (by decide) (by decide) unesc_0 rfl
  · exact ev_id (show HereAt T d [98, 45, 67, 47] post from H) (by decide) p3_ws p3_id (by decide) (by decide) unesc_1 rfl
  · exact ev_id (show HereAt T d [45, 120, 95, 49, 47] post from H) (by decide) p4_ws p4_id (by decide) (by decide) unesc_2 rfl
  · exact ev_id (show HereAt T d [233, 97, 47] post from H) (by decide) p5_ws p5_id (by decide) (by decide) unesc_3 rfl
  · exact ev_id (show HereAt T d [92, 43, 100, 47] post from H) (by decide) p6_ws p6_id (by decide) (by decide) unesc_4 rfl
  · exact ev_id (show HereAt T d [101, 92, 52, 49, 32, 102, 47] post from H) (by decide) p7_ws p7_id (by decide) (by decide) unesc_5 rfl
  · exact ev_hash (show HereAt T d [35, 97, 45, 49, 47] post from H) (by decide) p8_ws p8_id p8_ha (by decide) (by decide +kernel) unesc_6 rfl
  · exact ev_hash (show HereAt T d [35, 48, 47] post from H) (by decide) p9_ws p9_id p9_ha (by decide) (by decide +kernel) unesc_7 rfl
  · exact ev_str (show HereAt T d [39, 116, 32, 117, 39, 47] post from H) rfl p10_ws p10_id p10_ha rfl (fun X => pat_43 X) p10_st rfl (by decide) rfl (by decide) sub_0 unesc_8 rfl
  · exact ev_str (show HereAt T d [34, 118, 39, 34, 47] post from H) rfl p11_ws p11_id p11_ha rfl (fun X => pat_48 X) p11_st rfl (by decide) rfl (by decide) sub_1 unesc_9 rfl
  · exact ev_str (show HereAt T d [39, 39, 47] post from H) rfl p12_ws p12_id p12_ha rfl (fun X => pat_43 X) p12_st rfl (by decide) rfl (by decide) sub_2 unesc_10 rfl
  · exact ev_str (show HereAt T d [39, 119, 92, 10, 120, 39, 47] post from H) rfl p13_ws p13_id p13_ha rfl (fun X => pat_43 X) p13_st rfl (by decide) rfl (by decide) sub_3 unesc_11 rfl
  · exact ev_num (show HereAt T d [55, 47] post from H) rfl p14_ws p14_id p14_ha p14_nu (by decide) (by decide) (by decide) rfl
  · exact ev_num (show HereAt T d [43, 49, 50, 47] post from H) rfl p15_ws p15_id p15_ha p15_nu (by decide) (by decide) (by decide) rfl
  · exact ev_num (show HereAt T d [45, 46, 53, 47] post from H) rfl p16_ws p16_id p16_ha p16_nu (by decide) (by decide) (by decide) rfl
  · exact ev_num (show HereAt T d [51, 46, 50, 53, 47] post from H) rfl p17_ws p17_id p17_ha p17_nu (by decide) (by decide) (by decide) rfl
  · exact ev_delim (show HereAt T d [46, 47] post from H) p18_ws p18_id p18_ha p18_nu (by decide) (by decide) (by decide) rfl
  · exact ev_delim (show HereAt T d [62, 47] post from H) p19_ws p19_id p19_ha p19_nu (by decide) (by decide) (by decide) rfl
  · exact ev_delim (show HereAt T d [43, 47] post from H) p20_ws p20_id p20_ha p20_nu (by decide) (by decide) (by decide) rfl
  · exact ev_delim (show HereAt T d [42, 47] post from H) p21_ws p21_id p21_ha p21_nu (by decide) (by decide) (by decide) rfl
  · exact ev_delim (show HereAt T d [40, 47] post from H) p22_ws p22_id p22_ha p22_nu (by decide) (by decide) (by decide) rfl
  · exact ev_delim (show HereAt T d [93, 47] post from H) p23_ws p23_id p23_ha p23_nu (by decide) (by decide) (by decide) rfl
  · exact ev_delim (show HereAt T d [35, 47] post from H) p24_ws p24_id p24_ha p24_nu (by decide) (by decide) (by decide) rfl
  · exact ev_delim (show HereAt T d [58, 47] post from H) p25_ws p25_id p25_ha p25_nu (by decide) (by decide) (by decide) rfl
  · exact ev_delim (show HereAt T d [124, 47] post from H) p26_ws p26_id p26_ha p26_nu (by decide) (by decide) (by decide) rfl
end Mine
end

section
open PySem PySem.W PyProof.Rows PySem.Calls
set_option Elab.async false
set_option maxRecDepth 100000
set_option maxHeartbeats 1000000
set_option linter.unusedVariables false
namespace Mine
theorem cat_list (a b : Str) : (a ++ b).cps.toList = a.cps.toList ++ b.cps.toList := by
  show (a.cps ++ b.cps).toList = _
  rw [Array.toList_append]
theorem len_list (a : Str) : a.cps.toList.length = a.length := Array.length_toList
theorem rem_slash : ∀ r ∈ REMARKS, r.cps.toList = 47 :: r.cps.toList.drop 1 := by decide
theorem scan_built {i : Nat} {S : Str} {ks : List Tk} (B : Built i S ks) : ∀ {T : Str} {U : List Nat} {bad : Nat → Prop} {b : Bool} {rest : List Tk}, T.cps.toList = S.cps.toList ++ U → Scan T bad b S.length rest → Scan T bad b 0 (ks ++ rest) := by
  induction B with
  | zero => intro T U bad b rest _ Z; exact Z
  | @step i S ks p r B hp hr ih =>
    intro T U bad b rest hT Z
    have e : T.cps.toList = S.cps.toList ++ (p.1.cps.toList ++ r.cps.toList ++ U) := by rw [hT, cat_list, cat_list]; simp
    have H : HereAt T S.length (p.1.cps.toList ++ r.cps.toList) U := ⟨S.cps.toList, by rw [e]; simp, len_list S⟩
    have H2 := H.tail
    rw [len_list] at H2
    have Hp : HereAt T S.length (p.1.cps.toList ++ [47]) (r.cps.toList.drop 1 ++ U) := by
      refine ⟨S.cps.toList, ?_, len_list S⟩
      rw [e, rem_slash r hr]
      simp
    have Z1 : Scan T bad b (S.length + p.1.length) rest := .skip (rem_ev hr H2) (by rw [str_len, str_len] at Z; exact Z)
    have := ih e (.step (piece_ev hp Hp) Z1)
    rw [List.append_assoc]
    exact this
theorem pc_nul : ∀ p ∈ PIECES, ∀ c ∈ p.1.cps.toList, c ≠ 0 := by decide
theorem rem_nul : ∀ r ∈ REMARKS, ∀ c ∈ r.cps.toList, c ≠ 0 := by decide
theorem built_nul {i : Nat} {S : Str} {ks : List Tk} (B : Built i S ks) : ∀ c ∈ S.cps.toList, c ≠ 0 := by
  induction B with
  | zero => intro c hc; cases hc
  | step B hp hr ih =>
    intro c hc
    rw [cat_list, cat_list] at hc
    rcases List.mem_append.mp hc with hc | hc
    · rcases List.mem_append.mp hc with hc | hc
      · exact ih c hc
      · exact pc_nul _ hp c hc
    · exact rem_nul _ hr c hc
theorem pc_ok : ∀ p ∈ PIECES, PyData.strOk p.2.1 = true ∧ PyData.strOk p.2.2 = true := by decide +kernel
theorem built_ok {i : Nat} {S : Str} {ks : List Tk} (B : Built i S ks) : tksOk ks = true := by
  induction B with
  | zero => rfl
  | step B hp hr ih =>
    unfold tksOk at ih ⊢
    rw [List.all_append, ih]
    obtain ⟨h1, h2⟩ := pc_ok _ hp
    simp [tkD, valD, PyData.canLay0, PyData.canLayAll0, h1, h2]
theorem nul_cat {S Z : Str} (h : ∀ c ∈ S.cps.toList, c ≠ 0) (hz : ∀ c ∈ Z.cps.toList, c ≠ 0) : NoNul (S ++ Z) := noNul_of fun c hc => by
  rw [cat_list] at hc
  rcases List.mem_append.mp hc with hc | hc
  · exact h c hc
  · exact hz c hc
theorem here_end (S Z : Str) : HereAt (S ++ Z) S.length Z.cps.toList [] := ⟨S.cps.toList, by rw [cat_list]; simp, len_list S⟩
theorem bad3 (S : Str) : BadAt (S ++ Str.ofString "'open") S.length := by
  have H : HereAt (S ++ Str.ofString "'open") S.length [39, 111, 112, 101, 110] [] := here_end S _
  have H1 : HereAt (S ++ Str.ofString "'open") (S.length + 1) [111, 112, 101, 110] [] := H.drop 1 (by decide)
  refine .unclosed (ad := 43) (e := 4) (H.lt (by decide)) H.winT e3_ws e3_id e3_ha H1.winT (fun X => pat_43 X) e3_st (H.item0 rfl) rfl ?_
  have := H.size
  show _ = (S ++ Str.ofString "'open").cps.size
  rw [this]; rfl
theorem bad4 (S : Str) : BadAt (S ++ Str.ofString "\"a\nb\"") S.length := by
  have H : HereAt (S ++ Str.ofString "\"a\nb\"") S.length [34, 97, 10, 98, 34] [] := here_end S _
  have H1 : HereAt (S ++ Str.ofString "\"a\nb\"") (S.length + 1) [97, 10, 98, 34] [] := H.drop 1 (by decide)
  refine .newline (ad := 48) (e := 1) (H.lt (by decide)) H.winT e4_ws e4_id e4_ha H1.winT (fun X => pat_48 X) e4_st (H.item0 rfl) rfl ?_ ?_
  · have := H.size
    show _ < (S ++ Str.ofString "\"a\nb\"").cps.size
    rw [this]
    simp only [List.length_cons, List.length_nil]
    omega
  · rw [show S.length + 1 + 1 = S.length + 2 by omega, H.item (j := 2) rfl]
    decide
theorem pure {n : Nat} {S : Str} {ks : List Tk} (B : Built n S ks) : Pure S ks := by
  have h0 := built_nul B
  refine ⟨built_ok B, ⟨nul_cat h0 (by decide), ?_⟩, ⟨nul_cat h0 (by decide), ?_⟩, ⟨nul_cat h0 (by decide), ?_⟩, ⟨noNul_of h0, ?_⟩⟩
  · have := scan_built B (cat_list S (Str.ofString "'open")) (.raised (bad := BadAt _) (bad3 S))
    rw [List.append_nil] at this
    exact this
  · have := scan_built B (cat_list S (Str.ofString "\"a\nb\"")) (.raised (bad := BadAt _) (bad4 S))
    rw [List.append_nil] at this
    exact this
  · have H : HereAt (S ++ Str.ofString "/* open") S.length [47, 42, 32, 111, 112, 101, 110] [] := here_end S _
    refine scan_built B (cat_list S (Str.ofString "/* open")) (.skip (ev_rem H rfl (.inl ⟨find_no H ?_, rfl⟩)) .stop)
    intro j h1 h2
    have : j = 2 ∨ j = 3 ∨ j = 4 ∨ j = 5 := by simp at h1; omega
    rcases this with rfl | rfl | rfl | rfl <;> decide
  · exact scan_built B (U := []) (by simp) .stop
end Mine
end

section
open PySem PySem.W PyProof.Rows PySem.Calls PySem.Spec
set_option Elab.async false
set_option maxRecDepth 100000
set_option maxHeartbeats 1000000
set_option linter.unusedVariables false
namespace Mine
abbrev rowW : RowW := PySem.Challenge.rw_ez0042_01.row.toRowW
theorem ints_of {R : WRecords} {cl : Str → Option Addr} {h : Heap} : ∀ {xs : List WData} {vs : List Value} {as : List Addr}, WShape.hasItems R xs .int = true → ReadsAllW R cl h vs xs as → ∃ ns, IntsAre vs ns ∧ ns.length = xs.length
  | [], vs, as, _, r => by
    obtain ⟨rfl, rfl⟩ := readsAllW_nil_inv r
    exact ⟨[], .nil, rfl⟩
  | x :: xs, vs, as, hx, r => by
    unfold WShape.hasItems at hx
    obtain ⟨h1, h2⟩ := Bool.and_eq_true_iff.mp hx
    obtain ⟨i, rfl⟩ := hasW_int h1
    cases r with
    | cons r1 r2 =>
      obtain ⟨ns, k1, k2⟩ := ints_of h2 r2
      cases r1 with
      | int i t => exact ⟨i :: ns, .cons _ _ k1, by simp [k2]⟩
theorem args_of {cl : Str → Option Addr} {h : Heap} {args : List WData} {vals : List Value} {as : List Addr} (hpre : rowW.claim.pre args = true) (hr : ReadsAllW rowW.records cl h vals args as) :
    ∃ l its ns, vals = [.ref l] ∧ h.IsList l its ∧ IntsAre its.toList ns ∧ ns.length ≤ 63 := by
  obtain ⟨h1, h2⟩ := pre_splitW hpre
  obtain ⟨d, r, rfl, hd, hr'⟩ := hasAllW_cons (show WShape.hasAll rowW.records args [.list .int] = true from h1)
  obtain rfl := hasAllW_nil hr'
  obtain ⟨xs, rfl, hx⟩ := hasW_list hd
  cases hr with
  | cons r1 r2 =>
    obtain ⟨rfl, rfl⟩ := readsAllW_nil_inv r2
    obtain ⟨l, o, its, n, ai, rfl, ho, hc, hdt, hi, rfl⟩ := readsW_list_open r1
    obtain ⟨ns, k1, k2⟩ := ints_of hx hi
    refine ⟨l, its, ns, rfl, ⟨o, ho, hc, n, hdt⟩, k1, ?_⟩
    rw [k2]
    clear hd h1
    dsimp only [rowW, PySem.Challenge.rw_ez0042_01, OpenLaw.row, OpenLaw.pre] at h2
    simp [WTm.holds, WTm.value] at h2
    refine Classical.byContradiction fun hgt => ?_
    have e : W.less? (.int 63) (.int (xs.length : Int)) = some true := by
      show some (decide ((63 : Int) < (xs.length : Int))) = some true
      rw [decide_eq_true (by omega)]
    rw [e] at h2
    simp at h2
theorem walkX {q : Program} {loose : List Str} {XP : (Str → Option Value) → Heap → Prop} {α : Type} {Yf : Shared → α} {Ya : World → α} {d : DefRec} {kwd : List (Str × Expr)} (hY : ∀ w s, Yf s = Ya w → (KX w.params).In s.heap) (hd : d.name = "law") :
    WalkX q loose XP Yf Ya rowW d kwd fun f vs => PySem.call f vs := by
  intro w s₀ s₁ mg mb G y a o pm cd doc dV kV ho hdt hcd hD hmg hg args vals as L hpre hlay hrd hwl hlo
  have X : (KX w.params).In s₁.heap := fun b o e => L.keeps b o (hY w s₀ y b o e)
  obtain ⟨l, its, ns, rfl, hl, hi, hlen⟩ := args_of hpre hrd
  have ha : a = 259 := by
    rw [hd] at hmg
    obtain ⟨o3, es, ep, h3, hd3, _, hf3⟩ := G.T.g
    have e3 := X 3 _ rfl
    rw [show mainGlobals = 3 from rfl, e3] at h3
    cases h3
    injection hd3 with hd3
    have h4 := hf3 (Str.ofString "law")
    rw [hmg, ← hd3] at h4
    have h5 := congrArg (fun o => match o with | some (Value.ref x) => x | _ => 0) h4
    exact h5.symm.trans (by kernel_rfl)
  subst ha
  refine law_call (dp := 301) (un := 4) (by decide) (by decide) X G.T (vs := its.toList) (by simpa using hl) hi (by have := hi.length; simpa using this) (by omega) (fun n S ks B _ _ => pure B) fun h' tk' hk => ?_
  refine ⟨.inl ⟨_, _, [], rfl, fun _ => rfl, ReadsW.bool true, ?_, fun _ => ⟨List.nodup_nil, fun _ hm => (nomatch hm)⟩⟩, .of_keep hk, rfl, ?_⟩
  · first | rfl | kernel_rfl | fail
  · show AllBare (s₁.gens.push .finished)
    rw [hg]
    exact AllBare.empty.push rfl
end Mine
end

open PySem PySem.W PySem.Calls PyProof.Rows
set_option Elab.async false
set_option maxRecDepth 100000
set_option maxHeartbeats 4000000
theorem PySem.Challenge.cw_ez0042_01_holds : PySem.Challenge.rw_ez0042_01.Holds := by
  w_on
  o_law
  refine holds_openX (q := Mine.qv) (loose := Mine.loose) (Xt := Mine.xtT) (XP := fun _ _ => True) (Yf := Mine.hk.obs) (Ya := Mine.hk.val) (N := 6000) Mine.leftO (fun _ _ => trivial) (fun _ _ _ _ _ => trivial) (by rfl) (by rfl) (by rfl) (fun s _ => recFacts_of (by rfl)) (by rfl) (by first | assumption | decide +kernel) (by decide +kernel) ⟨rfl, rfl, rfl, rfl, rfl, by decide +kernel⟩ ?hw (Mine.walkX (fun w s e => Mine.hk.of w s e) (by rfl))
  case hw => w_witness2
