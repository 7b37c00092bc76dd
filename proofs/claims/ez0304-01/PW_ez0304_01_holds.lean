import PyProof.Rows.All
import Wide.All
import OpenK.AllK
import Wide.FinOn
import Lean
import PySem.Challenge.RW_ez0304_01
open PySem PySem.W PyProof.Rows
set_option Elab.async false
set_option maxRecDepth 100000
namespace Mine

/-- doubling in the field -/
def dbl (v : Nat) : Nat := if v < 128 then 2 * v else (2 * v) ^^^ 285
/-- the first 255 powers of two in the field, in one number, eight bits each -/
def packed : Nat := 70160881166704368827218703435136616750530459438269794890424969378298545675077208731798828898087927652446353395360628748027273188182808436399538186061104243134188885576122562338679313492324190829158544377810568631194580132524405266702234305646236648896994794467054525044798919765581988418950285252905306116225263236585714808161311289784028762024137133735135393922581566890382566480334369299400480864790538739986285574563168380416343369614948461817839620668187777978661530364712890858126432457562886306102556561631759900551331094983229723298224611133722330829711659991602983068895685602467964643306841827719562658305
def exE (r : Nat) : Nat := (packed >>> (8 * r)) % 256
/-- their logarithms, likewise -/
def packedL : Nat := 22135253156888987530748098150270024343632497605293634117281264061560962248099620766229961468867162294233796152347975563017024165690400661622462404646302566225833645086064538892198543335321514950294300187779610338557442029018619797274438901674641748676613670242915365385819254959901651105240253464034662486586186382979728982817772067067513442677601938078891989292316012868233806586592927239821351197800766822366321181463280924672822998103315976779850880337712374790938628529953751181886374687897611504386983350015558142994211516619836411558782076806704747441947939324473761869443721989389604670425385080942269787340800
def lgE (v : Nat) : Nat := (packedL >>> (8 * v)) % 256
def expI : List Int := (List.range 256).map fun r => Int.ofNat (exE (r % 255))
def logI : List Int := (List.range 256).map fun v => Int.ofNat (lgE v)
def gexpF (n : Int) : Int := expI.getD (n.fmod 255).toNat 0
def glogF (n : Int) : Int := logI.getD n.toNat 0

def intsB : List Value → List Int → Bool
  | [], [] => true
  | .int i _ :: r, j :: t => i == j && intsB r t
  | _, _ => false
theorem intsB_are : ∀ {vs : List Value} {ns : List Int}, intsB vs ns = true → IntsAre vs ns
  | [], [], _ => .nil
  | .int i _ :: r, j :: t, h => by
    simp only [intsB, Bool.and_eq_true, beq_iff_eq] at h
    obtain ⟨rfl, h2⟩ := h
    exact .cons _ _ (intsB_are h2)
  | [], _ :: _, h => by simp [intsB] at h
  | v :: r, [], h => by cases v <;> simp [intsB] at h
  | .none :: _, _ :: _, h | .bool _ :: _, _ :: _, h | .str _ _ :: _, _ :: _, h | .ref _ :: _, _ :: _, h | .float _ _ :: _, _ :: _, h | .bytes _ _ :: _, _ :: _, h | .builtin _ :: _, _ :: _, h => by simp [intsB] at h

/-- an item of a written table of ints of the text's top, at a place within it -/
theorem tabItem {prog : Program} {w : World} {A : Around} {E : Value → Shared → Prop} {s : Shared} {h₀ : Heap} {L a : Addr} {m : Str → Option Value} {K : Frag} {od : Option Addr} {items : Array Value} {n : Nat} {sl : Array (Option Value)} {value slice : PySem.Expr} {k : Int} {u : Tok} {Q : Value → Shared → Prop} (ns : List Int)
    (F : Fr h₀ L s.heap m) (X : K.In h₀) (ho : K.lookup a = some ⟨.type "list", od, .seq items n, sl⟩) (e : intsB items.toList ns = true) (hn : ns.length = 256) (h0 : 0 ≤ k) (h1 : k < 256) (h : ∀ t, Q (.int (ns.getD k.toNat 0) t) s)
    (hs : subscripted slice false (.ref a) (.int k u) = operate [.ref a, .int k u] (getItem (.ref a) (.int k u)) := by with_unfolding_all rfl) :
    wpAny (model prog w) A (subscriptTail value slice (.ref a) (.int k u)) Q E s := by
  have hl : s.heap.IsList a items.toList.toArray := by rw [Array.toArray_toList]; exact listIn X F ho
  exact item_anyK hl (intsB_are e) h0 (by rw [hn]; omega) (by omega) h hs
theorem expI_len : expI.length = 256 := by decide +kernel
theorem logI_len : logI.length = 256 := by decide +kernel

theorem expI_all : ((List.range 255).all fun i => decide (1 ≤ expI.getD i 0) && decide (expI.getD i 0 ≤ 255)) = true := by decide +kernel
theorem logI_all : ((List.range 256).all fun i => decide (0 ≤ logI.getD i 0) && decide (logI.getD i 0 ≤ 254)) = true := by decide +kernel
theorem gexp_bd (n : Int) : 1 ≤ gexpF n ∧ gexpF n ≤ 255 := by
  have h0 := fmod_lo n (n := 255) (by decide)
  have h1 := fmod_hi n (n := 255) (by decide)
  have h := List.all_eq_true.mp expI_all (n.fmod 255).toNat (List.mem_range.mpr (by omega))
  unfold gexpF
  simpa only [Bool.and_eq_true, decide_eq_true_eq] using h
theorem glog_bd (n : Int) : 0 ≤ glogF n ∧ glogF n ≤ 254 := by
  unfold glogF
  by_cases hn : n.toNat < 256
  · have h := List.all_eq_true.mp logI_all n.toNat (List.mem_range.mpr hn)
    simpa only [Bool.and_eq_true, decide_eq_true_eq] using h
  · rw [List.getD_eq_getElem?_getD, List.getElem?_eq_none (by rw [logI_len]; omega)]
    decide
end Mine
namespace Mine
theorem gexp_ne0 (e : Int) : ¬ gexpF e = 0 := by have := gexp_bd e; omega
theorem gexp_ne0d (e : Int) : ¬ decide (gexpF e = 0) = true := by simpa using gexp_ne0 e
theorem gexp_beq (e : Int) : ¬ (gexpF e == 0) = true := by simpa using gexp_ne0 e
theorem gexp_pos (e : Int) : gexpF e > 0 := by have := gexp_bd e; omega
theorem gexp_pos' (e : Int) : 0 < gexpF e := by have := gexp_bd e; omega
theorem gexp_posd (e : Int) : decide (gexpF e > 0) = true := by simpa using gexp_pos' e
theorem gexp_posd' (e : Int) : decide (0 < gexpF e) = true := by simpa using gexp_pos' e
/-- a sum over what a loop has taken: at its start, and after one more -/
theorem st0 (a : Int) (f : Int → Int) : a = a + (List.map f []).sum := by simp
theorem st1 {a t d x : Int} {f : Int → Int} {pre : List Int} (h : t = a + (pre.map f).sum) (hd : f x = d) : t + d = a + ((pre ++ [x]).map f).sum := by
  subst h hd
  simp only [List.map_append, List.sum_append, List.map_cons, List.map_nil, List.sum_cons, List.sum_nil]
  omega
theorem st2 {a t x : Int} {f : Int → Int} {pre : List Int} (h : t = a + (pre.map f).sum) (hd : f x = 0) : t = a + ((pre ++ [x]).map f).sum := by
  have := st1 h hd
  omega
end Mine
namespace Mine
theorem xor_add_and (a : Nat) : ∀ b : Nat, (a ^^^ b) + 2 * (a &&& b) = a + b := by
  induction a using Nat.strongRecOn with
  | _ a ih =>
    intro b
    by_cases h : a = 0
    · subst h; simp
    · have h0 := ih (a / 2) (by omega) (b / 2)
      have h1 : (a ^^^ b) / 2 = a / 2 ^^^ b / 2 := Nat.xor_div_two
      have h2 : (a &&& b) / 2 = a / 2 &&& b / 2 := Nat.and_div_two
      have h3 := @Nat.xor_mod_two_eq_one a b
      have h4 := @Nat.and_mod_two_eq_one a b
      rw [← h1, ← h2] at h0
      by_cases p : a % 2 = 1 <;> by_cases q : b % 2 = 1 <;> simp only [p, q, iff_true, not_true_eq_false, not_false_eq_true, iff_false, iff_self, and_true, and_false] at h3 h4 <;> omega
theorem bitXor_nat (a b : Nat) : Builtin.bitXor (a : Int) (b : Int) = ((a ^^^ b : Nat) : Int) := by
  have h := xor_add_and a b
  rw [bitXor_and, bitAnd_pp (by omega) (by omega)]
  simp only [Int.toNat_natCast]
  omega

/-! the powers of two -/
def ex : Nat → Nat
  | 0 => 1
  | n + 1 => dbl (ex n)
theorem exE_step : (exE 0 == 1 && dbl (exE 254) == 1 && (List.range 254).all fun r => exE (r + 1) == dbl (exE r)) = true := by decide +kernel
theorem exE_eq : ∀ {r : Nat}, r < 255 → exE r = ex r
  | 0, _ => by
    have h := exE_step
    simp only [Bool.and_eq_true, beq_iff_eq] at h
    exact h.1.1
  | r + 1, hr => by
    have h := exE_step
    simp only [Bool.and_eq_true, beq_iff_eq, List.all_eq_true, List.mem_range] at h
    rw [h.2 r (by omega), exE_eq (by omega : r < 255)]
    rfl
theorem ex_255 : ex 255 = 1 := by
  have h := exE_step
  simp only [Bool.and_eq_true, beq_iff_eq] at h
  show dbl (ex 254) = 1
  rw [← exE_eq (by decide)]
  exact h.1.2
theorem ex_add255 : ∀ n, ex (n + 255) = ex n
  | 0 => ex_255
  | n + 1 => by
    have h := ex_add255 n
    show dbl (ex (n + 255)) = dbl (ex n)
    rw [h]
theorem ex_mul (n : Nat) : ∀ q, ex (n + 255 * q) = ex n
  | 0 => rfl
  | q + 1 => by
    have h := ex_add255 (n + 255 * q)
    rw [ex_mul n q] at h
    rw [← h]
    congr 1
theorem ex_mod (n : Nat) : ex (n % 255) = ex n := by
  have h := ex_mul (n % 255) (n / 255)
  rw [Nat.mod_add_div] at h
  exact h.symm
theorem exE_mod (n : Nat) : exE (n % 255) = ex n := by rw [exE_eq (Nat.mod_lt _ (by decide)), ex_mod]
theorem expI_at {i : Nat} (h : i < 256) : expI.getD i 0 = (ex i : Int) := by
  rw [List.getD_eq_getElem?_getD]
  unfold expI
  rw [List.getElem?_map, List.getElem?_range h]
  show ((exE (i % 255) : Nat) : Int) = _
  rw [exE_mod]
theorem fmod255 (e : Int) : e.fmod 255 = e % 255 := Int.fmod_eq_emod_of_nonneg e (by decide)
theorem gexpF_eq (e : Int) : gexpF e = (ex (e % 255).toNat : Int) := by
  unfold gexpF
  rw [fmod255]
  exact expI_at (by omega)
theorem gexpF_nat (n : Nat) : gexpF (n : Int) = (ex n : Int) := by
  rw [gexpF_eq, ← ex_mod n]
  congr 2
theorem gexpF_congr {a b : Int} (h : a % 255 = b % 255) : gexpF a = gexpF b := by rw [gexpF_eq, gexpF_eq, h]

/-! logarithms -/
theorem logI_at {v : Nat} (h : v < 256) : logI.getD v 0 = (lgE v : Int) := by
  rw [List.getD_eq_getElem?_getD]
  unfold logI
  rw [List.getElem?_map, List.getElem?_range h]
  rfl
theorem lg_ex : ((List.range 255).all fun i => lgE (exE i) == i && exE i < 256) = true := by decide +kernel
theorem ex_lg : ((List.range 256).all fun v => v == 0 || exE (lgE v) == v) = true := by decide +kernel
theorem glog_gexp (e : Int) : glogF (gexpF e) = e % 255 := by
  have h := List.all_eq_true.mp lg_ex (e % 255).toNat (List.mem_range.mpr (by omega))
  rw [exE_eq (by omega), Bool.and_eq_true, beq_iff_eq, decide_eq_true_eq] at h
  rw [gexpF_eq]
  unfold glogF
  rw [Int.toNat_natCast, logI_at h.2, h.1]
  omega
theorem gexp_glog {v : Int} (h1 : 1 ≤ v) (h2 : v ≤ 255) : gexpF (glogF v) = v := by
  have h := List.all_eq_true.mp ex_lg v.toNat (List.mem_range.mpr (by omega))
  have hb := glog_bd v
  have e : glogF v = (lgE v.toNat : Int) := logI_at (by omega)
  rw [e] at hb
  rw [Bool.or_eq_true, beq_iff_eq, beq_iff_eq, exE_eq (by omega)] at h
  rw [gexpF_eq, e, Int.emod_eq_of_lt hb.1 (by omega), Int.toNat_natCast]
  omega
theorem gexp_inj {a b : Int} (h : gexpF a = gexpF b) : a % 255 = b % 255 := by rw [← glog_gexp a, ← glog_gexp b, h]

/-! sums -/
theorem sum_perm {l m : List Int} (h : l.Perm m) : l.sum = m.sum := by
  induction h with
  | nil => rfl
  | cons x _ ih => simp only [List.sum_cons, ih]
  | swap x y l => simp only [List.sum_cons]; omega
  | trans _ _ a b => exact a.trans b
theorem mem_rangeKs {x : Int} {n : Nat} : x ∈ rangeKs 1 n ↔ 1 ≤ x ∧ x ≤ (n : Int) := by
  unfold rangeKs
  rw [List.mem_map]
  constructor
  · rintro ⟨i, hi, rfl⟩
    have := List.mem_range.mp hi
    omega
  · rintro ⟨h1, h2⟩
    exact ⟨(x - 1).toNat, List.mem_range.mpr (by omega), by omega⟩
theorem logs_perm : ((rangeKs 1 255).map glogF).Perm ((List.range 255).map Int.ofNat) := by
  refine (List.perm_ext_iff_of_nodup ?_ ?_).mpr fun a => ?_
  · refine List.pairwise_map.mpr (List.Pairwise.imp_of_mem (R := fun a b => a ≠ b) ?_ ?_)
    · intro a b ha hb hab h
      have ha' := mem_rangeKs.mp ha
      have hb' := mem_rangeKs.mp hb
      exact hab (by rw [← gexp_glog ha'.1 ha'.2, ← gexp_glog hb'.1 hb'.2, h])
    · exact List.pairwise_map.mpr (List.Pairwise.imp (fun {a b} (h : a ≠ b) => by omega) List.nodup_range)
  · exact List.pairwise_map.mpr (List.Pairwise.imp (fun {a b} (h : a ≠ b) q => h (Int.ofNat.inj q)) List.nodup_range)
  · rw [List.mem_map, List.mem_map]
    constructor
    · rintro ⟨x, hx, rfl⟩
      have hb := glog_bd x
      exact ⟨(glogF x).toNat, List.mem_range.mpr (by omega), by show ((glogF x).toNat : Int) = _; omega⟩
    · rintro ⟨e, he, rfl⟩
      have he' := List.mem_range.mp he
      have hb := gexp_bd (e : Int)
      refine ⟨gexpF (e : Int), mem_rangeKs.mpr ⟨hb.1, by omega⟩, ?_⟩
      rw [glog_gexp]
      show _ = (e : Int)
      omega
theorem sum_logs (F : Int → Int) : ((rangeKs 1 255).map fun x => F (glogF x)).sum = ((List.range 255).map fun (e : Nat) => F (e : Int)).sum := by
  have h := sum_perm (logs_perm.map F)
  rw [List.map_map, List.map_map] at h
  exact h
theorem sum_succ (f : Nat → Int) (n : Nat) : ((List.range (n + 1)).map f).sum = ((List.range n).map f).sum + f n := by
  rw [List.range_succ, List.map_append, List.sum_append]
  simp
theorem sum_head (f : Nat → Int) : ∀ n : Nat, ((List.range (n + 1)).map f).sum = f 0 + ((List.range n).map fun e => f (e + 1)).sum
  | 0 => by simp
  | n + 1 => by
    rw [sum_succ, sum_head f n, sum_succ (fun e => f (e + 1)) n]
    omega
theorem sum_turn1 {f : Nat → Int} {n : Nat} (hp : ∀ e, f (e + n) = f e) : ((List.range n).map fun e => f (e + 1)).sum = ((List.range n).map f).sum := by
  have h1 := sum_succ f n
  have h2 := sum_head f n
  have h3 := hp 0
  rw [Nat.zero_add] at h3
  omega
theorem sum_turn {f : Nat → Int} {n : Nat} (hp : ∀ e, f (e + n) = f e) : ∀ q : Nat, ((List.range n).map fun e => f (e + q)).sum = ((List.range n).map f).sum
  | 0 => rfl
  | q + 1 => by
    rw [← sum_turn hp q]
    have h := sum_turn1 (f := fun e => f (e + q)) (n := n) fun e => by
      show f (e + n + q) = f (e + q)
      rw [show e + n + q = e + q + n by omega, hp]
    rw [← h]
    congr 1
    refine List.map_congr_left fun e _ => ?_
    show f (e + (q + 1)) = f (e + 1 + q)
    congr 1
    omega
end Mine
namespace Mine
theorem rest_ok {u e : Int} (h : Builtin.bitXor (u.fmod 256) (gexpF e) ≠ 0) : 1 ≤ Builtin.bitXor (u.fmod 256) (gexpF e) ∧ Builtin.bitXor (u.fmod 256) (gexpF e) ≤ 255 := by
  have h1 := fmod_lo u (n := 256) (by decide)
  have h2 := fmod_hi u (n := 256) (by decide)
  have h3 := gexp_bd e
  generalize u.fmod 256 = a at *
  generalize gexpF e = b at *
  obtain ⟨a, rfl⟩ := Int.eq_ofNat_of_zero_le h1
  obtain ⟨b, rfl⟩ := Int.eq_ofNat_of_zero_le (a := b) (by omega)
  rw [bitXor_nat] at *
  have := @Nat.xor_lt_two_pow a b 8 (by omega) (by omega)
  omega
theorem rest_ok0 {u : Int} (h : u.fmod 256 ≠ 0) : 1 ≤ u.fmod 256 ∧ u.fmod 256 ≤ 255 := by
  have h1 := fmod_lo u (n := 256) (by decide)
  have h2 := fmod_hi u (n := 256) (by decide)
  omega
/-- what is left of c -/
def rst (k c high x : Int) : Int := if 0 < x then Builtin.bitXor c (gexpF (high + k * glogF x)) else c
/-- what one x adds -/
def g1 (k c high low x : Int) : Int := if rst k c high x = 0 then 1 else if (glogF (rst k c high x) - low).fmod k = 0 then k else 0
section
variable {k c high low a total x : Int} {pre : List Int}
theorem rst_a (hx : 0 < x) : rst k c high x = Builtin.bitXor c (gexpF (high + k * glogF x)) := if_pos hx
theorem rst_b (hx : ¬ 0 < x) : rst k c high x = c := if_neg hx
theorem g1_a1 (h : total = a + (pre.map (g1 k c high low)).sum) (hx : 0 < x) (h0 : Builtin.bitXor c (gexpF (high + k * glogF x)) = 0) : total + 1 = a + ((pre ++ [x]).map (g1 k c high low)).sum :=
  st1 h (by unfold g1; rw [rst_a hx, if_pos h0])
theorem g1_a2 (h : total = a + (pre.map (g1 k c high low)).sum) (hx : 0 < x) (h0 : Builtin.bitXor c (gexpF (high + k * glogF x)) ≠ 0) (h1 : (glogF (Builtin.bitXor c (gexpF (high + k * glogF x))) - low).fmod k = 0) : total + k = a + ((pre ++ [x]).map (g1 k c high low)).sum :=
  st1 h (by unfold g1; rw [rst_a hx, if_neg h0, if_pos h1])
theorem g1_a3 (h : total = a + (pre.map (g1 k c high low)).sum) (hx : 0 < x) (h0 : Builtin.bitXor c (gexpF (high + k * glogF x)) ≠ 0) (h1 : (glogF (Builtin.bitXor c (gexpF (high + k * glogF x))) - low).fmod k ≠ 0) : total = a + ((pre ++ [x]).map (g1 k c high low)).sum :=
  st2 h (by unfold g1; rw [rst_a hx, if_neg h0, if_neg h1])
theorem g1_b1 (h : total = a + (pre.map (g1 k c high low)).sum) (hx : ¬ 0 < x) (h0 : c = 0) : total + 1 = a + ((pre ++ [x]).map (g1 k c high low)).sum :=
  st1 h (by unfold g1; rw [rst_b hx, if_pos h0])
theorem g1_b2 (h : total = a + (pre.map (g1 k c high low)).sum) (hx : ¬ 0 < x) (h0 : c ≠ 0) (h1 : (glogF c - low).fmod k = 0) : total + k = a + ((pre ++ [x]).map (g1 k c high low)).sum :=
  st1 h (by unfold g1; rw [rst_b hx, if_neg h0, if_pos h1])
theorem g1_b3 (h : total = a + (pre.map (g1 k c high low)).sum) (hx : ¬ 0 < x) (h0 : c ≠ 0) (h1 : (glogF c - low).fmod k ≠ 0) : total = a + ((pre ++ [x]).map (g1 k c high low)).sum :=
  st2 h (by unfold g1; rw [rst_b hx, if_neg h0, if_neg h1])
end
end Mine
namespace Mine
/-! sums shift -/
theorem two_xor (a b : Nat) : 2 * (a ^^^ b) = 2 * a ^^^ 2 * b := by
  have h := @Nat.shiftLeft_xor_distrib 1 a b
  simp only [Nat.shiftLeft_eq] at h
  rw [Nat.mul_comm 2, Nat.mul_comm 2, Nat.mul_comm 2]
  exact h
theorem xor_top {a b : Nat} (ha : a < 256) (hb : b < 256) : (a ^^^ b < 128) ↔ ((a < 128) ↔ (b < 128)) := by
  have h := @Nat.xor_div_two_pow a b 7
  have hx := @Nat.xor_lt_two_pow a b 8 ha hb
  by_cases p : a < 128 <;> by_cases q : b < 128
  · rw [show a / 2 ^ 7 = 0 by omega, show b / 2 ^ 7 = 0 by omega, show 0 ^^^ 0 = 0 from rfl] at h
    simp only [p, q, iff_true]; omega
  · rw [show a / 2 ^ 7 = 0 by omega, show b / 2 ^ 7 = 1 by omega, show 0 ^^^ 1 = 1 from rfl] at h
    exact iff_of_false (by omega) fun r => q (r.mp p)
  · rw [show a / 2 ^ 7 = 1 by omega, show b / 2 ^ 7 = 0 by omega, show 1 ^^^ 0 = 1 from rfl] at h
    exact iff_of_false (by omega) fun r => p (r.mpr q)
  · rw [show a / 2 ^ 7 = 1 by omega, show b / 2 ^ 7 = 1 by omega, show 1 ^^^ 1 = 0 from rfl] at h
    simp only [p, q, iff_true]; omega
theorem dbl_xor {a b : Nat} (ha : a < 256) (hb : b < 256) : dbl (a ^^^ b) = dbl a ^^^ dbl b := by
  have h := xor_top ha hb
  unfold dbl
  rw [two_xor]
  by_cases p : a < 128 <;> by_cases q : b < 128
  · rw [if_pos p, if_pos q, if_pos (h.mpr (by simp only [p, q]))]
  · rw [if_pos p, if_neg q, if_neg (fun r => by have := h.mp r; omega), Nat.xor_assoc]
  · rw [if_neg p, if_pos q, if_neg (fun r => by have := h.mp r; omega), Nat.xor_assoc, Nat.xor_assoc, Nat.xor_comm (2 * b)]
  · rw [if_neg p, if_neg q, if_pos (h.mpr (by simp only [p, q])), Nat.xor_assoc, Nat.xor_comm 285, Nat.xor_assoc (2 * b), Nat.xor_self, Nat.xor_zero]
theorem ex_lt (n : Nat) : ex n < 256 := by
  rw [← exE_mod]
  exact Nat.mod_lt _ (by decide)
theorem ex_shift {a b m : Nat} (h : ex a ^^^ ex b = ex m) : ∀ s : Nat, ex (a + s) ^^^ ex (b + s) = ex (m + s)
  | 0 => h
  | s + 1 => by
    show dbl (ex (a + s)) ^^^ dbl (ex (b + s)) = dbl (ex (m + s))
    rw [← dbl_xor (ex_lt _) (ex_lt _), ex_shift h s]
/-- the logarithm of 1 + 2 ^ r -/
def zE (r : Nat) : Nat := lgE (1 ^^^ exE r)
theorem zE_all : ((List.range 255).all fun r => r == 0 || (1 ^^^ exE r) == exE (zE r) && zE r < 255) = true := by decide +kernel
/-- what is left of c other than nought, by the exponents' difference -/
theorem left_zero {a b : Int} (h : (b - a) % 255 = 0) : Builtin.bitXor (gexpF a) (gexpF b) = 0 := by
  rw [gexpF_congr (a := b) (b := a) (by omega)]
  exact bitXor_self _
theorem left_pos {a b : Int} (h : (b - a) % 255 ≠ 0) : Builtin.bitXor (gexpF a) (gexpF b) = gexpF (a + (zE ((b - a) % 255).toNat : Int)) := by
  have hr : ((b - a) % 255).toNat < 255 := by omega
  generalize hq : ((b - a) % 255).toNat = r at *
  have hz := List.all_eq_true.mp zE_all r (List.mem_range.mpr hr)
  simp only [Bool.or_eq_true, Bool.and_eq_true, beq_iff_eq, decide_eq_true_eq] at hz
  have hz2 := hz.resolve_left (by omega)
  have h0 : ex 0 ^^^ ex r = ex (zE r) := by
    rw [← exE_eq hr, ← exE_eq hz2.2]
    exact hz2.1
  have hs := ex_shift h0 (a % 255).toNat
  rw [Nat.zero_add] at hs
  rw [gexpF_congr (a := a) (b := (((a % 255).toNat : Nat) : Int)) (by omega), gexpF_congr (a := b) (b := ((r + (a % 255).toNat : Nat) : Int)) (by omega),
    gexpF_congr (a := a + (zE r : Int)) (b := ((zE r + (a % 255).toNat : Nat) : Int)) (by omega), gexpF_nat, gexpF_nat, gexpF_nat, bitXor_nat, hs]

/-! the sum by residues -/
/-- what one residue adds -/
def h1 (k b r : Nat) : Int := if r = 0 then 1 else if zE r % k = b then (k : Int) else 0
def S1 (k a b : Nat) : Int := ((List.range (255 / k)).map fun e => h1 k b (a + k * e)).sum
theorem sum_blocks {f : Nat → Int} {p : Nat} (hp : ∀ e, f (e + p) = f e) : ∀ n : Nat, ((List.range (p * n)).map f).sum = n * ((List.range p).map f).sum
  | 0 => by simp
  | n + 1 => by
    have e : ∀ m : Nat, ((List.range (p * n + m)).map f).sum = ((List.range (p * n)).map f).sum + ((List.range m).map f).sum := by
      have per : ∀ q x : Nat, f (x + p * q) = f x := by
        intro q
        induction q with
        | zero => intro x; rfl
        | succ q ih => intro x; rw [show x + p * (q + 1) = x + p * q + p by rw [Nat.mul_succ]; omega, hp, ih]
      intro m
      induction m with
      | zero => simp
      | succ m ih => rw [← Nat.add_assoc, sum_succ, sum_succ, ih, Nat.add_comm (p * n) m, per]; omega
    rw [Nat.mul_succ, e p, sum_blocks hp n]
    rw [show ((n + 1 : Nat) : Int) = (n : Int) + 1 by omega, Int.add_mul, Int.one_mul]
end Mine
namespace Mine
/-- what an x other than nought adds, by the power's logarithm -/
def g1e (k c l y : Int) : Int := if Builtin.bitXor c (gexpF y) = 0 then 1 else if (glogF (Builtin.bitXor c (gexpF y)) - l).fmod k = 0 then k else 0
theorem range_split : rangeKs 0 (256 - 0 : Int).toNat = 0 :: rangeKs 1 255 := by decide +kernel
theorem sum1 (k c h l : Int) : ((rangeKs 0 (256 - 0 : Int).toNat).map (g1 k c h l)).sum = g1 k c h l 0 + ((List.range 255).map fun (e : Nat) => g1e k c l (h + k * (e : Int))).sum := by
  rw [range_split, List.map_cons, List.sum_cons, ← sum_logs fun v => g1e k c l (h + k * v)]
  refine congrArg (g1 k c h l 0 + ·) (congrArg List.sum (List.map_congr_left fun x hx => ?_))
  have hx' := mem_rangeKs.mp hx
  unfold g1
  rw [rst_a (by omega)]
  unfold g1e
  exact rfl
theorem fmod_k {k : Nat} (x : Int) : x.fmod (k : Int) = x % (k : Int) := Int.fmod_eq_emod_of_nonneg x (by omega)

/-! c is nought -/
theorem g1e_zero {k : Nat} (hk : k = 3 ∨ k = 5 ∨ k = 17) (h l : Int) (e : Nat) : g1e k 0 l (h + k * (e : Int)) = if (h - l).fmod k = 0 then (k : Int) else 0 := by
  unfold g1e
  have hx : Builtin.bitXor 0 (gexpF (h + k * (e : Int))) = gexpF (h + k * (e : Int)) := by
    rw [gexpF_eq]
    have := bitXor_nat 0 (ex ((h + k * (e : Int)) % 255).toNat)
    rw [Nat.zero_xor] at this
    exact this
  rw [hx, if_neg (gexp_ne0 _), glog_gexp, fmod_k, fmod_k]
  have hc : ((h + (k : Int) * (e : Int)) % 255 - l) % (k : Int) = 0 ↔ (h - l) % (k : Int) = 0 := by
    rcases hk with rfl | rfl | rfl <;> omega
  simp only [hc]
theorem c_zero {k : Nat} (hk : k = 3 ∨ k = 5 ∨ k = 17) (h l : Int) : ((rangeKs 0 (256 - 0 : Int).toNat).map (g1 k 0 h l)).sum = 1 + 255 * if (h - l).fmod k = 0 then (k : Int) else 0 := by
  rw [sum1, show g1 k 0 h l 0 = 1 from rfl]
  have e : ∀ n : Nat, ((List.range n).map fun (e : Nat) => g1e k 0 l (h + k * (e : Int))).sum = (n : Int) * if (h - l).fmod k = 0 then (k : Int) else 0 := by
    intro n
    induction n with
    | zero => simp
    | succ n ih =>
      rw [sum_succ, ih, g1e_zero hk, show ((n + 1 : Nat) : Int) = (n : Int) + 1 by omega, Int.add_mul, Int.one_mul]
  rw [e 255]
  rfl

/-! c is another -/
theorem g1e_pos {k : Nat} (hk : k = 3 ∨ k = 5 ∨ k = 17) (m l y : Int) : g1e k (gexpF m) l y = h1 k (((l - m) % k).toNat) ((y - m) % 255).toNat := by
  unfold g1e h1
  by_cases hz : (y - m) % 255 = 0
  · rw [left_zero hz, if_pos rfl, if_pos (by omega)]
  · rw [left_pos hz, if_neg (gexp_ne0 _), glog_gexp, fmod_k, if_neg (show ¬ ((y - m) % 255).toNat = 0 by omega)]
    generalize zE ((y - m) % 255).toNat = z
    have hc : ((m + (z : Int)) % 255 - l) % (k : Int) = 0 ↔ z % k = ((l - m) % (k : Int)).toNat := by
      rcases hk with rfl | rfl | rfl <;> omega
    simp only [hc]
theorem c_sum {k : Nat} (hk : k = 3 ∨ k = 5 ∨ k = 17) (m h l : Int) : ((List.range 255).map fun (e : Nat) => g1e k (gexpF m) l (h + k * (e : Int))).sum = k * S1 k (((h - m) % 255).toNat % k) (((l - m) % k).toNat) := by
  generalize hb : ((l - m) % (k : Int)).toNat = b
  generalize hd : ((h - m) % 255).toNat = d
  let f : Nat → Int := fun e => h1 k b ((d % k + k * e) % 255)
  have hp : ∀ e, f (e + 255 / k) = f e := by
    intro e
    show h1 k b _ = h1 k b _
    congr 1
    rcases hk with rfl | rfl | rfl <;> omega
  have hp' : ∀ e, f (e + 255) = f e := by
    intro e
    show h1 k b _ = h1 k b _
    congr 1
    rcases hk with rfl | rfl | rfl <;> omega
  have e1 : ((List.range 255).map fun (e : Nat) => g1e k (gexpF m) l (h + k * (e : Int))).sum = ((List.range 255).map fun e => f (e + d / k)).sum := by
    congr 1
    refine List.map_congr_left fun e _ => ?_
    rw [g1e_pos hk, hb]
    show h1 k b _ = h1 k b _
    congr 1
    rcases hk with rfl | rfl | rfl <;> omega
  have e2 : ((List.range 255).map f).sum = k * ((List.range (255 / k)).map f).sum := by
    rw [← sum_blocks hp k]
    rcases hk with rfl | rfl | rfl <;> rfl
  rw [e1, sum_turn hp', e2]
  unfold S1
  congr 2
  refine List.map_congr_left fun e he => ?_
  have he' := List.mem_range.mp he
  show h1 k b _ = h1 k b _
  congr 1
  rcases hk with rfl | rfl | rfl <;> omega

/-! the reckoning -/
def gz (k : Nat) : Int := if k = 17 then 16 else -16
def ez (k a : Nat) : Int := if a = 0 then (k : Int) - 1 else -1
def dz (k a b : Nat) : Int := if a = b then (k : Int) - 1 else -1
def chk1 (k : Nat) : Bool := (List.range k).all fun a => (List.range k).all fun b =>
  decide ((if b = 0 then (k : Int) else 0) + k * S1 k a b = 256 + gz k * (ez k a * ez k b - dz k a b) - dz k a b)
theorem chk1_3 : chk1 3 = true := by decide +kernel
theorem chk1_5 : chk1 5 = true := by decide +kernel
theorem chk1_17 : chk1 17 = true := by decide +kernel
/-- E of the law -/
def E (k x : Int) : Int := if x.fmod k = 0 then k - 1 else -1
theorem E_yes {k x : Int} (h : x.fmod k = 0) : E k x = k - 1 := if_pos h
theorem E_no {k x : Int} (h : x.fmod k ≠ 0) : E k x = -1 := if_neg h
theorem c_pos {k : Nat} (hk : k = 3 ∨ k = 5 ∨ k = 17) {c h l : Int} (h1 : 1 ≤ c) (h2 : c ≤ 255) :
    ((rangeKs 0 (256 - 0 : Int).toNat).map (g1 k c h l)).sum = 256 + gz k * (E k (glogF c - h) * E k (glogF c - l) - E k (h - l)) - E k (h - l) := by
  have hc := gexp_glog h1 h2
  rw [sum1]
  have e0 : g1 k c h l 0 = if ((l - glogF c) % k).toNat = 0 then (k : Int) else 0 := by
    unfold g1
    rw [rst_b (by decide), if_neg (by omega), fmod_k]
    have q : (glogF c - l) % (k : Int) = 0 ↔ ((l - glogF c) % (k : Int)).toNat = 0 := by
      rcases hk with rfl | rfl | rfl <;> omega
    simp only [q]
  have e1 := c_sum hk (glogF c) h l
  rw [hc] at e1
  rw [e0, e1]
  generalize glogF c = m at *
  have qa : (m - h).fmod k = 0 ↔ ((h - m) % 255).toNat % k = 0 := by
    rw [fmod_k]; rcases hk with rfl | rfl | rfl <;> omega
  have qb : (m - l).fmod k = 0 ↔ ((l - m) % (k : Int)).toNat = 0 := by
    rw [fmod_k]; rcases hk with rfl | rfl | rfl <;> omega
  have qd : (h - l).fmod k = 0 ↔ ((h - m) % 255).toNat % k = ((l - m) % (k : Int)).toNat := by
    rw [fmod_k]; rcases hk with rfl | rfl | rfl <;> omega
  have ea : E k (m - h) = ez k (((h - m) % 255).toNat % k) := by unfold E ez; simp only [qa]
  have eb : E k (m - l) = ez k (((l - m) % (k : Int)).toNat) := by unfold E ez; simp only [qb]
  have ed : E k (h - l) = dz k (((h - m) % 255).toNat % k) (((l - m) % (k : Int)).toNat) := by unfold E dz; simp only [qd]
  rw [ea, eb, ed]
  have hchk : chk1 k = true := by
    rcases hk with rfl | rfl | rfl
    · exact chk1_3
    · exact chk1_5
    · exact chk1_17
  have ha : ((h - m) % 255).toNat % k < k := Nat.mod_lt _ (by omega)
  have hb : ((l - m) % (k : Int)).toNat < k := by
    rcases hk with rfl | rfl | rfl <;> omega
  have := List.all_eq_true.mp (List.all_eq_true.mp hchk _ (List.mem_range.mpr ha)) _ (List.mem_range.mpr hb)
  exact of_decide_eq_true this
end Mine
namespace Mine
/-! the ends of the walk -/
theorem fin1 {a b : Int} (h : a = b) : ((a == b) == true) = true := by simp [h]
section
variable {u h l tot x y z : Int}
theorem f3 (hs : tot = 0 + ((rangeKs 0 (256 - 0 : Int).toNat).map (g1 3 (u.fmod 256) h l)).sum) (hc : u.fmod 256 ≠ 0) (hz : E 3 (h - l) = z) (hx : E 3 (glogF (u.fmod 256) - h) = x) (hy : E 3 (glogF (u.fmod 256) - l) = y) :
    tot = 256 + -16 * (x * y - z) - z := by
  rw [hs, ← hx, ← hy, ← hz, Int.zero_add]
  exact c_pos (k := 3) (by decide) (rest_ok0 hc).1 (rest_ok0 hc).2
theorem f5 (hs : tot = 0 + ((rangeKs 0 (256 - 0 : Int).toNat).map (g1 5 (u.fmod 256) h l)).sum) (hc : u.fmod 256 ≠ 0) (hz : E 5 (h - l) = z) (hx : E 5 (glogF (u.fmod 256) - h) = x) (hy : E 5 (glogF (u.fmod 256) - l) = y) :
    tot = 256 + -16 * (x * y - z) - z := by
  rw [hs, ← hx, ← hy, ← hz, Int.zero_add]
  exact c_pos (k := 5) (by decide) (rest_ok0 hc).1 (rest_ok0 hc).2
theorem f17 (hs : tot = 0 + ((rangeKs 0 (256 - 0 : Int).toNat).map (g1 17 (u.fmod 256) h l)).sum) (hc : u.fmod 256 ≠ 0) (hz : E 17 (h - l) = z) (hx : E 17 (glogF (u.fmod 256) - h) = x) (hy : E 17 (glogF (u.fmod 256) - l) = y) :
    tot = 256 + 16 * (x * y - z) - z := by
  rw [hs, ← hx, ← hy, ← hz, Int.zero_add]
  exact c_pos (k := 17) (by decide) (rest_ok0 hc).1 (rest_ok0 hc).2
theorem n3 (hs : tot = 0 + ((rangeKs 0 (256 - 0 : Int).toNat).map (g1 3 (u.fmod 256) h l)).sum) (hc : u.fmod 256 = 0) (hz : (h - l).fmod 3 = 0) : tot = 1 + 255 * 3 := by
  have e := c_zero (k := 3) (by decide) h l
  rw [if_pos (show (h - l).fmod ((3 : Nat) : Int) = 0 from hz)] at e
  rw [hs, hc, Int.zero_add]
  exact e
theorem n5 (hs : tot = 0 + ((rangeKs 0 (256 - 0 : Int).toNat).map (g1 5 (u.fmod 256) h l)).sum) (hc : u.fmod 256 = 0) (hz : (h - l).fmod 5 = 0) : tot = 1 + 255 * 5 := by
  have e := c_zero (k := 5) (by decide) h l
  rw [if_pos (show (h - l).fmod ((5 : Nat) : Int) = 0 from hz)] at e
  rw [hs, hc, Int.zero_add]
  exact e
theorem n17 (hs : tot = 0 + ((rangeKs 0 (256 - 0 : Int).toNat).map (g1 17 (u.fmod 256) h l)).sum) (hc : u.fmod 256 = 0) (hz : (h - l).fmod 17 = 0) : tot = 1 + 255 * 17 := by
  have e := c_zero (k := 17) (by decide) h l
  rw [if_pos (show (h - l).fmod ((17 : Nat) : Int) = 0 from hz)] at e
  rw [hs, hc, Int.zero_add]
  exact e
theorem o3 (hs : tot = 0 + ((rangeKs 0 (256 - 0 : Int).toNat).map (g1 3 (u.fmod 256) h l)).sum) (hc : u.fmod 256 = 0) (hz : (h - l).fmod 3 ≠ 0) : tot = 1 := by
  have e := c_zero (k := 3) (by decide) h l
  rw [if_neg (show ¬ (h - l).fmod ((3 : Nat) : Int) = 0 from hz)] at e
  rw [hs, hc, Int.zero_add]
  exact e
theorem o5 (hs : tot = 0 + ((rangeKs 0 (256 - 0 : Int).toNat).map (g1 5 (u.fmod 256) h l)).sum) (hc : u.fmod 256 = 0) (hz : (h - l).fmod 5 ≠ 0) : tot = 1 := by
  have e := c_zero (k := 5) (by decide) h l
  rw [if_neg (show ¬ (h - l).fmod ((5 : Nat) : Int) = 0 from hz)] at e
  rw [hs, hc, Int.zero_add]
  exact e
theorem o17 (hs : tot = 0 + ((rangeKs 0 (256 - 0 : Int).toNat).map (g1 17 (u.fmod 256) h l)).sum) (hc : u.fmod 256 = 0) (hz : (h - l).fmod 17 ≠ 0) : tot = 1 := by
  have e := c_zero (k := 17) (by decide) h l
  rw [if_neg (show ¬ (h - l).fmod ((17 : Nat) : Int) = 0 from hz)] at e
  rw [hs, hc, Int.zero_add]
  exact e
end
end Mine
local macro_rules | `(tactic| walk_at "subscriptTail List cons Slice ref ref") => `(tactic| (k_here; k_dflt (refine kba_turn (value' := PySem.Expr.Name (PySem.Str.ofString "_") ⟨0, 0, 0, 0⟩) (fun _ => rfl) ?_)))
local macro_rules | `(tactic| walk_at "subscriptTail Name Slice ref ref") => `(tactic| (k_here; (with_reducible show wpAny _ _ (subscriptTail _ (PySem.Expr.Slice (some _) none none _) (Value.ref _) (Value.ref _)) _ _ _); k_dflt (refine' kmk_slice_ints ?F ?N ?l ?p ?q ?i ?m ?c ?_ ?s ?t ?z; (case F => k_asm); (case N => k_asm); (case l => kmk_list); (case p => kmk_part); (case q => kmk_part); (case i => l_ints); (case m => exact kmk_from (by l_ints) (by kmk_sign)); (case c => kmk_len); (case s => with_unfolding_all rfl); (case t => kmk_pure); (case z => kmk_size)); intro D' ws' h' F' N' l1 hI' hC' hL'; (try simp only [Int.reduceNeg, Int.neg_neg, Int.reduceToNat] at hI' hC' hL'); (try k_lt l1); (try k_sweep)))
local macro_rules | `(tactic| walk_at "subscriptTail Name BinOp ref int") => `(tactic| (k_here; (with_reducible show wpAny _ _ (subscriptTail _ _ (Value.ref 15) (Value.int _ _)) _ _ _); (with_unfolding_all refine' Mine.tabItem Mine.expI ?kf ?kx ?ko ?ke ?kn ?k3 ?k4 ?_; (case kf => k_asm); (case kx => k_asm); (case ko => k_is); (case ke => decide +kernel); (case kn => exact Mine.expI_len); (case k3 => l_idx); (case k4 => l_idx); k_whole); intro _))
local macro_rules | `(tactic| walk_at "subscriptTail Name Name ref int") => `(tactic| (k_here; (with_reducible show wpAny _ _ (subscriptTail _ _ (Value.ref 16) (Value.int _ _)) _ _ _); (with_unfolding_all refine' Mine.tabItem Mine.logI ?kf ?kx ?ko ?ke ?kn ?k3 ?k4 ?_; (case kf => k_asm); (case kx => k_asm); (case ko => k_is); (case ke => decide +kernel); (case kn => exact Mine.logI_len); (case k3 => l_idx); (case k4 => l_idx); k_whole); intro _))
local macro_rules | `(tactic| walk_at "InvEndN") => `(tactic| k_dflt kst_close)
set_option maxHeartbeats 8000000 in
theorem PySem.Challenge.cw_ez0304_01_holds : PySem.Challenge.rw_ez0304_01.Holds := by
  k_with "call ref" => k_call_by "gexp" Mine.gexpF
  k_with "call ref" => first
    | (have hR9 := Mine.rest_ok (by with_reducible assumption); k_call_by "glog" Mine.glogF (fun (n : Int) => 1 ≤ n ∧ n ≤ 255))
    | (have hR9 := Mine.rest_ok0 (by with_reducible assumption); k_call_by "glog" Mine.glogF (fun (n : Int) => 1 ≤ n ∧ n ≤ 255))
    | k_call_by "glog" Mine.glogF (fun (n : Int) => 1 ≤ n ∧ n ≤ 255)
  k_with "fact gexp" => exact Mine.gexp_bd
  k_with "fact glog" => exact Mine.glog_bd
  k_with "state" => first
    | exact Mine.st0 _ _
    | with_reducible exact Mine.g1_a1 (by with_reducible assumption) (by with_reducible assumption) (by with_reducible assumption)
    | with_reducible exact Mine.g1_a2 (by with_reducible assumption) (by with_reducible assumption) (by with_reducible assumption) (by with_reducible assumption)
    | with_reducible exact Mine.g1_a3 (by with_reducible assumption) (by with_reducible assumption) (by with_reducible assumption) (by with_reducible assumption)
    | with_reducible exact Mine.g1_b1 (by with_reducible assumption) (by with_reducible assumption) (by with_reducible assumption)
    | with_reducible exact Mine.g1_b2 (by with_reducible assumption) (by with_reducible assumption) (by with_reducible assumption) (by with_reducible assumption)
    | with_reducible exact Mine.g1_b3 (by with_reducible assumption) (by with_reducible assumption) (by with_reducible assumption) (by with_reducible assumption)
  k_with "end" => first
    | exact Mine.fin1 (Mine.f3 (by with_reducible assumption) (by with_reducible assumption) (by first | exact Mine.E_yes (by with_reducible assumption) | exact Mine.E_no (by with_reducible assumption)) (by first | exact Mine.E_yes (by with_reducible assumption) | exact Mine.E_no (by with_reducible assumption)) (by first | exact Mine.E_yes (by with_reducible assumption) | exact Mine.E_no (by with_reducible assumption)))
    | exact Mine.fin1 (Mine.n3 (by with_reducible assumption) (by with_reducible assumption) (by with_reducible assumption))
    | exact Mine.fin1 (Mine.o3 (by with_reducible assumption) (by with_reducible assumption) (by with_reducible assumption))
    | exact Mine.fin1 (Mine.f5 (by with_reducible assumption) (by with_reducible assumption) (by first | exact Mine.E_yes (by with_reducible assumption) | exact Mine.E_no (by with_reducible assumption)) (by first | exact Mine.E_yes (by with_reducible assumption) | exact Mine.E_no (by with_reducible assumption)) (by first | exact Mine.E_yes (by with_reducible assumption) | exact Mine.E_no (by with_reducible assumption)))
    | exact Mine.fin1 (Mine.n5 (by with_reducible assumption) (by with_reducible assumption) (by with_reducible assumption))
    | exact Mine.fin1 (Mine.o5 (by with_reducible assumption) (by with_reducible assumption) (by with_reducible assumption))
    | exact Mine.fin1 (Mine.f17 (by with_reducible assumption) (by with_reducible assumption) (by first | exact Mine.E_yes (by with_reducible assumption) | exact Mine.E_no (by with_reducible assumption)) (by first | exact Mine.E_yes (by with_reducible assumption) | exact Mine.E_no (by with_reducible assumption)) (by first | exact Mine.E_yes (by with_reducible assumption) | exact Mine.E_no (by with_reducible assumption)))
    | exact Mine.fin1 (Mine.n17 (by with_reducible assumption) (by with_reducible assumption) (by with_reducible assumption))
    | exact Mine.fin1 (Mine.o17 (by with_reducible assumption) (by with_reducible assumption) (by with_reducible assumption))
  k_with "pyIter ref" => k_state_given ["k", "c", "high", "low"] (fun k c high low pre total => total = 0 + (pre.map (Mine.g1 k c high low)).sum) "total"
  open_k
