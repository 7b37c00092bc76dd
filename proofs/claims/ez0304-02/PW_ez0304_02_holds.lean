import PyProof.Rows.All
import Wide.All
import OpenK.AllK
import Wide.FinOn
import Lean
import PySem.Challenge.RW_ez0304_02
open PySem PySem.W PyProof.Rows
set_option Elab.async false
set_option maxRecDepth 100000
namespace Mine

/-- doubling in the field -/
def dbl (v : Nat) : Nat := if v < 128 then 2 * v else (2 * v) ^^^ 285
/-- the first 255 powers of two in the field, in one number, eight bits each -/
def packed : Nat := 70160881166704368827218703435136616750530459438269794890424969378298545675077208731798828898087927652446353395360628748027273188182808436399538186061104243134188885576122562338679313492324190829158544377810568631194580132524405266702234305646236648896994794467054525044798919765581988418950285252905306116225263236585714808161311289784028762024137133735135393922581566890382566480334369299400480864790538739986285574563168380416343369614948461817839620668187777978661530364712890858126432457562886306102556561631759900551331094983229723298224611133722330829711659991602983068895685602467964643306841827719562658305
def exE (r : Nat) : Nat := (packed >>> (8 * r)) % 256
/-- their logarithms, likewise -/
def packedL : Nat := 22135253156888987530748098150270024343632497605293634117281264061560962248099620766229961468867162294233796152347975563017024165690400661622462404646302566225833645086064538892198543335321514950294300187779610338557442029018619797274438901674641748676613670242915365385819254959901651105240253464034662486586186382979728982817772067067513442677601938078891989292316012868233806586592927239821351197800766822366321181463280924672822998103315976779850880337712374790938628529953751181886374687897611504386983350015558142994211516619836411558782076806704747441947939324473761869443721989389604670425385080942269787340800
def lgE (v : Nat) : Nat := (packedL >>> (8 * v)) % 256
def expI : List Int := (List.range 256).map fun r => Int.ofNat (exE (r % 255))
def logI : List Int := (List.range 256).map fun v => Int.ofNat (lgE v)
def gexpF (n : Int) : Int := expI.getD (n.fmod 255).toNat 0
def glogF (n : Int) : Int := logI.getD n.toNat 0

def intsB : List Value → List Int → Bool
  | [], [] => true
  | .int i _ :: r, j :: t => i == j && intsB r t
  | _, _ => false
theorem intsB_are : ∀ {vs : List Value} {ns : List Int}, intsB vs ns = true → IntsAre vs ns
  | [], [], _ => .nil
  | .int i _ :: r, j :: t, h => by
    simp only [intsB, Bool.and_eq_true, beq_iff_eq] at h
    obtain ⟨rfl, h2⟩ := h
    exact .cons _ _ (intsB_are h2)
  | [], _ :: _, h => by simp [intsB] at h
  | v :: r, [], h => by cases v <;> simp [intsB] at h
  | .none :: _, _ :: _, h | .bool _ :: _, _ :: _, h | .str _ _ :: _, _ :: _, h | .ref _ :: _, _ :: _, h | .float _ _ :: _, _ :: _, h | .bytes _ _ :: _, _ :: _, h | .builtin _ :: _, _ :: _, h => by simp [intsB] at h

/-- an item of a written table of ints of the text's top, at a place within it -/
theorem tabItem {prog : Program} {w : World} {A : Around} {E : Value → Shared → Prop} {s : Shared} {h₀ : Heap} {L a : Addr} {m : Str → Option Value} {K : Frag} {od : Option Addr} {items : Array Value} {n : Nat} {sl : Array (Option Value)} {value slice : PySem.Expr} {k : Int} {u : Tok} {Q : Value → Shared → Prop} (ns : List Int)
    (F : Fr h₀ L s.heap m) (X : K.In h₀) (ho : K.lookup a = some ⟨.type "list", od, .seq items n, sl⟩) (e : intsB items.toList ns = true) (hn : ns.length = 256) (h0 : 0 ≤ k) (h1 : k < 256) (h : ∀ t, Q (.int (ns.getD k.toNat 0) t) s)
    (hs : subscripted slice false (.ref a) (.int k u) = operate [.ref a, .int k u] (getItem (.ref a) (.int k u)) := by with_unfolding_all rfl) :
    wpAny (model prog w) A (subscriptTail value slice (.ref a) (.int k u)) Q E s := by
  have hl : s.heap.IsList a items.toList.toArray := by rw [Array.toArray_toList]; exact listIn X F ho
  exact item_anyK hl (intsB_are e) h0 (by rw [hn]; omega) (by omega) h hs
theorem expI_len : expI.length = 256 := by decide +kernel
theorem logI_len : logI.length = 256 := by decide +kernel

theorem expI_all : ((List.range 255).all fun i => decide (1 ≤ expI.getD i 0) && decide (expI.getD i 0 ≤ 255)) = true := by decide +kernel
theorem logI_all : ((List.range 256).all fun i => decide (0 ≤ logI.getD i 0) && decide (logI.getD i 0 ≤ 254)) = true := by decide +kernel
theorem gexp_bd (n : Int) : 1 ≤ gexpF n ∧ gexpF n ≤ 255 := by
  have h0 := fmod_lo n (n := 255) (by decide)
  have h1 := fmod_hi n (n := 255) (by decide)
  have h := List.all_eq_true.mp expI_all (n.fmod 255).toNat (List.mem_range.mpr (by omega))
  unfold gexpF
  simpa only [Bool.and_eq_true, decide_eq_true_eq] using h
theorem glog_bd (n : Int) : 0 ≤ glogF n ∧ glogF n ≤ 254 := by
  unfold glogF
  by_cases hn : n.toNat < 256
  · have h := List.all_eq_true.mp logI_all n.toNat (List.mem_range.mpr hn)
    simpa only [Bool.and_eq_true, decide_eq_true_eq] using h
  · rw [List.getD_eq_getElem?_getD, List.getElem?_eq_none (by rw [logI_len]; omega)]
    decide
end Mine
namespace Mine
theorem gexp_ne0 (e : Int) : ¬ gexpF e = 0 := by have := gexp_bd e; omega
theorem gexp_ne0d (e : Int) : ¬ decide (gexpF e = 0) = true := by simpa using gexp_ne0 e
theorem gexp_beq (e : Int) : ¬ (gexpF e == 0) = true := by simpa using gexp_ne0 e
theorem gexp_pos (e : Int) : gexpF e > 0 := by have := gexp_bd e; omega
theorem gexp_pos' (e : Int) : 0 < gexpF e := by have := gexp_bd e; omega
theorem gexp_posd (e : Int) : decide (gexpF e > 0) = true := by simpa using gexp_pos' e
theorem gexp_posd' (e : Int) : decide (0 < gexpF e) = true := by simpa using gexp_pos' e
/-- a sum over what a loop has taken: at its start, and after one more -/
theorem st0 (a : Int) (f : Int → Int) : a = a + (List.map f []).sum := by simp
theorem st1 {a t d x : Int} {f : Int → Int} {pre : List Int} (h : t = a + (pre.map f).sum) (hd : f x = d) : t + d = a + ((pre ++ [x]).map f).sum := by
  subst h hd
  simp only [List.map_append, List.sum_append, List.map_cons, List.map_nil, List.sum_cons, List.sum_nil]
  omega
theorem st2 {a t x : Int} {f : Int → Int} {pre : List Int} (h : t = a + (pre.map f).sum) (hd : f x = 0) : t = a + ((pre ++ [x]).map f).sum := by
  have := st1 h hd
  omega
end Mine
namespace Mine
theorem xor_add_and (a : Nat) : ∀ b : Nat, (a ^^^ b) + 2 * (a &&& b) = a + b := by
  induction a using Nat.strongRecOn with
  | _ a ih =>
    intro b
    by_cases h : a = 0
    · subst h; simp
    · have h0 := ih (a / 2) (by omega) (b / 2)
      have h1 : (a ^^^ b) / 2 = a / 2 ^^^ b / 2 := Nat.xor_div_two
      have h2 : (a &&& b) / 2 = a / 2 &&& b / 2 := Nat.and_div_two
      have h3 := @Nat.xor_mod_two_eq_one a b
      have h4 := @Nat.and_mod_two_eq_one a b
      rw [← h1, ← h2] at h0
      by_cases p : a % 2 = 1 <;> by_cases q : b % 2 = 1 <;> simp only [p, q, iff_true, not_true_eq_false, not_false_eq_true, iff_false, iff_self, and_true, and_false] at h3 h4 <;> omega
theorem bitXor_nat (a b : Nat) : Builtin.bitXor (a : Int) (b : Int) = ((a ^^^ b : Nat) : Int) := by
  have h := xor_add_and a b
  rw [bitXor_and, bitAnd_pp (by omega) (by omega)]
  simp only [Int.toNat_natCast]
  omega

/-! the powers of two -/
def ex : Nat → Nat
  | 0 => 1
  | n + 1 => dbl (ex n)
theorem exE_step : (exE 0 == 1 && dbl (exE 254) == 1 && (List.range 254).all fun r => exE (r + 1) == dbl (exE r)) = true := by decide +kernel
theorem exE_eq : ∀ {r : Nat}, r < 255 → exE r = ex r
  | 0, _ => by
    have h := exE_step
    simp only [Bool.and_eq_true, beq_iff_eq] at h
    exact h.1.1
  | r + 1, hr => by
    have h := exE_step
    simp only [Bool.and_eq_true, beq_iff_eq, List.all_eq_true, List.mem_range] at h
    rw [h.2 r (by omega), exE_eq (by omega : r < 255)]
    rfl
theorem ex_255 : ex 255 = 1 := by
  have h := exE_step
  simp only [Bool.and_eq_true, beq_iff_eq] at h
  show dbl (ex 254) = 1
  rw [← exE_eq (by decide)]
  exact h.1.2
theorem ex_add255 : ∀ n, ex (n + 255) = ex n
  | 0 => ex_255
  | n + 1 => by
    have h := ex_add255 n
    show dbl (ex (n + 255)) = dbl (ex n)
    rw [h]
theorem ex_mul (n : Nat) : ∀ q, ex (n + 255 * q) = ex n
  | 0 => rfl
  | q + 1 => by
    have h := ex_add255 (n + 255 * q)
    rw [ex_mul n q] at h
    rw [← h]
    congr 1
theorem ex_mod (n : Nat) : ex (n % 255) = ex n := by
  have h := ex_mul (n % 255) (n / 255)
  rw [Nat.mod_add_div] at h
  exact h.symm
theorem exE_mod (n : Nat) : exE (n % 255) = ex n := by rw [exE_eq (Nat.mod_lt _ (by decide)), ex_mod]
theorem expI_at {i : Nat} (h : i < 256) : expI.getD i 0 = (ex i : Int) := by
  rw [List.getD_eq_getElem?_getD]
  unfold expI
  rw [List.getElem?_map, List.getElem?_range h]
  show ((exE (i % 255) : Nat) : Int) = _
  rw [exE_mod]
theorem fmod255 (e : Int) : e.fmod 255 = e % 255 := Int.fmod_eq_emod_of_nonneg e (by decide)
theorem gexpF_eq (e : Int) : gexpF e = (ex (e % 255).toNat : Int) := by
  unfold gexpF
  rw [fmod255]
  exact expI_at (by omega)
theorem gexpF_nat (n : Nat) : gexpF (n : Int) = (ex n : Int) := by
  rw [gexpF_eq, ← ex_mod n]
  congr 2
theorem gexpF_congr {a b : Int} (h : a % 255 = b % 255) : gexpF a = gexpF b := by rw [gexpF_eq, gexpF_eq, h]

/-! logarithms -/
theorem logI_at {v : Nat} (h : v < 256) : logI.getD v 0 = (lgE v : Int) := by
  rw [List.getD_eq_getElem?_getD]
  unfold logI
  rw [List.getElem?_map, List.getElem?_range h]
  rfl
theorem lg_ex : ((List.range 255).all fun i => lgE (exE i) == i && exE i < 256) = true := by decide +kernel
theorem ex_lg : ((List.range 256).all fun v => v == 0 || exE (lgE v) == v) = true := by decide +kernel
theorem glog_gexp (e : Int) : glogF (gexpF e) = e % 255 := by
  have h := List.all_eq_true.mp lg_ex (e % 255).toNat (List.mem_range.mpr (by omega))
  rw [exE_eq (by omega), Bool.and_eq_true, beq_iff_eq, decide_eq_true_eq] at h
  rw [gexpF_eq]
  unfold glogF
  rw [Int.toNat_natCast, logI_at h.2, h.1]
  omega
theorem gexp_glog {v : Int} (h1 : 1 ≤ v) (h2 : v ≤ 255) : gexpF (glogF v) = v := by
  have h := List.all_eq_true.mp ex_lg v.toNat (List.mem_range.mpr (by omega))
  have hb := glog_bd v
  have e : glogF v = (lgE v.toNat : Int) := logI_at (by omega)
  rw [e] at hb
  rw [Bool.or_eq_true, beq_iff_eq, beq_iff_eq, exE_eq (by omega)] at h
  rw [gexpF_eq, e, Int.emod_eq_of_lt hb.1 (by omega), Int.toNat_natCast]
  omega
theorem gexp_inj {a b : Int} (h : gexpF a = gexpF b) : a % 255 = b % 255 := by rw [← glog_gexp a, ← glog_gexp b, h]

/-! sums -/
theorem sum_perm {l m : List Int} (h : l.Perm m) : l.sum = m.sum := by
  induction h with
  | nil => rfl
  | cons x _ ih => simp only [List.sum_cons, ih]
  | swap x y l => simp only [List.sum_cons]; omega
  | trans _ _ a b => exact a.trans b
theorem mem_rangeKs {x : Int} {n : Nat} : x ∈ rangeKs 1 n ↔ 1 ≤ x ∧ x ≤ (n : Int) := by
  unfold rangeKs
  rw [List.mem_map]
  constructor
  · rintro ⟨i, hi, rfl⟩
    have := List.mem_range.mp hi
    omega
  · rintro ⟨h1, h2⟩
    exact ⟨(x - 1).toNat, List.mem_range.mpr (by omega), by omega⟩
theorem logs_perm : ((rangeKs 1 255).map glogF).Perm ((List.range 255).map Int.ofNat) := by
  refine (List.perm_ext_iff_of_nodup ?_ ?_).mpr fun a => ?_
  · refine List.pairwise_map.mpr (List.Pairwise.imp_of_mem (R := fun a b => a ≠ b) ?_ ?_)
    · intro a b ha hb hab h
      have ha' := mem_rangeKs.mp ha
      have hb' := mem_rangeKs.mp hb
      exact hab (by rw [← gexp_glog ha'.1 ha'.2, ← gexp_glog hb'.1 hb'.2, h])
    · exact List.pairwise_map.mpr (List.Pairwise.imp (fun {a b} (h : a ≠ b) => by omega) List.nodup_range)
  · exact List.pairwise_map.mpr (List.Pairwise.imp (fun {a b} (h : a ≠ b) q => h (Int.ofNat.inj q)) List.nodup_range)
  · rw [List.mem_map, List.mem_map]
    constructor
    · rintro ⟨x, hx, rfl⟩
      have hb := glog_bd x
      exact ⟨(glogF x).toNat, List.mem_range.mpr (by omega), by show ((glogF x).toNat : Int) = _; omega⟩
    · rintro ⟨e, he, rfl⟩
      have he' := List.mem_range.mp he
      have hb := gexp_bd (e : Int)
      refine ⟨gexpF (e : Int), mem_rangeKs.mpr ⟨hb.1, by omega⟩, ?_⟩
      rw [glog_gexp]
      show _ = (e : Int)
      omega
theorem sum_logs (F : Int → Int) : ((rangeKs 1 255).map fun x => F (glogF x)).sum = ((List.range 255).map fun (e : Nat) => F (e : Int)).sum := by
  have h := sum_perm (logs_perm.map F)
  rw [List.map_map, List.map_map] at h
  exact h
theorem sum_succ (f : Nat → Int) (n : Nat) : ((List.range (n + 1)).map f).sum = ((List.range n).map f).sum + f n := by
  rw [List.range_succ, List.map_append, List.sum_append]
  simp
theorem sum_head (f : Nat → Int) : ∀ n : Nat, ((List.range (n + 1)).map f).sum = f 0 + ((List.range n).map fun e => f (e + 1)).sum
  | 0 => by simp
  | n + 1 => by
    rw [sum_succ, sum_head f n, sum_succ (fun e => f (e + 1)) n]
    omega
theorem sum_turn1 {f : Nat → Int} {n : Nat} (hp : ∀ e, f (e + n) = f e) : ((List.range n).map fun e => f (e + 1)).sum = ((List.range n).map f).sum := by
  have h1 := sum_succ f n
  have h2 := sum_head f n
  have h3 := hp 0
  rw [Nat.zero_add] at h3
  omega
theorem sum_turn {f : Nat → Int} {n : Nat} (hp : ∀ e, f (e + n) = f e) : ∀ q : Nat, ((List.range n).map fun e => f (e + q)).sum = ((List.range n).map f).sum
  | 0 => rfl
  | q + 1 => by
    rw [← sum_turn hp q]
    have h := sum_turn1 (f := fun e => f (e + q)) (n := n) fun e => by
      show f (e + n + q) = f (e + q)
      rw [show e + n + q = e + q + n by omega, hp]
    rw [← h]
    congr 1
    refine List.map_congr_left fun e _ => ?_
    show f (e + (q + 1)) = f (e + 1 + q)
    congr 1
    omega
end Mine
namespace Mine
def g2 (t n high low x : Int) : Int :=
  if Builtin.bitXor (gexpF (high + glogF x)) (gexpF (16 * (high + glogF x))) = t ∧ gexpF (17 * (low + glogF x)) = n then 1 else 0
theorem g2_yes {t n high low a total x : Int} {pre : List Int} (h : total = a + (pre.map (g2 t n high low)).sum)
    (hA : Builtin.bitXor (gexpF (high + glogF x)) (gexpF (16 * (high + glogF x))) = t) (hB : gexpF (17 * (low + glogF x)) = n) :
    total + 1 = a + ((pre ++ [x]).map (g2 t n high low)).sum := st1 h (by unfold g2; rw [if_pos ⟨hA, hB⟩])
theorem g2_noA {t n high low a total x : Int} {pre : List Int} (h : total = a + (pre.map (g2 t n high low)).sum)
    (hA : Builtin.bitXor (gexpF (high + glogF x)) (gexpF (16 * (high + glogF x))) ≠ t) :
    total = a + ((pre ++ [x]).map (g2 t n high low)).sum := st2 h (by unfold g2; rw [if_neg fun q => hA q.1])
theorem g2_noB {t n high low a total x : Int} {pre : List Int} (h : total = a + (pre.map (g2 t n high low)).sum)
    (hB : gexpF (17 * (low + glogF x)) ≠ n) :
    total = a + ((pre ++ [x]).map (g2 t n high low)).sum := st2 h (by unfold g2; rw [if_neg fun q => hB q.2])

/-! no norm: no number but nought -/
theorem sum_none {l : List Int} {f : Int → Int} (h : ∀ x, f x = 0) : (l.map f).sum = 0 := by
  induction l with
  | nil => rfl
  | cons x r ih => rw [List.map_cons, List.sum_cons, h, ih]; rfl
theorem g2_zero (t high low x : Int) : g2 t 0 high low x = 0 := by
  unfold g2
  rw [if_neg fun q => gexp_ne0 _ q.2]

/-! the sum as a count over the exponents -/
def trE (r : Nat) : Nat := exE r ^^^ exE (16 * r % 255)
def cnt2 (m t : Nat) : Nat := (List.range 17).countP fun q => trE (m + 15 * q) == t
/-- a sum over one class modulo 15 -/
theorem sum_add (f : Nat → Int) (a : Nat) : ∀ m : Nat, ((List.range (a + m)).map f).sum = ((List.range a).map f).sum + ((List.range m).map fun s => f (a + s)).sum
  | 0 => by simp
  | m + 1 => by rw [← Nat.add_assoc, sum_succ, sum_add f a m, sum_succ (fun s => f (a + s))]; omega
theorem sum_one (g : Int) (m : Nat) : ∀ n : Nat, ((List.range n).map fun s => if s = m then g else 0).sum = if m < n then g else 0
  | 0 => by simp
  | n + 1 => by
    rw [sum_succ, sum_one g m n]
    by_cases h : m < n
    · rw [if_pos h, if_neg (by omega), if_pos (by omega)]; omega
    · by_cases h2 : n = m
      · rw [if_neg h, if_pos h2, if_pos (by omega)]; omega
      · rw [if_neg h, if_neg h2, if_neg (by omega)]; rfl
theorem sum_class {f g : Nat → Int} {m : Nat} (hm : m < 15) (hf : ∀ r, f r = if r % 15 = m then g r else 0) : ∀ n : Nat, ((List.range (15 * n)).map f).sum = ((List.range n).map fun q => g (m + 15 * q)).sum
  | 0 => rfl
  | n + 1 => by
    rw [Nat.mul_succ, sum_add, sum_class hm hf n, sum_succ (fun q => g (m + 15 * q)) n]
    have e := sum_one (g (m + 15 * n)) m 15
    rw [if_pos hm] at e
    rw [← e]
    refine congrArg (_ + ·) (congrArg List.sum (List.map_congr_left fun s hs => ?_))
    have hs' := List.mem_range.mp hs
    rw [hf]
    by_cases q : s = m
    · rw [if_pos q, if_pos (by omega), q, Nat.add_comm]
    · rw [if_neg q, if_neg (by omega)]
theorem sum_count {α : Type} (p : α → Bool) (f : α → Int) (l : List α) (h : ∀ r ∈ l, f r = if p r then 1 else 0) : (l.map f).sum = (l.countP p : Int) := by
  induction l with
  | nil => rfl
  | cons x r ih =>
    rw [List.map_cons, List.sum_cons, h x (.head _), ih fun y hy => h y (.tail _ hy), List.countP_cons]
    cases p x <;> simp <;> omega
theorem sum2 (t j : Nat) (h l : Int) (h0 : 0 ≤ h) : ((rangeKs 1 255).map (g2 (t : Int) (gexpF (17 * (j : Int))) h l)).sum = (cnt2 (((j : Int) - l + h) % 15).toNat t : Int) := by
  have e1 := sum_logs fun e => if Builtin.bitXor (gexpF (h + e)) (gexpF (16 * (h + e))) = (t : Int) ∧ gexpF (17 * (l + e)) = gexpF (17 * (j : Int)) then 1 else 0
  refine Eq.trans e1 ?_
  let f : Nat → Int := fun r => if Builtin.bitXor (gexpF (r : Int)) (gexpF (16 * (r : Int))) = (t : Int) ∧ gexpF (17 * (l - h + (r : Int))) = gexpF (17 * (j : Int)) then 1 else 0
  have hp : ∀ e, f (e + 255) = f e := fun e => by
    show (if _ then _ else _) = (if _ then _ else _)
    rw [gexpF_congr (a := ((e + 255 : Nat) : Int)) (b := (e : Int)) (by omega), gexpF_congr (a := 16 * ((e + 255 : Nat) : Int)) (b := 16 * (e : Int)) (by omega),
      gexpF_congr (a := 17 * (l - h + ((e + 255 : Nat) : Int))) (b := 17 * (l - h + (e : Int))) (by omega)]
  have e2 := sum_turn hp h.toNat
  refine Eq.trans (congrArg List.sum (List.map_congr_left fun e _ => ?_)) (e2.trans ?_)
  · show (if _ then _ else _) = (if _ then _ else _)
    have q : ((e + h.toNat : Nat) : Int) = h + e := by omega
    rw [q, show l - h + (h + (e : Int)) = l + e by omega]
  · have hm : (((j : Int) - l + h) % 15).toNat < 15 := by omega
    have hf : ∀ r : Nat, f r = if r % 15 = (((j : Int) - l + h) % 15).toNat then (if Builtin.bitXor (gexpF (r : Int)) (gexpF (16 * (r : Int))) = (t : Int) then 1 else 0) else 0 := by
      intro r
      have c2 : (gexpF (17 * (l - h + (r : Int))) = gexpF (17 * (j : Int))) ↔ r % 15 = (((j : Int) - l + h) % 15).toNat := by
        constructor
        · intro q
          have := gexp_inj q
          omega
        · intro q
          refine gexpF_congr ?_
          omega
      show (if _ then _ else _) = _
      simp only [c2]
      by_cases a1 : Builtin.bitXor (gexpF (r : Int)) (gexpF (16 * (r : Int))) = (t : Int) <;> by_cases a2 : r % 15 = (((j : Int) - l + h) % 15).toNat <;> simp only [a1, a2, and_self, and_true, and_false, if_true, if_false]
    refine (sum_class hm hf 17).trans ?_
    generalize (((j : Int) - l + h) % 15).toNat = m at *
    refine sum_count _ _ _ fun q hq => ?_
    have hq' := List.mem_range.mp hq
    have hr' : m + 15 * q < 255 := by omega
    generalize m + 15 * q = r at *
    have c1 : (Builtin.bitXor (gexpF (r : Int)) (gexpF (16 * (r : Int))) = (t : Int)) ↔ trE r = t := by
      rw [show (16 : Int) * (r : Int) = ((16 * r : Nat) : Int) by omega, gexpF_nat, gexpF_nat, bitXor_nat]
      unfold trE
      rw [exE_mod, exE_eq hr']
      omega
    simp only [c1, beq_iff_eq]

/-! the reckoning -/
def rho (m i : Nat) : Nat := 17 * m + 34 * (15 - i)
def turnE (q : Nat) : Nat := exE (q % 255) ^^^ exE (2 * q % 255) ^^^ exE (4 * q % 255) ^^^ exE (8 * q % 255)
theorem chk2 : ((List.range 15).all fun m => (List.range 16).all fun i => i == 0 || cnt2 m (exE (17 * i % 255)) == 2 * turnE (rho m i)) = true := by decide +kernel
theorem chk2_0 : ((List.range 15).all fun m => cnt2 m 0 == 1) = true := by decide +kernel

theorem fin2 {a b : Int} (h : a = b) : ((a == b) == true) = true := by simp [h]

/-- trace and norm other than nought -/
theorem e1 {i j u v tot : Int} (hi : 0 < i.fmod 16) (hj : 0 < j.fmod 16)
    (hs : tot = 0 + ((rangeKs 1 (256 - 1 : Int).toNat).map (g2 (gexpF (17 * i.fmod 16)) (gexpF (17 * j.fmod 16)) (glogF u) (glogF v))).sum) :
    tot = 2 * Builtin.bitXor (Builtin.bitXor (Builtin.bitXor (gexpF (glogF (gexpF (17 * j.fmod 16)) + 17 * (glogF u - glogF v) - 2 * glogF (gexpF (17 * i.fmod 16)))) (gexpF (2 * (glogF (gexpF (17 * j.fmod 16)) + 17 * (glogF u - glogF v) - 2 * glogF (gexpF (17 * i.fmod 16))))))
      (gexpF (4 * (glogF (gexpF (17 * j.fmod 16)) + 17 * (glogF u - glogF v) - 2 * glogF (gexpF (17 * i.fmod 16)))))) (gexpF (8 * (glogF (gexpF (17 * j.fmod 16)) + 17 * (glogF u - glogF v) - 2 * glogF (gexpF (17 * i.fmod 16))))) := by
  have hi2 := fmod_hi i (n := 16) (by decide)
  have hj2 := fmod_hi j (n := 16) (by decide)
  have hu := glog_bd u
  generalize i.fmod 16 = i at *
  generalize j.fmod 16 = j at *
  generalize glogF u = h at *
  generalize glogF v = l at *
  obtain ⟨i, rfl⟩ := Int.eq_ofNat_of_zero_le (Int.le_of_lt hi)
  obtain ⟨j, rfl⟩ := Int.eq_ofNat_of_zero_le (Int.le_of_lt hj)
  have hm : (((j : Int) - l + h) % 15).toNat < 15 := by omega
  have ht : gexpF (17 * (i : Int)) = (exE (17 * i % 255) : Int) := by
    rw [show (17 : Int) * (i : Int) = ((17 * i : Nat) : Int) by omega, gexpF_nat, exE_mod]
  have hc := List.all_eq_true.mp (List.all_eq_true.mp chk2 _ (List.mem_range.mpr hm)) i (List.mem_range.mpr (by omega))
  rw [Bool.or_eq_true, beq_iff_eq, beq_iff_eq] at hc
  have hs2 : tot = (cnt2 (((j : Int) - l + h) % 15).toNat (exE (17 * i % 255)) : Int) := by
    rw [hs, ← sum2 (exE (17 * i % 255)) j h l hu.1, ← ht]
    exact Int.zero_add _
  rw [hs2, glog_gexp, glog_gexp]
  generalize hmm : (((j : Int) - l + h) % 15).toNat = m at *
  have k (c : Nat) : gexpF ((c : Int) * (17 * (j : Int) % 255 + 17 * (h - l) - 2 * (17 * (i : Int) % 255))) = (exE (c * rho m i % 255) : Int) := by
    rw [exE_mod, ← gexpF_nat]
    refine gexpF_congr ?_
    have q : (17 * (j : Int) % 255 + 17 * (h - l) - 2 * (17 * (i : Int) % 255)) % 255 = (rho m i : Int) % 255 := by
      unfold rho
      omega
    rw [Int.mul_emod, q, ← Int.mul_emod]
    rfl
  have k1 := k 1
  have k2 := k 2
  have k4 := k 4
  have k8 := k 8
  rw [show ((1 : Nat) : Int) = 1 from rfl, Int.one_mul, Nat.one_mul] at k1
  rw [show (2 : Int) = ((2 : Nat) : Int) from rfl, show (4 : Int) = ((4 : Nat) : Int) from rfl, show (8 : Int) = ((8 : Nat) : Int) from rfl] at *
  rw [k1, k2, k4, k8, bitXor_nat, bitXor_nat, bitXor_nat]
  have hc2 := hc.resolve_left (by omega)
  rw [hc2]
  unfold turnE
  omega
/-- a trace, no norm -/
theorem e2 {t h l tot : Int} (hs : tot = 0 + ((rangeKs 1 (256 - 1 : Int).toNat).map (g2 t 0 h l)).sum) : tot = 2 * 0 := by
  rw [hs, sum_none (g2_zero t h l)]
  rfl
/-- a norm, no trace -/
theorem e3 {j u v tot : Int} (hj : 0 < j.fmod 16)
    (hs : tot = 0 + ((rangeKs 1 (256 - 1 : Int).toNat).map (g2 0 (gexpF (17 * j.fmod 16)) (glogF u) (glogF v))).sum) : tot = 1 := by
  have hu := glog_bd u
  generalize j.fmod 16 = j at *
  generalize glogF u = h at *
  generalize glogF v = l at *
  obtain ⟨j, rfl⟩ := Int.eq_ofNat_of_zero_le (Int.le_of_lt hj)
  have hm : (((j : Int) - l + h) % 15).toNat < 15 := by omega
  have hc := List.all_eq_true.mp chk2_0 _ (List.mem_range.mpr hm)
  rw [beq_iff_eq] at hc
  have h2 := sum2 0 j h l hu.1
  rw [hc] at h2
  rw [hs, Int.zero_add]
  exact h2
/-- neither -/
theorem e4 {t h l tot : Int} (hs : tot = 1 + ((rangeKs 1 (256 - 1 : Int).toNat).map (g2 t 0 h l)).sum) : tot = 1 := by
  rw [hs, sum_none (g2_zero t h l)]
  rfl
end Mine
local macro_rules | `(tactic| walk_at "subscriptTail List cons Slice ref ref") => `(tactic| (k_here; k_dflt (refine kba_turn (value' := PySem.Expr.Name (PySem.Str.ofString "_") ⟨0, 0, 0, 0⟩) (fun _ => rfl) ?_)))
local macro_rules | `(tactic| walk_at "subscriptTail Name Slice ref ref") => `(tactic| (k_here; (with_reducible show wpAny _ _ (subscriptTail _ (PySem.Expr.Slice (some _) none none _) (Value.ref _) (Value.ref _)) _ _ _); k_dflt (refine' kmk_slice_ints ?F ?N ?l ?p ?q ?i ?m ?c ?_ ?s ?t ?z; (case F => k_asm); (case N => k_asm); (case l => kmk_list); (case p => kmk_part); (case q => kmk_part); (case i => l_ints); (case m => exact kmk_from (by l_ints) (by kmk_sign)); (case c => kmk_len); (case s => with_unfolding_all rfl); (case t => kmk_pure); (case z => kmk_size)); intro D' ws' h' F' N' l1 hI' hC' hL'; (try simp only [Int.reduceNeg, Int.neg_neg, Int.reduceToNat] at hI' hC' hL'); (try k_lt l1); (try k_sweep)))
local macro_rules | `(tactic| walk_at "subscriptTail Name BinOp ref int") => `(tactic| (k_here; (with_reducible show wpAny _ _ (subscriptTail _ _ (Value.ref 15) (Value.int _ _)) _ _ _); (with_unfolding_all refine' Mine.tabItem Mine.expI ?kf ?kx ?ko ?ke ?kn ?k3 ?k4 ?_; (case kf => k_asm); (case kx => k_asm); (case ko => k_is); (case ke => decide +kernel); (case kn => exact Mine.expI_len); (case k3 => l_idx); (case k4 => l_idx); k_whole); intro _))
local macro_rules | `(tactic| walk_at "subscriptTail Name Name ref int") => `(tactic| (k_here; (with_reducible show wpAny _ _ (subscriptTail _ _ (Value.ref 16) (Value.int _ _)) _ _ _); (with_unfolding_all refine' Mine.tabItem Mine.logI ?kf ?kx ?ko ?ke ?kn ?k3 ?k4 ?_; (case kf => k_asm); (case kx => k_asm); (case ko => k_is); (case ke => decide +kernel); (case kn => exact Mine.logI_len); (case k3 => l_idx); (case k4 => l_idx); k_whole); intro _))
local macro_rules | `(tactic| walk_at "ite") => `(tactic| (k_here; k_openite; first
  | (refine ite_neg (by first | exact Mine.gexp_beq _ | exact Mine.gexp_ne0 _ | exact Mine.gexp_ne0d _) ?_)
  | (refine ite_pos (by first | exact Mine.gexp_pos _ | exact Mine.gexp_pos' _ | exact Mine.gexp_posd _ | exact Mine.gexp_posd' _) ?_)))
local macro_rules | `(tactic| walk_at "InvEndN") => `(tactic| k_dflt kst_close)
set_option maxHeartbeats 8000000 in
theorem PySem.Challenge.cw_ez0304_02_holds : PySem.Challenge.rw_ez0304_02.Holds := by
  k_with "call ref" => k_call_by "gexp" Mine.gexpF
  k_with "call ref" => k_call_by "glog" Mine.glogF (fun (n : Int) => 1 ≤ n ∧ n ≤ 255)
  k_with "fact gexp" => exact Mine.gexp_bd
  k_with "fact glog" => exact Mine.glog_bd
  k_with "state" => first | exact Mine.st0 _ _ | exact Mine.g2_yes (by assumption) (by assumption) (by assumption) | exact Mine.g2_noA (by assumption) (by assumption) | exact Mine.g2_noB (by assumption) (by assumption) | exact Mine.g2_noB (by assumption) (Mine.gexp_ne0 _)
  k_with "end" => first | exact Mine.fin2 (Mine.e1 (by assumption) (by assumption) (by assumption)) | exact Mine.fin2 (Mine.e3 (by assumption) (by assumption)) | exact Mine.fin2 (Mine.e2 (by assumption)) | exact Mine.fin2 (Mine.e4 (by assumption))
  k_with "pyIter ref" => k_state_given ["trace", "norm", "high", "low", "total!"] (fun t n high low t0 pre total => total = t0 + (pre.map (Mine.g2 t n high low)).sum) "total"
  open_k
