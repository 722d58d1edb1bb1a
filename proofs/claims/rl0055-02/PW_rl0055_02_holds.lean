import PyProof.Rows.All
import Wide.All
import OpenK.AllK
import Wide.FinOn
import PySem.Challenge.RW_rl0055_02
open PySem PySem.W PyProof.Rows
set_option Elab.async false
namespace Mine
set_option maxRecDepth 100000 in
set_option maxHeartbeats 8000000 in
open_top hd for PySem.Challenge.rw_rl0055_02
end Mine
open PySem PySem.W PyProof.Rows
set_option Elab.async false
set_option maxRecDepth 100000
set_option maxHeartbeats 8000000
namespace Mine
set_option genSizeOf false
set_option genInjectivity false
set_option bootstrap.genMatcherCode false
local macro_rules | `(tactic| k_all) => `(tactic| k_extra "m all")
local macro_rules | `(tactic| walk_at $s:str) => `(tactic| k_extra $(Lean.Syntax.mkStrLit ("m " ++ s.getString)))
section
noncomputable def RestLt (r : List (Addr × Obj)) (L : Addr) : Prop := ∀ p ∈ r, @LT.lt Nat _ p.1 L
noncomputable def RestOff (r : List (Addr × Obj)) (d : Addr) : Prop := ∀ p ∈ r, p.1 ≠ d
noncomputable def Ap (l r : List (Addr × Obj)) : Prop := ∀ p ∈ l, ∀ q ∈ r, p.1 ≠ q.1
theorem restLt_ne {r : List (Addr × Obj)} {L d : Addr} (h : RestLt r L) (hd : @LE.le Nat _ L d) : ∀ p ∈ r, p.1 ≠ d := fun p hp e => by
  have := h p hp
  rw [e] at this
  exact absurd (Nat.lt_of_lt_of_le this hd) (Nat.lt_irrefl _)
theorem sub_cons {a : Addr × Obj} {l l' : List (Addr × Obj)} (h1 : a ∈ l') (h2 : ∀ p ∈ l, p ∈ l') : ∀ p ∈ a :: l, p ∈ l' := List.forall_mem_cons.mpr ⟨h1, h2⟩
theorem sub_tail {a : Addr × Obj} {l l' : List (Addr × Obj)} (h : ∀ p ∈ l, p ∈ l') : ∀ p ∈ l, p ∈ a :: l' := fun p hp => .tail _ (h p hp)
theorem sub_refl {l : List (Addr × Obj)} : ∀ p ∈ l, p ∈ l := fun _ h => h
theorem sub_app {a b l : List (Addr × Obj)} (h1 : ∀ p ∈ a, p ∈ l) (h2 : ∀ p ∈ b, p ∈ l) : ∀ p ∈ a ++ b, p ∈ l := fun p hp => (List.mem_append.mp hp).elim (h1 p) (h2 p)
theorem sub_left {a b : List (Addr × Obj)} : ∀ p ∈ a, p ∈ a ++ b := fun _ h => List.mem_append_left _ h
theorem sub_right {a b : List (Addr × Obj)} : ∀ p ∈ b, p ∈ a ++ b := fun _ h => List.mem_append_right _ h
theorem news_sub {h₀ h : Heap} {L : Addr} {l l' : List (Addr × Obj)} (N : News h₀ L h l') (hs : ∀ p ∈ l, p ∈ l') : News h₀ L h l := fun p hp => N p (hs p hp)
theorem restLt_of {l r : List (Addr × Obj)} {L : Addr} (h : ∀ p ∈ l, p.1 < L) (hs : ∀ p ∈ r, p ∈ l) : RestLt r L := fun p hp => h p (hs p hp)
theorem rest_of_allLt {r : List (Addr × Obj)} {L : Addr} (h : AllLt L r) : RestLt r L := kst_ltOf h
abbrev qual1 : Str := ((Str.ofString "_int2digits" : Str) ++ Str.ofString ".<locals>.") ++ Str.ofString "inner"
abbrev qual2 : Str := ((Str.ofString "_digits2int" : Str) ++ Str.ofString ".<locals>.") ++ Str.ofString "inner"
/-- a def's table of inner codes: empty, or with the one inner code -/
noncomputable def TabSt (P : Addr) (ln : Nat) (qual : Str) (l : List (Addr × Obj)) : Prop :=
  l = [(P, tabObj #[])] ∨ ∃ (c : Addr) (oc : Obj) (vs : Array Value) (t : Tok), l = [(P, tabObj (#[] ++ #[rawInt (ln : Nat), rawInt ((4 : Nat) : Int), .ref c])), (c, oc)] ∧ oc.data = .fields vs ∧ vs[1]? = some (.str qual t)
theorem ite_bf {b : Bool} {x y : Prop} (h : b = false) (hy : y) : if b = true then x else y := by rw [h]; exact hy
theorem unr_cons {h₀ : Heap} {L I : Addr} {it : Obj} {rest : (Str → Option Value) → List (Addr × Obj) → Prop} {s₁ : Shared} {h' : Heap} {tk : Nat} {m' : Str → Option Value} {news' : List (Addr × Obj)} (F : Fr h₀ L h' m') (N : News h₀ L h' ((I, it) :: news'))
    (off : ∀ p ∈ news', p.1 ≠ I) (r : rest m' news') : UnrEnd h₀ L s₁ I it rest { s₁ with heap := h', toks := tk } := UnrEnd.intro F N news' (fun _ h => h) off r
theorem divmod_K {prog : Program} {w : World} {A : Around} {E : Value → Shared → Prop} {s : Shared} {a b : Int} {t u : Tok} {Q : Value → Shared → Prop} {h₀ : Heap} {L : Addr} {m : Str → Option Value} {news : List (Addr × Obj)} (F : Fr h₀ L s.heap m) (N : News h₀ L s.heap news) (hb : 0 < b) (hb2 : b < 1073741824)
    (h : ∀ D h', Fr h₀ L h' m → News h₀ L h' ((D, ({ cls := .type "tuple", data := .seq #[.int (a.fdiv b) s.toks, .int (a.fmod b) (s.toks + 1)] } : Obj)) :: news) → AllLt D news →
      Q (.ref D) { s with toks := s.toks + 1 + 1, heap := h' }) : wpAny (model prog w) A (call (.builtin "divmod") [.int a t, .int b u]) Q E s :=
  divmod_N F N (by omega) (fun h' F' N' => h _ h' F' N' (allLt_of fun p hp => Heap.lt_size (N p hp).1)) (Or.inl (PyProof.noPylong_small (by omega)))
/-- the digits' worth, the least first, n bits each -/
noncomputable def dv (n : Int) : List Int → Int
  | [] => 0
  | d :: r => d + 2 ^ n.toNat * dv n r
noncomputable def Digits (n : Int) (ds : List Int) : Prop := ∀ d ∈ ds, 0 ≤ d ∧ d < 2 ^ n.toNat
theorem dv_bound {n : Int} : ∀ {ds : List Int}, Digits n ds → 0 ≤ dv n ds ∧ dv n ds < 2 ^ (n.toNat * ds.length)
  | [], _ => by simp [dv]
  | d :: r, h => by
    have h1 := h d (.head _)
    have h2 := dv_bound (ds := r) (fun x hx => h x (.tail _ hx))
    simp only [dv, List.length_cons, Nat.mul_add, Nat.mul_one, Int.pow_add]
    generalize (2 : Int) ^ n.toNat = P at *
    generalize (2 : Int) ^ (n.toNat * r.length) = R at *
    have hP : 0 < P := by omega
    have h3 : 0 ≤ P * dv n r := Int.mul_nonneg (by omega) h2.1
    have h4 : P * dv n r ≤ P * (R - 1) := Int.mul_le_mul_of_nonneg_left (by omega) (by omega)
    have h5 : P * (R - 1) = P * R - P := by rw [Int.mul_sub, Int.mul_one]
    rw [Int.mul_comm R P]
    omega
theorem dv_append (n : Int) : ∀ (a b : List Int), dv n (a ++ b) = dv n a + 2 ^ (n.toNat * a.length) * dv n b
  | [], b => by simp [dv]
  | d :: r, b => by
    simp only [List.cons_append, dv, dv_append n r b, List.length_cons, Nat.mul_add, Nat.mul_one, Int.pow_add, Int.mul_add]
    rw [Int.mul_comm ((2 : Int) ^ (n.toNat * r.length)) (2 ^ n.toNat), Int.mul_assoc]
    omega
theorem mid_eq (x : Int) : x.fdiv (2 ^ Int.toNat 1) = x / 2 := by
  rw [show (2 : Int) ^ Int.toNat 1 = 2 from rfl]; exact Int.fdiv_eq_ediv_of_nonneg x (by decide)
theorem shift_ok {x n : Int} (h1 : 0 ≤ x) (h2 : x ≤ 40) (h3 : 0 < n) (h4 : n < 40) : 0 ≤ x * n ∧ x * n ≤ 1600 := by
  refine ⟨Int.mul_nonneg h1 (by omega), ?_⟩
  have := Int.mul_le_mul h2 (show n ≤ 40 by omega) (by omega) (by omega)
  omega
theorem sub_digits {n : Int} {ds : List Int} (h : Digits n ds) (i j : Nat) : Digits n ((ds.drop i).take j) :=
  fun d hd => h d (List.mem_of_mem_drop (List.mem_of_mem_take hd))
theorem dv_small {n : Int} {ds : List Int} (h : Digits n ds) (hb : n * ds.length ≤ 60) (hn : 0 < n) (i j : Nat) : (dv n ((ds.drop i).take j)).natAbs < 2 ^ 64 := by
  have h1 := dv_bound (sub_digits h i j)
  have h2 : ((ds.drop i).take j).length ≤ ds.length := by simp; omega
  have h3 : n.toNat * ((ds.drop i).take j).length ≤ 60 := by
    refine Nat.le_trans (Nat.mul_le_mul_left _ h2) ?_
    have : ((n.toNat * ds.length : Nat) : Int) = n * ds.length := by rw [Int.natCast_mul, Int.toNat_of_nonneg (by omega)]
    omega
  have h4 : (2 : Int) ^ (n.toNat * ((ds.drop i).take j).length) ≤ 2 ^ 60 := by exact_mod_cast Nat.pow_le_pow_right (by decide) h3
  generalize dv n _ = v at *
  generalize (2 : Int) ^ (n.toNat * _) = R at *
  have : (2 : Int) ^ 60 = 1152921504606846976 := by decide
  omega

noncomputable def Sp2 (prog : Program) (w : World) (K : Frag) (p : Program) (loose : List Str) (mean : ExcName → Option Value) (mg mb : Str → Option Value) (base : Heap) (led : List (Addr × Obj)) (f : Addr) (ds : List Int) (n : Int) (k : Nat) : Prop :=
  ∀ (i j : Int) (ti tj : Tok) (dp un : Nat) (gd : Option (List Code)) (cn : Str) (cs : Scope) (a : Addr) (ccd : Value) (cl : List (Str × Addr)) (outer : List Env) (A₀ : Around) (h₀ : Heap) (L : Addr) (m : Str → Option Value) (s : Shared) (Q E : Value → Shared → Prop), 0 ≤ i → i < j → j ≤ (ds.length : Int) → j - i ≤ (k : Int) →
    Below A₀ base outer h₀ → Fr h₀ L s.heap m → K.In h₀ → News h₀ L s.heap led → Top p loose mean mg mb h₀ → cs.kind = .function → dp + k + 1 < recursionLimit → un + 8 * (k + 1) < cLine →
    (∀ (t : Tok) (h' : Heap) (tk' : Nat), Fr h₀ L h' m → News h₀ L h' led → Q (.int (dv n ((ds.drop i.toNat).take (j - i).toNat)) t) { s with heap := h', toks := tk' }) →
    wpAny (model prog w) (ktrTop dp un gd cn cs L a ccd cl outer) (call (.ref f) [.int i ti, .int j tj]) Q E s

theorem sp2_start {prog : Program} {K : Frag} {w : World} {p : Program} {loose : List Str} {mean : ExcName → Option Value} {mg mb : Str → Option Value} {base : Heap} {led : List (Addr × Obj)} {f : Addr} {ds : List Int} {n : Int} {ti tj : Tok} {dp un : Nat} {gd : Option (List Code)} {cn : Str} {cs : Scope} {a : Addr} {ccd : Value} {cl : List (Str × Addr)} {outer : List Env} {A₀ : Around} {h₀ : Heap} {L : Addr} {m : Str → Option Value} {s : Shared} {Q E : Value → Shared → Prop}
    (B : Below A₀ base outer h₀) (F : Fr h₀ L s.heap m) (X : K.In h₀) (N : News h₀ L s.heap led) (T : Top p loose mean mg mb h₀) (hk : cs.kind = .function) (hdp : dp + ds.length + 1 < recursionLimit) (hun : un + 8 * (ds.length + 1) < cLine) (hl : 0 < ds.length)
    (key : ∀ k, Sp2 prog w K p loose mean mg mb base led f ds n k)
    (ret : ∀ (t : Tok) (h' : Heap) (tk' : Nat), Fr h₀ L h' m → News h₀ L h' led → Q (.int (dv n ds) t) { s with heap := h', toks := tk' }) :
    wpAny (model prog w) (ktrTop dp un gd cn cs L a ccd cl outer) (call (.ref f) [.int 0 ti, .int (ds.length : Int) tj]) Q E s :=
  key ds.length 0 ds.length ti tj dp un gd cn cs a ccd cl outer A₀ h₀ L m s Q E (Int.le_refl _) (by omega) (Int.le_refl _) (by omega) B F X N T hk hdp hun (fun t h' tk' F' N' => by
    have e : (ds.drop (0 : Int).toNat).take ((ds.length : Int) - 0).toNat = ds := by
      rw [show ((0 : Int)).toNat = 0 from rfl, List.drop_zero]
      exact List.take_of_length_le (by omega)
    rw [e]; exact ret t h' tk' F' N')
/-- a call of inner that is none of the last digits alone -/
theorem dv_one {n : Int} {ds : List Int} {i j : Int} (h0 : 0 ≤ i) (h : i + 1 = j) (hj : j ≤ (ds.length : Int)) : ds.getD i.toNat 0 = dv n ((ds.drop i.toNat).take (j - i).toNat) := by
  have e1 : (j - i).toNat = 1 := by omega
  have hlt : i.toNat < ds.length := by omega
  rw [e1, List.drop_eq_getElem_cons hlt, List.take_succ_cons, List.take_zero]
  simp [dv, List.getD, List.getElem?_eq_getElem hlt]
theorem dv_two {n : Int} {ds : List Int} {i j : Int} (h0 : 0 ≤ i) (h : i < j) (hj : j ≤ (ds.length : Int)) (hn : 0 < n) (q : Int) (hq : q = (i + j) / 2) (hne : i + 1 ≠ j) :
    dv n ((ds.drop q.toNat).take (j - q).toNat) * 2 ^ ((q - i) * n).toNat + dv n ((ds.drop i.toNat).take (q - i).toNat) = dv n ((ds.drop i.toNat).take (j - i).toNat) := by
  have e : (ds.drop i.toNat).take (j - i).toNat = (ds.drop i.toNat).take (q - i).toNat ++ (ds.drop q.toNat).take (j - q).toNat := by
    rw [show (j - i).toNat = (q - i).toNat + (j - q).toNat by omega, List.take_add, List.drop_drop, show i.toNat + (q - i).toNat = q.toNat by omega]
  have hlen : ((ds.drop i.toNat).take (q - i).toNat).length = (q - i).toNat := by simp; omega
  have hexp : ((q - i) * n).toNat = n.toNat * (q - i).toNat := by
    have h1 : ((n.toNat * (q - i).toNat : Nat) : Int) = (q - i) * n := by
      rw [Int.natCast_mul, Int.toNat_of_nonneg (by omega), Int.toNat_of_nonneg (by omega), Int.mul_comm]
    omega
  rw [e, dv_append, hlen, hexp, Int.mul_comm (dv n _) (2 ^ _)]
  omega
theorem bits_pos {x : Int} (h : x ≠ 0) : 0 < Builtin.Int.intBits x := by
  unfold Builtin.Int.intBits
  simp [h]
theorem lt_bits {x : Int} (h : 0 ≤ x) : x < 2 ^ Builtin.Int.intBits x := by
  unfold Builtin.Int.intBits
  by_cases h0 : x = 0
  · simp [h0]
  · have h1 : (x == 0) = false := by simpa using h0
    rw [h1]
    have h2 : x.natAbs < 2 ^ (x.natAbs.log2 + 1) := Nat.lt_log2_self
    have h3 : (x.natAbs : Int) = x := by omega
    have h4 : ((2 ^ (x.natAbs.log2 + 1) : Nat) : Int) = (2 : Int) ^ (x.natAbs.log2 + 1) := by norm_cast
    simp only [Bool.false_eq_true, if_false]
    omega
theorem bits_le {x : Int} {k : Nat} (h : 0 ≤ x) (hk : x < 2 ^ k) : Builtin.Int.intBits x ≤ k := by
  unfold Builtin.Int.intBits
  by_cases h0 : x = 0
  · simp [h0]
  · have h1 : (x == 0) = false := by simpa using h0
    rw [h1]
    simp only [Bool.false_eq_true, if_false]
    have h3 : x.natAbs < 2 ^ k := by
      have : ((2 ^ k : Nat) : Int) = (2 : Int) ^ k := by norm_cast
      omega
    exact (Nat.log2_lt (by omega)).mpr h3
/-- how many digits -/
noncomputable def nd (x n : Int) : Int := ((Builtin.Int.intBits x : Int) + n - 1).fdiv n
theorem nd_facts {x n : Int} (hn : 0 < n) : 0 ≤ nd x n ∧ (Builtin.Int.intBits x : Int) ≤ n * nd x n ∧ n * nd x n ≤ Builtin.Int.intBits x + n - 1 := by
  have e : nd x n = ((Builtin.Int.intBits x : Int) + n - 1) / n := Int.fdiv_eq_ediv_of_nonneg _ (by omega)
  have h1 := Int.mul_ediv_add_emod ((Builtin.Int.intBits x : Int) + n - 1) n
  have h2 := Int.emod_nonneg ((Builtin.Int.intBits x : Int) + n - 1) (show n ≠ 0 by omega)
  have h3 := Int.emod_lt_of_pos ((Builtin.Int.intBits x : Int) + n - 1) hn
  have h4 : 0 ≤ ((Builtin.Int.intBits x : Int) + n - 1) / n := Int.ediv_nonneg (by omega) (by omega)
  rw [← e] at h1 h4
  exact ⟨h4, by omega, by omega⟩
theorem nd_le {x n : Int} (hx : 0 ≤ x) (hx2 : x < 1048576) (hn : 0 < n) : nd x n ≤ 20 := by
  have h := nd_facts (x := x) hn
  have hb : Builtin.Int.intBits x ≤ 20 := bits_le hx (by simpa using hx2)
  have h1 : n * nd x n ≤ n + 19 := by omega
  by_cases h2 : nd x n ≤ 20
  · exact h2
  · have h3 : n * 21 ≤ n * nd x n := Int.mul_le_mul_of_nonneg_left (by omega) (by omega)
    omega
theorem and_high (x : Int) : ∀ k : Nat, Builtin.bitAnd x (x / 2 ^ k * 2 ^ k) = x / 2 ^ k * 2 ^ k
  | 0 => by simp [bitAnd_self]
  | k + 1 => by
    have h := and_high (x / 2) k
    have e1 : x / 2 ^ (k + 1) * 2 ^ (k + 1) = 2 * (x / 2 / 2 ^ k * 2 ^ k) := by
      rw [Int.pow_succ, Int.mul_comm (2 ^ k) 2, ← Int.ediv_ediv_of_nonneg (by decide : (0 : Int) ≤ 2), ← Int.mul_assoc, Int.mul_comm _ (2 : Int), Int.mul_assoc]
    rw [kbt_halves, e1, Int.mul_ediv_cancel_left _ (by decide : (2 : Int) ≠ 0), h, if_neg (by omega)]
    omega
theorem xor_high (x : Int) (k : Nat) : Builtin.bitXor x (x.fdiv (2 ^ k) * 2 ^ k) = x % 2 ^ k := by
  have hp : (0 : Int) < 2 ^ k := Int.pow_pos (by decide)
  rw [Int.fdiv_eq_ediv_of_nonneg x (by omega), bitXor_and, and_high]
  have h := Int.mul_ediv_add_emod x (2 ^ k)
  rw [Int.mul_comm] at h
  omega
/-- k digits of x, the least first -/
noncomputable def dg (n : Int) (x : Int) : Nat → List Int
  | 0 => []
  | k + 1 => x % 2 ^ n.toNat :: dg n (x / 2 ^ n.toNat) k
theorem dg_len (n : Int) : ∀ (k : Nat) (x : Int), (dg n x k).length = k
  | 0, _ => rfl
  | k + 1, x => by simp [dg, dg_len n k]
theorem pow_pos2 (k : Nat) : (0 : Int) < 2 ^ k := Int.pow_pos (by decide)
theorem dg_add (n : Int) : ∀ (a b : Nat) (x : Int), dg n x (a + b) = dg n x a ++ dg n (x / 2 ^ (n.toNat * a)) b
  | 0, b, x => by simp [dg]
  | a + 1, b, x => by
    rw [Nat.add_right_comm, dg, dg, dg_add n a b, List.cons_append, Int.ediv_ediv_of_nonneg (Int.le_of_lt (pow_pos2 _)), ← Int.pow_add, Nat.mul_succ, Nat.add_comm n.toNat]
theorem dg_mod (n : Int) : ∀ (a : Nat) (x : Int), dg n (x % 2 ^ (n.toNat * a)) a = dg n x a
  | 0, _ => rfl
  | a + 1, x => by
    have e : n.toNat * (a + 1) = n.toNat + n.toNat * a := by rw [Nat.mul_succ, Nat.add_comm]
    have h1 : x % 2 ^ (n.toNat * (a + 1)) % 2 ^ n.toNat = x % 2 ^ n.toNat := by
      rw [e, Int.pow_add]; exact Int.emod_emod_of_dvd x (Int.dvd_mul_right _ _)
    have h2 : x % 2 ^ (n.toNat * (a + 1)) / 2 ^ n.toNat = x / 2 ^ n.toNat % 2 ^ (n.toNat * a) := by
      rw [e, Int.pow_add]
      have hP := pow_pos2 n.toNat
      generalize (2 : Int) ^ n.toNat = P at *
      generalize hR : (2 : Int) ^ (n.toNat * a) = R
      have hRp : 0 < R := by rw [← hR]; exact pow_pos2 _
      have a1 := Int.mul_ediv_add_emod x (P * R)
      have a2 := Int.mul_ediv_add_emod x P
      have a3 := Int.mul_ediv_add_emod (x / P) R
      have a4 := Int.emod_nonneg x (show P ≠ 0 by omega)
      have a5 := Int.emod_lt_of_pos x hP
      have a6 : x / P / R = x / (P * R) := Int.ediv_ediv_of_nonneg (by omega)
      have a7 : x % (P * R) = P * (x / P % R) + x % P := by
        rw [a6] at a3
        have : P * (x / P) = P * (R * (x / (P * R)) + x / P % R) := by rw [a3]
        rw [Int.mul_add, ← Int.mul_assoc] at this
        omega
      rw [a7, Int.add_comm, Int.add_mul_ediv_left _ _ (by omega), Int.ediv_eq_zero_of_lt a4 a5, Int.zero_add]
    rw [dg, dg, h1, h2, dg_mod n a]
theorem dg_dv (n : Int) : ∀ (k : Nat) (x : Int), 0 ≤ x → x < 2 ^ (n.toNat * k) → dv n (dg n x k) = x
  | 0, x, h0, h1 => by simp at h1; simp [dg, dv]; omega
  | k + 1, x, h0, h1 => by
    have hP := pow_pos2 n.toNat
    rw [Nat.mul_succ, Int.pow_add] at h1
    have h2 : x / 2 ^ n.toNat < 2 ^ (n.toNat * k) := Int.ediv_lt_of_lt_mul hP h1
    rw [dg, dv, dg_dv n k _ (Int.ediv_nonneg h0 (by omega)) h2]
    have := Int.mul_ediv_add_emod x (2 ^ n.toNat)
    omega
theorem dg_digits (n : Int) : ∀ (k : Nat) (x : Int), Digits n (dg n x k)
  | 0, _ => fun _ h => nomatch h
  | k + 1, x => fun d hd => by
    have hP := pow_pos2 n.toNat
    rcases List.mem_cons.mp hd with rfl | hd
    · exact ⟨Int.emod_nonneg _ (by omega), Int.emod_lt_of_pos _ hP⟩
    · exact dg_digits n k _ d hd
noncomputable def put (n : Int) (ds : List Int) (i j x : Int) : List Int := ds.take i.toNat ++ dg n x (j - i).toNat ++ ds.drop j.toNat
theorem put_len {n i j x : Int} {ds : List Int} (h0 : 0 ≤ i) (h1 : i < j) (h2 : j ≤ (ds.length : Int)) : (put n ds i j x).length = ds.length := by
  simp [put, dg_len]; omega
theorem put_one {n i j x : Int} {ds : List Int} (h0 : 0 ≤ i) (h1 : i + 1 = j) (h2 : j ≤ (ds.length : Int)) (hx : 0 ≤ x) (hx2 : x < 2 ^ (n.toNat * (j - i).toNat)) : ds.set i.toNat x = put n ds i j x := by
  have e : (j - i).toNat = 1 := by omega
  rw [e, Nat.mul_one] at hx2
  have hlt : i.toNat < ds.length := by omega
  rw [put, e, dg, dg, Int.emod_eq_of_lt hx hx2, List.set_eq_take_append_cons_drop, if_pos hlt, show j.toNat = i.toNat + 1 by omega]
  simp
theorem exp_eq {n q i : Int} (hn : 0 < n) (h : i ≤ q) : ((q - i) * n).toNat = n.toNat * (q - i).toNat := by
  have h1 : ((n.toNat * (q - i).toNat : Nat) : Int) = (q - i) * n := by
    rw [Int.natCast_mul, Int.toNat_of_nonneg (by omega), Int.toNat_of_nonneg (by omega), Int.mul_comm]
  omega
theorem put_two {n i j x q : Int} {ds : List Int} (h0 : 0 ≤ i) (h1 : i < j) (h2 : j ≤ (ds.length : Int)) (hn : 0 < n) (hq : q = (i + j) / 2) (hne : i + 1 ≠ j) :
    put n (put n ds i q (Builtin.bitXor x (x.fdiv (2 ^ ((q - i) * n).toNat) * 2 ^ ((q - i) * n).toNat))) q j (x.fdiv (2 ^ ((q - i) * n).toNat)) = put n ds i j x := by
  rw [xor_high, exp_eq hn (by omega), Int.fdiv_eq_ediv_of_nonneg _ (Int.le_of_lt (pow_pos2 _))]
  have e : dg n x (j - i).toNat = dg n (x % 2 ^ (n.toNat * (q - i).toNat)) (q - i).toNat ++ dg n (x / 2 ^ (n.toNat * (q - i).toNat)) (j - q).toNat := by
    rw [dg_mod, ← dg_add, show (q - i).toNat + (j - q).toNat = (j - i).toNat by omega]
  have l1 : (ds.take i.toNat ++ dg n (x % 2 ^ (n.toNat * (q - i).toNat)) (q - i).toNat).length = q.toNat := by simp [dg_len]; omega
  have t1 : (put n ds i q (x % 2 ^ (n.toNat * (q - i).toNat))).take q.toNat = ds.take i.toNat ++ dg n (x % 2 ^ (n.toNat * (q - i).toNat)) (q - i).toNat := by
    rw [put]; exact List.take_left' l1
  have t2 : (put n ds i q (x % 2 ^ (n.toNat * (q - i).toNat))).drop j.toNat = ds.drop j.toNat := by
    rw [put, show j.toNat = q.toNat + (j - q).toNat by omega, ← List.drop_drop, List.drop_left' l1, List.drop_drop]
  rw [put, t1, t2, put, e, List.append_assoc, List.append_assoc, List.append_assoc, List.append_assoc]
theorem up_ok {n i j x q : Int} (h0 : 0 ≤ i) (h1 : i < j) (hn : 0 < n) (hq : q = (i + j) / 2) (hx : 0 ≤ x) (hx2 : x < 2 ^ (n.toNat * (j - i).toNat)) (hx3 : x < 1048576) :
    0 ≤ x.fdiv (2 ^ ((q - i) * n).toNat) ∧ x.fdiv (2 ^ ((q - i) * n).toNat) < 2 ^ (n.toNat * (j - q).toNat) ∧ x.fdiv (2 ^ ((q - i) * n).toNat) < 1048576 := by
  have hp := pow_pos2 (n.toNat * (q - i).toNat)
  rw [exp_eq hn (by omega), Int.fdiv_eq_ediv_of_nonneg _ (Int.le_of_lt hp)]
  refine ⟨Int.ediv_nonneg hx (by omega), Int.ediv_lt_of_lt_mul hp ?_, Int.lt_of_le_of_lt (Int.ediv_le_self _ hx) hx3⟩
  rw [← Int.pow_add, ← Nat.mul_add, show (j - q).toNat + (q - i).toNat = (j - i).toNat by omega]
  exact hx2
theorem up_nat {n i j x q : Int} (h0 : 0 ≤ i) (h1 : i < j) (hn : 0 < n) (hq : q = (i + j) / 2) (hx : 0 ≤ x) (hx2 : x < 2 ^ (n.toNat * (j - i).toNat)) (hx3 : x < 1048576) :
    (x.fdiv (2 ^ ((q - i) * n).toNat)).natAbs < 2 ^ 64 := by
  have h := up_ok h0 h1 hn hq hx hx2 hx3
  generalize x.fdiv _ = v at *
  omega
theorem low_ok {n i j x q : Int} (h0 : 0 ≤ i) (h1 : i < j) (hn : 0 < n) (hq : q = (i + j) / 2) (hx : 0 ≤ x) (hx3 : x < 1048576) :
    0 ≤ Builtin.bitXor x (x.fdiv (2 ^ ((q - i) * n).toNat) * 2 ^ ((q - i) * n).toNat) ∧ Builtin.bitXor x (x.fdiv (2 ^ ((q - i) * n).toNat) * 2 ^ ((q - i) * n).toNat) < 2 ^ (n.toNat * (q - i).toNat) ∧ Builtin.bitXor x (x.fdiv (2 ^ ((q - i) * n).toNat) * 2 ^ ((q - i) * n).toNat) < 1048576 := by
  have hp := pow_pos2 (n.toNat * (q - i).toNat)
  rw [xor_high, exp_eq hn (by omega)]
  refine ⟨Int.emod_nonneg _ (by omega), Int.emod_lt_of_pos _ hp, ?_⟩
  have a1 := Int.mul_ediv_add_emod x (2 ^ (n.toNat * (q - i).toNat))
  have a2 : 0 ≤ 2 ^ (n.toNat * (q - i).toNat) * (x / 2 ^ (n.toNat * (q - i).toNat)) := Int.mul_nonneg (by omega) (Int.ediv_nonneg hx (by omega))
  omega

noncomputable def Sp1 (prog : Program) (w : World) (K : Frag) (p : Program) (loose : List Str) (mean : ExcName → Option Value) (mg mb : Str → Option Value) (base : Heap) (led : Obj → List (Addr × Obj)) (f : Addr) (len : Nat) (n : Int) (k : Nat) : Prop :=
  ∀ (x i j : Int) (tx ti tj : Tok) (vs : List Value) (ds : List Int) (dp un : Nat) (gd : Option (List Code)) (cn : Str) (cs : Scope) (a : Addr) (ccd : Value) (cl : List (Str × Addr)) (outer : List Env) (A₀ : Around) (h₀ : Heap) (L : Addr) (m : Str → Option Value) (s : Shared) (Q E : Value → Shared → Prop), IntsAre vs ds → ds.length = len → 0 ≤ i → i < j → j ≤ (len : Int) → j - i ≤ (k : Int) → 0 ≤ x → x < 2 ^ (n.toNat * (j - i).toNat) → x < 1048576 →
    Below A₀ base outer h₀ → Fr h₀ L s.heap m → K.In h₀ → News h₀ L s.heap (led (W.listOf vs.toArray 0)) → Top p loose mean mg mb h₀ → cs.kind = .function → dp + k + 1 < recursionLimit → un + 8 * (k + 1) < cLine →
    (∀ (vs' : List Value) (h' : Heap) (tk' : Nat), IntsAre vs' (put n ds i j x) → Fr h₀ L h' m → News h₀ L h' (led (W.listOf vs'.toArray 0)) → Q .none { s with heap := h', toks := tk' }) →
    wpAny (model prog w) (ktrTop dp un gd cn cs L a ccd cl outer) (call (.ref f) [.int x tx, .int i ti, .int j tj]) Q E s
theorem put_all {n x : Int} {ds : List Int} {k : Nat} (h : ds.length = k) : put n ds 0 (k : Int) x = dg n x k := by
  simp [put, h.symm]
theorem sp1_start {prog : Program} {K : Frag} {w : World} {p : Program} {loose : List Str} {mean : ExcName → Option Value} {mg mb : Str → Option Value} {base : Heap} {led : List (Addr × Obj)} {g : Obj → List (Addr × Obj)} {f D : Addr} {vs : List Value} {ds : List Int} {n x : Int} {k : Nat} {tx ti tj : Tok} {dp un : Nat} {gd : Option (List Code)} {cn : Str} {cs : Scope} {a : Addr} {ccd : Value} {cl : List (Str × Addr)} {outer : List Env} {A₀ : Around} {h₀ : Heap} {L : Addr} {m : Str → Option Value} {s : Shared} {Q E : Value → Shared → Prop}
    (B : Below A₀ base outer h₀) (F : Fr h₀ L s.heap m) (X : K.In h₀) (N : News h₀ L s.heap led) (T : Top p loose mean mg mb h₀) (hk : cs.kind = .function) (_hD : (D, W.listOf vs.toArray 0) ∈ led) (U : UpdF D (W.listOf vs.toArray 0) led g)
    (I : IntsAre vs ds) (hds : ds.length = k) (hl : 0 < k) (hx : 0 ≤ x) (hx2 : x < 2 ^ (n.toNat * k)) (hx3 : x < 1048576) (hdp : dp + k + 1 < recursionLimit) (hun : un + 8 * (k + 1) < cLine)
    (key : ∀ j, Sp1 prog w K p loose mean mg mb base g f k n j)
    (ret : ∀ (vs' : List Value) (h' : Heap) (tk' : Nat), IntsAre vs' (dg n x k) → Fr h₀ L h' m → News h₀ L h' (g (W.listOf vs'.toArray 0)) → Q .none { s with heap := h', toks := tk' }) :
    wpAny (model prog w) (ktrTop dp un gd cn cs L a ccd cl outer) (call (.ref f) [.int x tx, .int 0 ti, .int (k : Int) tj]) Q E s := by
  obtain ⟨pre, post, rfl, hg, _, _⟩ := U.split
  refine key k x 0 k tx ti tj vs ds dp un gd cn cs a ccd cl outer A₀ h₀ L m s Q E I hds (Int.le_refl _) (by omega) (Int.le_refl _) (by omega) hx (by simpa using hx2) hx3 B F X (by rw [hg]; exact N) T hk hdp hun (fun vs' h' tk' I' F' N' => ?_)
  rw [put_all hds] at I'
  exact ret vs' h' tk' I' F' N'
theorem nd_pos {x n : Int} (hn : 0 < n) (hx : x ≠ 0) : 0 < ((Builtin.Int.intBits x : Int) + n - 1).fdiv n := by
  have h := nd_facts (x := x) hn
  have h2 := bits_pos hx
  unfold nd at h
  generalize ((Builtin.Int.intBits x : Int) + n - 1).fdiv n = v at *
  by_cases h3 : 0 < v
  · exact h3
  · have : n * v ≤ n * 0 := Int.mul_le_mul_of_nonneg_left (by omega) (by omega)
    omega
theorem x_lt {x n : Int} {k : Nat} (hx : 0 ≤ x) (hn : 0 < n) (hk : (k : Int) = ((Builtin.Int.intBits x : Int) + n - 1).fdiv n) : x < 2 ^ (n.toNat * k) := by
  have h := nd_facts (x := x) hn
  unfold nd at h
  rw [← hk] at h
  have h2 : Builtin.Int.intBits x ≤ n.toNat * k := by
    have : ((n.toNat * k : Nat) : Int) = n * k := by rw [Int.natCast_mul, Int.toNat_of_nonneg (by omega)]
    omega
  have h3 : (2 : Int) ^ Builtin.Int.intBits x ≤ 2 ^ (n.toNat * k) := by exact_mod_cast Nat.pow_le_pow_right (by decide) h2
  have := lt_bits hx
  omega
theorem ints_cast {x n : Int} {k : Nat} {vs : List Value} (h : IntsAre vs (dg n x k)) (hk : (k : Int) = ((Builtin.Int.intBits x : Int) + n - 1).fdiv n) : IntsAre vs (dg n x (nd x n).toNat) := by
  have e : (nd x n).toNat = k := by unfold nd; omega
  rw [e]; exact h
theorem ints_zero {x n : Int} {k : Nat} {vs : List Value} {l : List Int} (h : IntsAre vs l) (hl : l.length = k) (hx : x = 0) (hn : 0 < n) (hk : (k : Int) = ((Builtin.Int.intBits x : Int) + n - 1).fdiv n) : IntsAre vs (dg n x (nd x n).toNat) := by
  have h0 : Builtin.Int.intBits x = 0 := by rw [hx]; rfl
  have h1 := nd_facts (x := x) hn
  unfold nd at h1 ⊢
  rw [← hk, h0] at h1
  rw [← hk]
  have hk0 : k = 0 := by
    by_cases h3 : k = 0
    · exact h3
    · have : n * 1 ≤ n * (k : Int) := Int.mul_le_mul_of_nonneg_left (by omega) (by omega)
      omega
  subst hk0
  rw [List.length_eq_zero_iff.mp hl] at h
  exact h
theorem restLt_mono {r : List (Addr × Obj)} {L d : Addr} (h : RestLt r L) (hd : @LE.le Nat _ L d) : RestLt r d := fun p hp => Nat.lt_of_lt_of_le (h p hp) hd
theorem off_of {I : Addr} {it : Obj} : ∀ {l : List (Addr × Obj)}, (∀ p ∈ l, p.1 ≠ I) → OffI I it l
  | [], _ => trivial
  | p :: r, h => ⟨.inl (h p (.head _)), off_of fun q hq => h q (.tail _ hq)⟩
noncomputable def KrEnd {σ : Type} (h₀ : Heap) (L : Addr) (s : Shared) (I : Addr) (it : Obj) (Led : σ → List (Addr × Obj)) (ps : σ → List (Str × Value)) (Facts : σ → Prop) (stored : List Str) (m₀ : Str → Option Value) (P : List Int → σ → Prop) (pre : List Int) (s₂ : Shared) : Prop :=
  ∃ (c' : σ) (h' : Heap) (tk : Nat) (m' : Str → Option Value) (news' : List (Addr × Obj)), s₂ = { s with heap := h', toks := tk } ∧ Fr h₀ L h' m' ∧ News h₀ L h' news' ∧ (I, it) ∈ news' ∧ (∀ p ∈ Led c', p ∈ news') ∧ Facts c' ∧ (∀ p ∈ ps c', m' p.1 = some p.2) ∧ (∀ z, (∀ p ∈ ps c', z ≠ p.1) → stored.contains z = false → m' z = m₀ z) ∧ P pre c'
noncomputable def KrPost {σ : Type} (h₀ : Heap) (L : Addr) (s : Shared) (I : Addr) (it : Obj) (Led : σ → List (Addr × Obj)) (ps : σ → List (Str × Value)) (Facts : σ → Prop) (stored : List Str) (m₀ : Str → Option Value) (P : List Int → σ → Prop) (pre : List Int) (Q : Flow → Shared → Prop) (f : Flow) (s₂ : Shared) : Prop :=
  match f with
  | .ret v => Q (.ret v) s₂
  | .brk => Q .next s₂
  | _ => KrEnd h₀ L s I it Led ps Facts stored m₀ P pre s₂
theorem kr_map {ps : List (Str × Value)} {stored : List Str} {m₀ m₁ : Str → Option Value} (h1 : ∀ p ∈ ps, m₁ p.1 = some p.2) (h2 : ∀ z, (∀ p ∈ ps, z ≠ p.1) → stored.contains z = false → m₁ z = m₀ z) :
    kstB (fun z => if stored.contains z then m₁ z else m₀ z) ps = m₁ := by
  funext y
  refine kstB_eq h1 fun hn => ?_
  show (if stored.contains y = true then m₁ y else m₀ y) = m₁ y
  cases h3 : stored.contains y with
  | true => simp
  | false => simp only [Bool.false_eq_true, if_false]; exact (h2 y hn h3).symm
theorem krev {σ : Type} {prog : Program} {w : World} {A : Around} {E : Value → Shared → Prop} {s : Shared} {env : Env} {h₀ : Heap} {x : Str} {body : List Stmt} {Q : Flow → Shared → Prop} {ax I : Addr} {vs : List Value} {ns : List Int} {n : Nat} {m₀ : Str → Option Value}
    (Led : σ → List (Addr × Obj)) (ps : σ → List (Str × Value)) (Facts : σ → Prop) (stored : List Str) (P : List Int → σ → Prop) (c₀ : σ)
    (hh : A.handled = none) (F : Fr h₀ env.locals s.heap m₀) (N : News h₀ env.locals s.heap ((I, revObj ax ((vs.length : Int) - 1)) :: Led c₀)) (hof : ∀ c, ∀ p ∈ Led c, p.1 ≠ I) (hm : ∀ c, (ax, W.listOf vs.toArray n) ∈ Led c)
    (hi : IntsAre vs ns) (hf : Facts c₀) (hk : ∀ p ∈ ps c₀, m₀ p.1 = some p.2) (hp : P [] c₀)
    (turn : ∀ (pre : List Int) (d : Int) (post : List Int) (c : σ) (u : Str → Option Value) (it : Obj) (t : Tok) (h : Heap) (tk : Nat), ns.reverse = pre ++ d :: post → Facts c → P pre c →
      Fr h₀ env.locals h (fun y => if y = x then some (.int d t) else kstB (fun z => if stored.contains z then u z else m₀ z) (ps c) y) → News h₀ env.locals h ((I, it) :: Led c) →
      wpAny (model prog w) A (execs body env) (KrPost h₀ env.locals s I it Led ps Facts stored m₀ P (pre ++ [d]) Q) E { s with heap := h, toks := tk })
    (done : ∀ (c : σ) (u : Str → Option Value) (h : Heap) (tk : Nat), Facts c → P ns.reverse c → Fr h₀ env.locals h (kstB (fun z => if stored.contains z then u z else m₀ z) (ps c)) → News h₀ env.locals h (Led c) → Q .next { s with heap := h, toks := tk }) :
    wpAny (model prog w) A (pyIter (.ref I)) (fun it s₂ => LoopAtV prog w A h₀ env x body Q E it s₂) E s := by
  refine iter_revUnr (lo := W.listOf vs.toArray n) (n := n) hh F N (off_of (hof c₀)) (hm c₀) rfl rfl ?_
  have key : ∀ (r : List Value) (rn pre : List Int), IntsAre r rn → ns.reverse = pre ++ rn → ∀ (c : σ) (m₁ : Str → Option Value), (∀ p ∈ ps c, m₁ p.1 = some p.2) → (∀ z, (∀ p ∈ ps c, z ≠ p.1) → stored.contains z = false → m₁ z = m₀ z) → Facts c → P pre c →
      RevRest prog w A E h₀ env x body Q s I (ax, W.listOf vs.toArray n) r m₁ (Led c) := by
    intro r
    induction r with
    | nil =>
      intro rn pre hr hn c m₁ h1 h2 hf hp
      cases hr
      rw [List.append_nil] at hn
      refine RevRest.zero fun h tk F N => done c m₁ h tk hf (by rw [hn]; exact hp) (by rw [kr_map h1 h2]; exact F) N
    | cons v r ih =>
      intro rn pre hr hn c m₁ h1 h2 hf hp
      cases hr with
      | cons d t hr =>
        rename_i rn
        refine RevRest.succ fun it h tk _ F N => ?_
        refine wpAny_mono (turn pre d rn c m₁ it t h tk hn hf hp (by rw [kr_map h1 h2]; exact F) N) (fun f s₂ q => ?_) fun _ _ e => e
        have go : KrEnd h₀ env.locals s I it Led ps Facts stored m₀ P (pre ++ [d]) s₂ → UnrEnd h₀ env.locals { s with heap := h, toks := tk } I it (fun m' n' => (ax, W.listOf vs.toArray n) ∈ n' ∧ RevRest prog w A E h₀ env x body Q s I (ax, W.listOf vs.toArray n) r m' n') s₂ := by
          rintro ⟨c', h', tk', m', news', rfl, F', N', hI, hL, hf', h1', h2', hp'⟩
          exact ⟨h', tk', m', Led c', rfl, F', fun p hp => N' p (by
            rcases List.mem_cons.mp hp with rfl | hp
            · exact hI
            · exact hL p hp), hof c', hm c', ih rn (pre ++ [d]) hr (by rw [hn]; simp) c' m' h1' h2' hf' hp'⟩
        cases f with
        | ret v => exact q
        | brk => exact q
        | next => exact go q
        | cont => exact go q
  exact key vs.reverse ns.reverse [] (PyProof.Rows.IntsAre.reverse hi) rfl c₀ m₀ hk (fun _ _ _ => rfl) hf hp
/-- long division, digit by digit from the highest: what holds behind the digits pre -/
noncomputable def LD (n y : Int) (pre : List Int) (r : Int) (qn : List Int) : Prop :=
  0 ≤ r ∧ r < y ∧ qn.length = pre.length ∧ Digits n qn ∧ dv n pre.reverse = y * dv n qn.reverse + r
theorem ld_start {n y : Int} (hy : 0 < y) : LD n y [] 0 [] := ⟨Int.le_refl _, hy, rfl, (fun _ h => nomatch h), by simp [dv]⟩
theorem ld_turn {n y r d : Int} {pre qn : List Int} (hy : 0 < y) (h : LD n y pre r qn) (hd : 0 ≤ d ∧ d < 2 ^ n.toNat) :
    LD n y (pre ++ [d]) ((r * 2 ^ n.toNat + d).fmod y) (qn ++ [(r * 2 ^ n.toNat + d).fdiv y]) := by
  obtain ⟨h1, h2, h3, h4, h5⟩ := h
  have hP := pow_pos2 n.toNat
  rw [Int.fmod_eq_emod_of_nonneg _ (by omega), Int.fdiv_eq_ediv_of_nonneg _ (by omega)]
  have hx0 : 0 ≤ r * 2 ^ n.toNat := Int.mul_nonneg h1 (by omega)
  have hx1 : r * 2 ^ n.toNat ≤ (y - 1) * 2 ^ n.toNat := Int.mul_le_mul_of_nonneg_right (by omega) (by omega)
  have hx2 : (y - 1) * 2 ^ n.toNat = y * 2 ^ n.toNat - 2 ^ n.toNat := by rw [Int.sub_mul, Int.one_mul]
  refine ⟨Int.emod_nonneg _ (by omega), Int.emod_lt_of_pos _ hy, by simp [h3], ?_, ?_⟩
  · intro q hq
    rcases List.mem_append.mp hq with hq | hq
    · exact h4 q hq
    · rw [List.mem_singleton.mp hq]
      refine ⟨Int.ediv_nonneg (by omega) (by omega), Int.ediv_lt_of_lt_mul hy ?_⟩
      rw [Int.mul_comm (2 ^ n.toNat) y]
      omega
  · have e := Int.mul_ediv_add_emod (r * 2 ^ n.toNat + d) y
    simp only [List.reverse_append, List.reverse_cons, List.reverse_nil, List.nil_append, List.singleton_append, dv, h5]
    rw [Int.mul_add, Int.mul_add, Int.mul_comm (2 ^ n.toNat) r, ← Int.mul_assoc, Int.mul_comm (2 ^ n.toNat) y, Int.mul_assoc]
    generalize y * (2 ^ n.toNat * dv n qn.reverse) = u at *
    omega
theorem ld_end {n y x r : Int} {k : Nat} {qn : List Int} (hx : 0 ≤ x) (hxk : x < 2 ^ (n.toNat * k)) (hy : 0 < y) (h : LD n y (dg n x k).reverse r qn) : dv n qn.reverse = x / y ∧ r = x % y := by
  obtain ⟨h1, h2, _, _, h5⟩ := h
  rw [List.reverse_reverse, dg_dv n k x hx hxk] at h5
  have := Int.ediv_emod_unique hy (a := x) (r := r) (q := dv n qn.reverse)
  have h6 := this.mpr ⟨by omega, h1, h2⟩
  exact ⟨h6.1.symm, h6.2.symm⟩
theorem pos_loop {prog : Program} {w : World} {A : Around} {E : Value → Shared → Prop} {s : Shared} {env : Env} {h₀ : Heap} {x : Str} {body : List Stmt} {Q : Flow → Shared → Prop} {ax I q : Addr} {vs : List Value} {ns : List Int} {m₀ : Str → Option Value} {tl : List (Addr × Obj)} {n y : Int} {t₀ : Tok}
    (stored : List Str) (hh : A.handled = none) (F : Fr h₀ env.locals s.heap m₀) (N : News h₀ env.locals s.heap ((I, revObj ax ((vs.length : Int) - 1)) :: (q, W.listOf #[] 0) :: (ax, W.listOf vs.toArray 0) :: tl)) (hof : RestOff tl I) (hq : q ≠ I) (hax : ax ≠ I) (hy : 0 < y)
    (hi : IntsAre vs ns) (hk : m₀ (Str.ofString "r") = some (.int 0 t₀))
    (turn : ∀ (pre : List Int) (d : Int) (post : List Int) (r : Int) (tr : Tok) (qs : List Value) (qn : List Int) (c : Nat) (u : Str → Option Value) (it : Obj) (t : Tok) (h : Heap) (tk : Nat), ns.reverse = pre ++ d :: post → IntsAre qs qn → LD n y pre r qn →
      Fr h₀ env.locals h (fun y => if y = x then some (.int d t) else kstB (fun z => if stored.contains z then u z else m₀ z) [(Str.ofString "r", .int r tr)] y) → News h₀ env.locals h ((I, it) :: (q, W.listOf qs.toArray c) :: (ax, W.listOf vs.toArray 0) :: tl) →
      wpAny (model prog w) A (execs body env) (KrPost (σ := Int × Tok × List Value × List Int × Nat) h₀ env.locals s I it (fun c => (q, W.listOf c.2.2.1.toArray c.2.2.2.2) :: (ax, W.listOf vs.toArray 0) :: tl) (fun c => [(Str.ofString "r", .int c.1 c.2.1)]) (fun c => IntsAre c.2.2.1 c.2.2.2.1) stored m₀ (fun pre c => LD n y pre c.1 c.2.2.2.1) (pre ++ [d]) Q) E { s with heap := h, toks := tk })
    (done : ∀ (r : Int) (tr : Tok) (qs : List Value) (qn : List Int) (c : Nat) (u : Str → Option Value) (h : Heap) (tk : Nat), IntsAre qs qn → LD n y ns.reverse r qn → Fr h₀ env.locals h (kstB (fun z => if stored.contains z then u z else m₀ z) [(Str.ofString "r", .int r tr)]) → News h₀ env.locals h ((q, W.listOf qs.toArray c) :: (ax, W.listOf vs.toArray 0) :: tl) → Q .next { s with heap := h, toks := tk }) :
    wpAny (model prog w) A (pyIter (.ref I)) (fun it s₂ => LoopAtV prog w A h₀ env x body Q E it s₂) E s := by
  refine krev (σ := Int × Tok × List Value × List Int × Nat) (n := 0) (ns := ns) (fun c => (q, W.listOf c.2.2.1.toArray c.2.2.2.2) :: (ax, W.listOf vs.toArray 0) :: tl) (fun c => [(Str.ofString "r", .int c.1 c.2.1)]) (fun c => IntsAre c.2.2.1 c.2.2.2.1) stored (fun pre c => LD n y pre c.1 c.2.2.2.1) (0, t₀, [], [], 0)
    hh F N ?_ ?_ hi .nil ?_ (ld_start hy) ?_ ?_
  · intro c p hp
    rcases List.mem_cons.mp hp with rfl | hp
    · exact hq
    · rcases List.mem_cons.mp hp with rfl | hp
      · exact hax
      · exact hof p hp
  · exact fun c => .tail _ (.head _)
  · exact List.forall_mem_cons.mpr ⟨hk, fun _ h => nomatch h⟩
  · rintro pre d post ⟨r, tr, qs, qn, c⟩ u it t h tk e hf hp F N
    exact turn pre d post r tr qs qn c u it t h tk e hf hp F N
  · rintro ⟨r, tr, qs, qn, c⟩ u h tk hf hp F N
    exact done r tr qs qn c u h tk hf hp F N
theorem dg_mem {n x : Int} {k : Nat} {pre post : List Int} {d : Int} (h : (dg n x k).reverse = pre ++ d :: post) : 0 ≤ d ∧ d < 2 ^ n.toNat :=
  dg_digits n k x d (List.mem_reverse.mp (by rw [h]; exact List.mem_append_right _ (.head _)))
theorem ld_bits {n y r d : Int} {pre qn : List Int} (h : LD n y pre r qn) (hd : 0 ≤ d ∧ d < 2 ^ n.toNat) (hy2 : y < 1048576) (hn : 0 < n) (hn2 : n ≤ 20) : (Builtin.Int.intBits (r * 2 ^ n.toNat + d) : Int) - n ≤ 4000 := by
  obtain ⟨h1, h2, _⟩ := h
  have hP := pow_pos2 n.toNat
  have hP2 : (2 : Int) ^ n.toNat ≤ 2 ^ 20 := by exact_mod_cast Nat.pow_le_pow_right (by decide) (show n.toNat ≤ 20 by omega)
  have hP3 : (2 : Int) ^ 20 = 1048576 := by decide
  have a1 : 0 ≤ r * 2 ^ n.toNat := Int.mul_nonneg h1 (by omega)
  have a2 : r * 2 ^ n.toNat ≤ 1048576 * 1048576 := Int.mul_le_mul (by omega) (by omega) (by omega) (by decide)
  have := bits_le (x := r * 2 ^ n.toNat + d) (k := 60) (by omega) (by have : (2 : Int) ^ 60 = 1152921504606846976 := by decide
                                                                      omega)
  omega
theorem ld_len {n y x r d : Int} {k : Nat} {pre post qn : List Int} {qs : List Value} (h : LD n y pre r qn) (hI : IntsAre qs qn) (e : (dg n x k).reverse = pre ++ d :: post) : qs.length < k := by
  have h1 := congrArg List.length e
  have h2 := hI.length
  have h3 := h.2.2.1
  simp only [List.length_reverse, dg_len, List.length_append, List.length_cons] at h1
  omega
theorem nd_le' {x n : Int} (hx : 0 ≤ x) (hx2 : x < 1048576) (hn : 0 < n) : (nd x n).toNat ≤ 20 := by
  have := nd_le hx hx2 hn
  omega
theorem sub_swap {a b c : List (Addr × Obj)} : ∀ p ∈ a ++ (b ++ c), p ∈ b ++ (a ++ c) := fun p hp => by
  rcases List.mem_append.mp hp with h | h
  · exact List.mem_append_right _ (List.mem_append_left _ h)
  · rcases List.mem_append.mp h with h | h
    · exact List.mem_append_left _ h
    · exact List.mem_append_right _ (List.mem_append_right _ h)
theorem ap_swap {a b c : List (Addr × Obj)} (h1 : Ap a (b ++ c)) (h2 : Ap b c) : Ap b (a ++ c) := fun p hp q hq => by
  rcases List.mem_append.mp hq with h | h
  · exact (h1 q h p (List.mem_append_left _ hp)).symm
  · exact h2 p hp q h
theorem ap_right {a b c : List (Addr × Obj)} (h1 : Ap a (b ++ c)) : Ap a c := fun p hp q hq => h1 p hp q (List.mem_append_right _ hq)
theorem digits_rev {n : Int} {l : List Int} (h : Digits n l) : Digits n l.reverse := fun d hd => h d (List.mem_reverse.mp hd)
theorem nd_prod {x n : Int} (hx : 0 ≤ x) (hx2 : x < 1048576) (hn : 0 < n) (hn2 : n ≤ 20) {k : Nat} (hk : k = (nd x n).toNat) : n * (k : Int) ≤ 60 := by
  have h := nd_facts (x := x) hn
  have hb : Builtin.Int.intBits x ≤ 20 := bits_le hx (by simpa using hx2)
  have e : (k : Int) = nd x n := by omega
  rw [e]; omega
theorem small_size {k : Nat} (h : k ≤ 20) : k ≤ sizeLine := by
  unfold sizeLine; omega
theorem pos_end {n y x r : Int} {qn : List Int} (hx : 0 ≤ x) (hn : 0 < n) (hy : 0 < y) (h : LD n y (dg n x (nd x n).toNat).reverse r qn) : dv n qn.reverse = x / y ∧ r = x % y :=
  ld_end hx (x_lt hx hn (by have := (nd_facts (x := x) hn).1; unfold nd at this ⊢; omega)) hy h
/-- what parse257 tells of the signs behind the opening quote -/
noncomputable def pq : List Nat → List Nat
  | [] => []
  | c :: r => if c = 34 then (match r with | [] => [] | d :: r' => if d = 34 then 34 :: pq r' else []) else c :: pq r
theorem pq_quote (r : List Nat) : pq (34 :: 34 :: r) = 34 :: pq r := by simp [pq]
theorem pq_other {c : Nat} (h : c ≠ 34) (r : List Nat) : pq (c :: r) = c :: pq r := by rw [pq.eq_def]; simp [h]
theorem pq_one : pq [34] = [] := by simp [pq]
theorem pq_stop {c : Nat} (h : c ≠ 34) (r : List Nat) : pq (34 :: c :: r) = [] := by simp [pq, h]
theorem pq_nil : pq [] = [] := by simp [pq]
noncomputable def PInv (x : Str) (i : Int) (d : Str) : Prop := 5 ≤ i ∧ i ≤ (x.length : Int) ∧ (d.length : Int) ≤ i ∧ d.cps.toList ++ pq (x.cps.toList.drop i.toNat) = pq (x.cps.toList.drop 5)
theorem item_is {x : Str} {i : Int} (h0 : 0 ≤ i) (h1 : i < (x.length : Int)) : ∃ c, x.cps.toList.drop i.toNat = c :: x.cps.toList.drop (i.toNat + 1) ∧ Txt.item x i = ⟨#[c]⟩ := by
  have hlt : i.toNat < x.cps.toList.length := by
    have : x.length = x.cps.toList.length := by simp [Str.length]
    omega
  refine ⟨x.cps.toList[i.toNat], List.drop_eq_getElem_cons hlt, ?_⟩
  have e : seqIndex? i x.length = some i.toNat := by
    have hn : ¬ i < 0 := by omega
    have h2 : (decide (0 ≤ i) && decide (i < (x.length : Int))) = true := by simp; omega
    unfold seqIndex?
    simp only [hn, if_false]
    rw [if_pos h2]
  unfold Txt.item Txt.charAt
  rw [e]
  have h2 : x.cps[i.toNat]? = some x.cps.toList[i.toNat] := by
    rw [← Array.getElem?_toList]; exact List.getElem?_eq_getElem hlt
  simp [h2]
theorem quote_is : Str.ofString "\"" = ⟨#[34]⟩ := by decide +kernel
theorem item_quote {x : Str} {i : Int} (h0 : 0 ≤ i) (h1 : i < (x.length : Int)) (h : (Txt.item x i == Str.ofString "\"") = true) : x.cps.toList.drop i.toNat = 34 :: x.cps.toList.drop (i.toNat + 1) ∧ Txt.item x i = ⟨#[34]⟩ := by
  obtain ⟨c, e1, e2⟩ := item_is h0 h1
  rw [e2, quote_is] at h
  have hc : c = 34 := by simpa using h
  subst hc
  exact ⟨e1, e2⟩
theorem item_other {x : Str} {i : Int} (h0 : 0 ≤ i) (h1 : i < (x.length : Int)) (h : (Txt.item x i == Str.ofString "\"") = false) : ∃ c, c ≠ 34 ∧ x.cps.toList.drop i.toNat = c :: x.cps.toList.drop (i.toNat + 1) ∧ Txt.item x i = ⟨#[c]⟩ := by
  obtain ⟨c, e1, e2⟩ := item_is h0 h1
  rw [e2, quote_is] at h
  exact ⟨c, by simpa using h, e1, e2⟩
theorem pinv_start {x : Str} (h : 5 ≤ x.length) : PInv x 5 (Str.ofString "") := ⟨by omega, by omega, by decide +kernel, by
  have : (Str.ofString "").cps.toList = [] := by decide +kernel
  rw [this]; rfl⟩
theorem pinv_other {x d : Str} {i : Int} (hp : PInv x i d) (h1 : i < (x.length : Int)) (h : (Txt.item x i == Str.ofString "\"") = false) : PInv x (i + 1) (d ++ Txt.item x i) := by
  obtain ⟨a1, a2, a3, a4⟩ := hp
  obtain ⟨c, hc, e1, e2⟩ := item_other (by omega) h1 h
  rw [e2]
  refine ⟨by omega, by omega, ?_, ?_⟩
  · have : (d ++ (⟨#[c]⟩ : Str)).length = d.length + 1 := by show (d.cps ++ #[c]).size = _; simp [Str.length]
    rw [this]; omega
  · rw [← a4, e1, pq_other hc, show (i + 1).toNat = i.toNat + 1 by omega]
    show (d.cps ++ #[c]).toList ++ _ = _
    simp
theorem pinv_quote {x d : Str} {i : Int} (hp : PInv x i d) (h1 : ¬ (x.length : Int) ≤ i + 1) (h : (Txt.item x i == Str.ofString "\"") = true) (h' : (Txt.item x (i + 1) != Str.ofString "\"") = false) : PInv x (i + 1 + 1) (d ++ Txt.item x i) := by
  obtain ⟨a1, a2, a3, a4⟩ := hp
  obtain ⟨e1, e2⟩ := item_quote (by omega) (by omega) h
  obtain ⟨e3, _⟩ := item_quote (x := x) (i := i + 1) (by omega) (by omega) (by simpa [bne] using h')
  rw [e2]
  refine ⟨by omega, by omega, ?_, ?_⟩
  · have : (d ++ (⟨#[34]⟩ : Str)).length = d.length + 1 := by show (d.cps ++ #[34]).size = _; simp [Str.length]
    rw [this]; omega
  · rw [show (i + 1).toNat = i.toNat + 1 by omega] at e3
    rw [← a4, e1, e3, pq_quote, show (i + 1 + 1).toNat = i.toNat + 1 + 1 by omega]
    show (d.cps ++ #[34]).toList ++ _ = _
    simp
theorem pend_of {x d : Str} {i : Int} (hp : PInv x i d) (h : pq (x.cps.toList.drop i.toNat) = []) : d = ⟨(pq (x.cps.toList.drop 5)).toArray⟩ := by
  obtain ⟨_, _, _, a4⟩ := hp
  rw [← a4, h, List.append_nil]
theorem pend_out {x d : Str} {i : Int} (hp : PInv x i d) (h : ¬ i < (x.length : Int)) : d = ⟨(pq (x.cps.toList.drop 5)).toArray⟩ := by
  refine pend_of hp ?_
  have := hp.1
  rw [List.drop_of_length_le (by have : x.length = x.cps.toList.length := by simp [Str.length]
                                 omega), pq_nil]
theorem pend_last {x d : Str} {i : Int} (hp : PInv x i d) (h1 : i < (x.length : Int)) (h2 : (x.length : Int) ≤ i + 1) (h : (Txt.item x i == Str.ofString "\"") = true) : d = ⟨(pq (x.cps.toList.drop 5)).toArray⟩ := by
  refine pend_of hp ?_
  have := hp.1
  obtain ⟨e1, _⟩ := item_quote (by omega) h1 h
  rw [e1, List.drop_of_length_le (by have : x.length = x.cps.toList.length := by simp [Str.length]
                                     omega), pq_one]
theorem pend_next {x d : Str} {i : Int} (hp : PInv x i d) (h1 : i < (x.length : Int)) (h2 : ¬ (x.length : Int) ≤ i + 1) (h : (Txt.item x i == Str.ofString "\"") = true) (h' : (Txt.item x (i + 1) != Str.ofString "\"") = true) : d = ⟨(pq (x.cps.toList.drop 5)).toArray⟩ := by
  refine pend_of hp ?_
  have := hp.1
  obtain ⟨e1, _⟩ := item_quote (by omega) h1 h
  obtain ⟨c, hc, e3, _⟩ := item_other (x := x) (i := i + 1) (by omega) (by omega) (by simpa [bne] using h')
  rw [show (i + 1).toNat = i.toNat + 1 by omega] at e3
  rw [e1, e3, pq_stop hc]
theorem pst {x d : Str} {i : Int} (h : PInv x i d) : 5 ≤ i ∧ i ≤ (x.length : Int) ∧ (d.length : Int) ≤ i ∧ PInv x i d := ⟨h.1, h.2.1, h.2.2.1, h⟩
theorem str_q {Q : Value → Shared → Prop} {d e : Str} {t : Tok} {s : Shared} (hd : d = e) (h : Q (.str e t) s) : Q (.str d t) s := hd ▸ h
noncomputable def mx3 (x y z : UInt64) : UInt64 := if (Float64.cmp (if (Float64.cmp x y == some .lt) = true then y else x) z == some .lt) = true then z else (if (Float64.cmp x y == some .lt) = true then y else x)
noncomputable def mn3 (x y z : UInt64) : UInt64 := if (Float64.cmp z (if (Float64.cmp y x == some .lt) = true then y else x) == some .lt) = true then z else (if (Float64.cmp y x == some .lt) = true then y else x)
theorem max3_num {prog : Program} {w : World} {A : Around} {E : Value → Shared → Prop} {s : Shared} {Q : Value → Shared → Prop} {a b c : Value} (hh : A.handled = none) (ha : PySem.Flt.NumV a) (hb : PySem.Flt.NumV b) (hc : PySem.Flt.NumV c)
    (h : ∀ h' tk, (∀ c o, s.heap.get? c = some o → h'.get? c = some o) → Q (if PySem.Flt.ltV (if PySem.Flt.ltV a b then b else a) c then c else (if PySem.Flt.ltV a b then b else a)) { s with heap := h', toks := tk }) :
    wpAny (model prog w) A (call (.builtin "max") [a, b, c]) Q E s := by
  have hT : (s.heap.push { cls := .type "tuple", data := .seq #[a, b, c] }).IsTuple s.heap.objs.size #[a, b, c] := ⟨_, Heap.get?_push_size _ rfl, rfl, 0, rfl⟩
  refine call_max_three (wpAny_pyIter_tuple hT ?_)
  have hsz : (s.heap.push { cls := .type "tuple", data := .seq #[a, b, c] }).objs.size = s.heap.objs.size + 1 := Heap.size_push ..
  refine ⟨_, [_, s.heap.objs.size], [_], _, _, _, _, rfl, Walks.tuple (A := A.in1) hh _ s.heap.objs.size (by rw [hsz]; exact Nat.ne_of_lt (Nat.lt_succ_self _)) #[a, b, c],
    ⟨⟨_, Heap.get?_push_size _ rfl, rfl, rfl⟩, hT.push _⟩, fun c hc => ?_, by simp, PySem.Flt.cmpOf_gt #[a, b, c] (by simp [ha, hb, hc]), fun v h' tk hP hk => ?_⟩
  · show c < ((s.heap.push _).push _).objs.size
    rw [Heap.size_push, hsz]
    rcases List.mem_cons.mp hc with rfl | hc
    · rw [hsz]; exact Nat.lt_succ_self _
    · rcases List.mem_cons.mp hc with rfl | hc
      · exact Nat.lt_succ_of_lt (Nat.lt_succ_self _)
      · cases hc
  · have hold : ∀ c o, s.heap.get? c = some o → h'.get? c = some o := fun c o e => by
      refine hk c o (fun hm => ?_) (Heap.get?_push_of_some _ (Heap.get?_push_of_some _ e))
      rcases List.mem_cons.mp hm with e1 | hm
      · have := Heap.lt_size e; rw [e1, hsz] at this; exact Nat.lt_irrefl _ (Nat.lt_of_succ_lt this)
      · cases hm
    have := h h' tk hold
    have hv : v = if PySem.Flt.ltV (if PySem.Flt.ltV a b then b else a) c then c else (if PySem.Flt.ltV a b then b else a) := by
      cases q1 : PySem.Flt.ltV a b <;> cases q2 : PySem.Flt.ltV a c <;> cases q3 : PySem.Flt.ltV b c <;> simp [argBest, q1, q2, q3] at hP <;> (subst hP; simp [q1, q2, q3])
    rw [hv]; exact this
theorem min3_num {prog : Program} {w : World} {A : Around} {E : Value → Shared → Prop} {s : Shared} {Q : Value → Shared → Prop} {a b c : Value} (hh : A.handled = none) (ha : PySem.Flt.NumV a) (hb : PySem.Flt.NumV b) (hc : PySem.Flt.NumV c)
    (h : ∀ h' tk, (∀ c o, s.heap.get? c = some o → h'.get? c = some o) → Q (if PySem.Flt.ltV c (if PySem.Flt.ltV b a then b else a) then c else (if PySem.Flt.ltV b a then b else a)) { s with heap := h', toks := tk }) :
    wpAny (model prog w) A (call (.builtin "min") [a, b, c]) Q E s := by
  have hT : (s.heap.push { cls := .type "tuple", data := .seq #[a, b, c] }).IsTuple s.heap.objs.size #[a, b, c] := ⟨_, Heap.get?_push_size _ rfl, rfl, 0, rfl⟩
  refine call_min_three (wpAny_pyIter_tuple hT ?_)
  have hsz : (s.heap.push { cls := .type "tuple", data := .seq #[a, b, c] }).objs.size = s.heap.objs.size + 1 := Heap.size_push ..
  refine ⟨_, [_, s.heap.objs.size], [_], _, _, _, _, rfl, Walks.tuple (A := A.in1) hh _ s.heap.objs.size (by rw [hsz]; exact Nat.ne_of_lt (Nat.lt_succ_self _)) #[a, b, c],
    ⟨⟨_, Heap.get?_push_size _ rfl, rfl, rfl⟩, hT.push _⟩, fun c hc => ?_, by simp, PySem.Flt.cmpOf_lt #[a, b, c] (by simp [ha, hb, hc]), fun v h' tk hP hk => ?_⟩
  · show c < ((s.heap.push _).push _).objs.size
    rw [Heap.size_push, hsz]
    rcases List.mem_cons.mp hc with rfl | hc
    · rw [hsz]; exact Nat.lt_succ_self _
    · rcases List.mem_cons.mp hc with rfl | hc
      · exact Nat.lt_succ_of_lt (Nat.lt_succ_self _)
      · cases hc
  · have hold : ∀ c o, s.heap.get? c = some o → h'.get? c = some o := fun c o e => by
      refine hk c o (fun hm => ?_) (Heap.get?_push_of_some _ (Heap.get?_push_of_some _ e))
      rcases List.mem_cons.mp hm with e1 | hm
      · have := Heap.lt_size e; rw [e1, hsz] at this; exact Nat.lt_irrefl _ (Nat.lt_of_succ_lt this)
      · cases hm
    have := h h' tk hold
    have hv : v = if PySem.Flt.ltV c (if PySem.Flt.ltV b a then b else a) then c else (if PySem.Flt.ltV b a then b else a) := by
      cases q1 : PySem.Flt.ltV b a <;> cases q2 : PySem.Flt.ltV c a <;> cases q3 : PySem.Flt.ltV c b <;> simp [argBest, q1, q2, q3] at hP <;> (subst hP; simp [q1, q2, q3])
    rw [hv]; exact this
theorem ltV_ff (x y : UInt64) (t u : Tok) : PySem.Flt.ltV (.float x t) (.float y u) = (Float64.cmp x y == some .lt) := rfl
section
variable {prog : Program} {w : World} {A : Around} {E : Value → Shared → Prop} {s : Shared} {Q : Value → Shared → Prop} {x y z : UInt64} {t u v : Tok} {h₀ : Heap} {L : Addr} {m : Str → Option Value} {news : List (Addr × Obj)}
theorem max3_fff (hh : A.handled = none) (F : Fr h₀ L s.heap m) (N : News h₀ L s.heap news)
    (h : ∀ h' tk v', (v' = t ∨ v' = u ∨ v' = v) → Fr h₀ L h' m → News h₀ L h' news → Q (.float (mx3 x y z) v') { s with heap := h', toks := tk }) :
    wpAny (model prog w) A (call (.builtin "max") [.float x t, .float y u, .float z v]) Q E s :=
  max3_num hh (.float x t) (.float y u) (.float z v) fun h' tk kp => by
    have F' := F.grownK kp
    have N' := N.grown kp
    unfold mx3 at h
    simp only [ltV_ff]
    rcases Bool.eq_false_or_eq_true (Float64.cmp x y == some .lt) with q1 | q1 <;> simp only [q1, if_true, Bool.false_eq_true, if_false, ltV_ff] at h ⊢
    · rcases Bool.eq_false_or_eq_true (Float64.cmp y z == some .lt) with q2 | q2 <;> simp only [q2, if_true, Bool.false_eq_true, if_false] at h ⊢ <;> exact h h' tk _ (by first | exact .inl rfl | exact .inr (.inl rfl) | exact .inr (.inr rfl)) F' N'
    · rcases Bool.eq_false_or_eq_true (Float64.cmp x z == some .lt) with q2 | q2 <;> simp only [q2, if_true, Bool.false_eq_true, if_false] at h ⊢ <;> exact h h' tk _ (by first | exact .inl rfl | exact .inr (.inl rfl) | exact .inr (.inr rfl)) F' N'
theorem min3_fff (hh : A.handled = none) (F : Fr h₀ L s.heap m) (N : News h₀ L s.heap news)
    (h : ∀ h' tk v', (v' = t ∨ v' = u ∨ v' = v) → Fr h₀ L h' m → News h₀ L h' news → Q (.float (mn3 x y z) v') { s with heap := h', toks := tk }) :
    wpAny (model prog w) A (call (.builtin "min") [.float x t, .float y u, .float z v]) Q E s :=
  min3_num hh (.float x t) (.float y u) (.float z v) fun h' tk kp => by
    have F' := F.grownK kp
    have N' := N.grown kp
    unfold mn3 at h
    simp only [ltV_ff]
    rcases Bool.eq_false_or_eq_true (Float64.cmp y x == some .lt) with q1 | q1 <;> simp only [q1, if_true, Bool.false_eq_true, if_false, ltV_ff] at h ⊢
    · rcases Bool.eq_false_or_eq_true (Float64.cmp z y == some .lt) with q2 | q2 <;> simp only [q2, if_true, Bool.false_eq_true, if_false] at h ⊢ <;> exact h h' tk _ (by first | exact .inl rfl | exact .inr (.inl rfl) | exact .inr (.inr rfl)) F' N'
    · rcases Bool.eq_false_or_eq_true (Float64.cmp z x == some .lt) with q2 | q2 <;> simp only [q2, if_true, Bool.false_eq_true, if_false] at h ⊢ <;> exact h h' tk _ (by first | exact .inl rfl | exact .inr (.inl rfl) | exact .inr (.inr rfl)) F' N'
end
/-- red, green, blue: rgb_to_hsv's hue and share, as it reckons them -/
noncomputable def gray3 (x y z : UInt64) : Bool := Float64.cmp (mn3 x y z) (mx3 x y z) == some .eq
noncomputable def rg3 (x y z : UInt64) : UInt64 := Float64.sub (mx3 x y z) (mn3 x y z)
noncomputable def part3 (x y z u : UInt64) : UInt64 := Float64.div (Float64.sub (mx3 x y z) u) (Float64.sub (mx3 x y z) (mn3 x y z))
noncomputable def rgbH (x y z : UInt64) : UInt64 :=
  if gray3 x y z = true then 0
  else if (Float64.cmp x (mx3 x y z) == some .eq) = true then (Float64.divmod (Float64.div (Float64.sub (part3 x y z z) (part3 x y z y)) 4618441417868443648) 4607182418800017408).2
  else if (Float64.cmp y (mx3 x y z) == some .eq) = true then (Float64.divmod (Float64.div (Float64.sub (Float64.add 4611686018427387904 (part3 x y z x)) (part3 x y z z)) 4618441417868443648) 4607182418800017408).2
  else (Float64.divmod (Float64.div (Float64.sub (Float64.add 4616189618054758400 (part3 x y z y)) (part3 x y z x)) 4618441417868443648) 4607182418800017408).2
noncomputable def rgbS (x y z : UInt64) : UInt64 := if gray3 x y z = true then 0 else Float64.div (Float64.sub (mx3 x y z) (mn3 x y z)) (mx3 x y z)
theorem rgb_g {x y z : UInt64} (h : (Float64.cmp (mn3 x y z) (mx3 x y z) == some .eq) = true) : rgbH x y z = 0 ∧ rgbS x y z = 0 := by
  unfold rgbH rgbS gray3; simp only [h, if_true, and_self]
theorem rgb_1 {x y z : UInt64} (h : (Float64.cmp (mn3 x y z) (mx3 x y z) == some .eq) = false) (h1 : (Float64.cmp x (mx3 x y z) == some .eq) = true) :
    rgbH x y z = (Float64.divmod (Float64.div (Float64.sub (part3 x y z z) (part3 x y z y)) 4618441417868443648) 4607182418800017408).2 ∧ rgbS x y z = Float64.div (Float64.sub (mx3 x y z) (mn3 x y z)) (mx3 x y z) := by
  unfold rgbH rgbS gray3; simp only [h, h1, if_true, Bool.false_eq_true, if_false, and_self]
theorem rgb_2 {x y z : UInt64} (h : (Float64.cmp (mn3 x y z) (mx3 x y z) == some .eq) = false) (h1 : (Float64.cmp x (mx3 x y z) == some .eq) = false) (h2 : (Float64.cmp y (mx3 x y z) == some .eq) = true) :
    rgbH x y z = (Float64.divmod (Float64.div (Float64.sub (Float64.add 4611686018427387904 (part3 x y z x)) (part3 x y z z)) 4618441417868443648) 4607182418800017408).2 ∧ rgbS x y z = Float64.div (Float64.sub (mx3 x y z) (mn3 x y z)) (mx3 x y z) := by
  unfold rgbH rgbS gray3; simp only [h, h1, h2, if_true, Bool.false_eq_true, if_false, and_self]
theorem rgb_3 {x y z : UInt64} (h : (Float64.cmp (mn3 x y z) (mx3 x y z) == some .eq) = false) (h1 : (Float64.cmp x (mx3 x y z) == some .eq) = false) (h2 : (Float64.cmp y (mx3 x y z) == some .eq) = false) :
    rgbH x y z = (Float64.divmod (Float64.div (Float64.sub (Float64.add 4616189618054758400 (part3 x y z y)) (part3 x y z x)) 4618441417868443648) 4607182418800017408).2 ∧ rgbS x y z = Float64.div (Float64.sub (mx3 x y z) (mn3 x y z)) (mx3 x y z) := by
  unfold rgbH rgbS gray3; simp only [h, h1, h2, Bool.false_eq_true, if_false, and_self]
/-- k quotes; k quotes and a sign -/
noncomputable def qs (k : Nat) : Str := ⟨(List.replicate k 34).toArray⟩
noncomputable def qc (c k : Nat) : Str := ⟨(List.replicate k 34 ++ [c]).toArray⟩
noncomputable def IsT (c : Nat) (x : Str) (n : Nat) : Prop := x.cps.toList = List.replicate n 34 ++ [c]
theorem app_list (x y : Str) : (x ++ y).cps.toList = x.cps.toList ++ y.cps.toList := by show (x.cps ++ y.cps).toList = _; simp
theorem isT_qc (c k : Nat) : IsT c (qc c k) k := by simp [IsT, qc]
theorem isT_eq {c n : Nat} {x : Str} (h : IsT c x n) : x = qc c n := by
  cases x; simp only [IsT] at h; simp only [qc, Str.mk.injEq]; exact Array.toList_inj.mp (by simp [h])
theorem isT_mul {c : Nat} {s : Str} (n : Int) (hs : s.cps.toList = [c]) : IsT c (Txt.mul (Str.ofString "\"") n ++ s) n.toNat := by
  rw [IsT, app_list, quote_is, mul_one_list, hs]
theorem mul_qs (k : Nat) (n : Int) : (Txt.mul (qs k) n).cps.toList = List.replicate (k * n.toNat) 34 := by
  unfold Txt.mul
  by_cases h1 : n < 1
  · rw [if_pos h1]
    have e : n.toNat = 0 := by omega
    rw [e]; rfl
  · rw [if_neg h1]
    by_cases h2 : n = 1
    · subst h2; simp [qs]
    · by_cases h3 : k = 0
      · subst h3; simp [qs, Str.length]
      · have e : (n == 1 || (qs k).length == 0) = false := by simp [h2, h3, qs, Str.length]
        rw [e, if_neg Bool.false_ne_true]
        have key : ∀ (j : Nat) (acc : Array Nat), ((List.replicate j (qs k).cps).foldl (· ++ ·) acc).toList = acc.toList ++ List.replicate (k * j) 34 := by
          intro j
          induction j with
          | zero => intro acc; simp
          | succ j ih =>
            intro acc
            rw [List.replicate_succ, List.foldl_cons, ih, Array.toList_append, List.append_assoc, Nat.mul_succ, Nat.add_comm (k * j) k]
            congr 1
            rw [← List.replicate_append_replicate]
            simp [qs]
        rw [key]; simp
theorem isT_next {c k : Nat} {s : Str} (f m : Int) (hs : s.cps.toList = [c]) : IsT c (Txt.mul (qs k) f ++ Txt.mul (Str.ofString "\"") m ++ s) (k * f.toNat + m.toNat) := by
  rw [IsT, app_list, app_list, quote_is, mul_one_list, mul_qs, hs, List.replicate_append_replicate]
theorem pq_even (k : Nat) (r : List Nat) : pq (List.replicate (2 * k) 34 ++ r) = List.replicate k 34 ++ pq r := by
  induction k with
  | zero => simp
  | succ k ih =>
    rw [show 2 * (k + 1) = 2 * k + 1 + 1 by omega, List.replicate_succ, List.replicate_succ, List.cons_append, List.cons_append, pq_quote, ih, List.replicate_succ, List.cons_append]
theorem tail_is : (Str.ofString "\" is \"x\"").cps.toList = [34, 32, 105, 115, 32, 34, 120, 34] := by decide +kernel
theorem open_is : (Str.ofString "257 \"").cps.toList = [50, 53, 55, 32, 34] := by decide +kernel
theorem arg_list {c n : Nat} {T : Str} (h : IsT c T n) : (Str.ofString "257 \"" ++ T ++ Str.ofString "\" is \"x\"").cps.toList = [50, 53, 55, 32, 34] ++ (List.replicate n 34 ++ c :: [34, 32, 105, 115, 32, 34, 120, 34]) := by
  rw [app_list, app_list, open_is, tail_is, h]; simp
theorem pq_arg_even {c n : Nat} (hc : c ≠ 34) (he : n % 2 = 0) : pq (List.replicate n 34 ++ c :: [34, 32, 105, 115, 32, 34, 120, 34]) = List.replicate (n / 2) 34 ++ [c] := by
  have e : n = 2 * (n / 2) := by omega
  rw [e, pq_even, pq_other hc, pq_stop (by decide)]
  congr 2; omega
theorem pq_arg_odd {c n : Nat} (hc : c ≠ 34) (he : n % 2 = 1) : pq (List.replicate n 34 ++ c :: [34, 32, 105, 115, 32, 34, 120, 34]) = List.replicate (n / 2) 34 := by
  have e : n = 2 * (n / 2) + 1 := by omega
  rw [e, ← List.replicate_append_replicate, List.append_assoc, pq_even, List.replicate_one, List.singleton_append, pq_stop hc, List.append_nil]
  congr 1; omega
theorem last_gen {x : Str} {l : List Nat} {c : Nat} (h : x.cps.toList = l ++ [c]) : Txt.slice x (some (-1)) none = ⟨#[c]⟩ := by
  have hl : x.length = l.length + 1 := by
    have := congrArg List.length h
    simpa [Str.length] using this
  have e : Txt.slice x (some (-1)) none = Txt.slice x (some ((l.length : Nat) : Int)) none := by
    have e1 : Builtin.Str.strSliceIndices (some (-1)) none 1 x.length = Builtin.Str.strSliceIndices (some ((l.length : Nat) : Int)) none 1 x.length := by
      rw [hl]
      unfold Builtin.Str.strSliceIndices
      have a1 : (if (-1 : Int) < 0 then -1 + ((l.length + 1 : Nat) : Int) else -1) = (l.length : Int) := by rw [if_pos (by decide)]; omega
      have a2 : (if ((l.length : Nat) : Int) < 0 then ((l.length : Nat) : Int) + ((l.length + 1 : Nat) : Int) else ((l.length : Nat) : Int)) = (l.length : Int) := by rw [if_neg (by omega)]
      simp only [a1, a2]
    unfold Txt.slice
    rw [e1]
  have h2 := slice_closes_from (x := x) (i := ((l.length : Nat) : Int)) (by rw [h]; simp; omega)
  rw [e, eq_of_beq h2, h]
  simp
theorem lit_x : (Str.ofString "x").cps.toList = [120] := by decide +kernel
theorem last_qc {c k : Nat} {s : Str} (hs : s.cps.toList = [c]) : (Txt.slice (qc c k) (some (-1)) none == s) = true := by
  rw [last_gen (l := List.replicate k 34) (c := c) (by simp [qc])]
  have : s = ⟨#[c]⟩ := by cases s; simp only at hs; simp only [Str.mk.injEq]; exact Array.toList_inj.mp (by simp [hs])
  rw [this]; simp
theorem last_qs {c k : Nat} {s : Str} (hs : s.cps.toList = [c]) (hc : c ≠ 34) : (Txt.slice (qs k) (some (-1)) none == s) = false := by
  cases k with
  | zero =>
    have h1 := Txt.slice_le (qs 0) (some (-1)) none
    have h2 : (qs 0).length = 0 := rfl
    have h3 : (Txt.slice (qs 0) (some (-1)) none).cps.toList = [] := by
      rw [h2] at h1
      unfold Str.length at h1
      exact List.length_eq_zero_iff.mp (by rw [Array.length_toList]; omega)
    refine beq_eq_false_iff_ne.mpr fun e => ?_
    rw [e, hs] at h3; cases h3
  | succ k =>
    rw [last_gen (l := List.replicate k 34) (c := 34) (by simp [qs, List.replicate_succ'])]
    refine beq_eq_false_iff_ne.mpr fun e => ?_
    rw [← e] at hs
    exact hc (List.head_eq_of_cons_eq hs).symm
theorem next_le {k b : Nat} {f m : Int} (hk : k ≤ b) (hf : f ≤ 5) (hm : m ≤ 3) : k * f.toNat + m.toNat ≤ b * 5 + 3 := by
  have := Nat.mul_le_mul hk (show f.toNat ≤ 5 by omega)
  omega
theorem list_slice {x : Str} {r : List Nat} (h : x.cps.toList = [50, 53, 55, 32, 34] ++ r) : (Txt.slice x none (some 3) != Str.ofString "257") = false ∧ (Txt.slice x (some 3) (some 5) != Str.ofString " \"") = false := by
  have h1 := slice_closes_to (x := x) (j := 3) (by rw [h]; simp; omega)
  have h2 := slice_closes (x := x) (i := 3) (j := 5) (by rw [h]; simp; omega)
  rw [eq_of_beq h1, eq_of_beq h2, h]
  have e1 : Str.ofString "257" = ⟨#[50, 53, 55]⟩ := by decide +kernel
  have e2 : Str.ofString " \"" = ⟨#[32, 34]⟩ := by decide +kernel
  rw [e1, e2]
  simp
theorem le_b {n : Nat} (b : Nat) (h : n ≤ b) : n ≤ b := h
theorem mul_len {j : Nat} {f : Int} (hf : f ≤ 5) : (Txt.mul (qs j) f).length ≤ 5 * j := by
  have h := congrArg List.length (mul_qs j f)
  rw [List.length_replicate, Array.length_toList] at h
  have h2 : j * f.toNat ≤ j * 5 := Nat.mul_le_mul_left _ (by omega)
  unfold Str.length
  omega
end
section
theorem div_call {w : World} {p : Program} {loose : List Str} {mean : ExcName → Option Value} {mg mb : Str → Option Value} (dp un : Nat) (gd : Option (List Code)) (cn : Str) (cs : Scope) (a : Addr) (ccd : Value) (cl : List (Str × Addr)) (outer : List Env) (A₀ : Around) (base h₀ : Heap) (L : Addr) (m : Str → Option Value) (s : Shared) (Q E : Value → Shared → Prop) (nw : List (Addr × Obj)) (x y n : Int) (tx ty tn : Tok) (B : Below A₀ base outer h₀) (F : Fr h₀ L s.heap m) (X : (hd.heap_39 w.params).In h₀) (N : News h₀ L s.heap nw) (T : Top p loose mean mg mb h₀) (hk : cs.kind = .function)
    (hx : (Builtin.Int.intBits x : Int) - n ≤ 4000) (hy : 0 < y) (hy2 : y < 1073741824)
    (hdp : dp + 1 < recursionLimit) (hun : un + 8 < cLine)
    (ret : ∀ (D : Addr) (t1 t2 : Tok) (h' : Heap) (tk' : Nat), Fr h₀ L h' m → News h₀ L h' ((D, ({ cls := .type "tuple", data := .seq #[.int (Int.fdiv x y) t1, .int (Int.fmod x y) t2] } : Obj)) :: nw) → AllLt D nw → Q (.ref D) { s with heap := h', toks := tk' }) :
    wpAny (model Challenge.rw_rl0055_02.row.prog w) (ktrTop dp un gd cn cs L a ccd cl outer) (call (.ref 53) [.int x tx, .int y ty, .int n tn]) Q E s := by
  k_with_none
  k_with "m all" => first | (refine List.forall_mem_cons.mpr ⟨?ka1, ?ka2⟩; (case ka1 => exact neN (by omega)); (case ka2 => k_all)) | exact restLt_ne (by assumption) (by omega) | exact (by assumption : RestOff _ _) | exact restLt_ne (rest_of_allLt (by assumption)) (by omega) | exact restLt_ne (rest_of_allLt (And.right (by assumption))) (by omega) | exact restLt_ne (rest_of_allLt (And.right (And.right (by assumption)))) (by omega)
  k_with "m UnrEnd" => (refine unr_cons (by assumption) (by assumption) (by k_all) ?_)
  k_with "m call builtin:divmod" => (k_here; (with_reducible show wpAny _ _ (call (Value.builtin _) [Value.int _ _, Value.int _ _]) _ _ _); (refine' divmod_K ?k1 ?k2 ?k3 ?k4 ?_; (case k1 => k_asm); (case k2 => k_asm); (case k3 => omega); (case k4 => omega); k_whole); intro D' h' F' N' l1; (try k_sweep))
  w_top off
  revert X; k_fill; intro X
  refine wpAny_call ?_
  k_dflt cell_enter
  k_steps
  exact ret _ _ _ _ _ (by assumption) (by assumption) (by assumption)
end
section
theorem i2d_miss {w : World} {p : Program} {loose : List Str} {mean : ExcName → Option Value} {mg mb : Str → Option Value} (dp un : Nat) (gd : Option (List Code)) (cn : Str) (cs : Scope) (a : Addr) (ccd : Value) (cl : List (Str × Addr)) (outer : List Env) (A₀ : Around) (base h₀ : Heap) (L : Addr) (m : Str → Option Value) (s : Shared) (Q E : Value → Shared → Prop) (rest : List (Addr × Obj)) 
    (x n : Int) (tx tn : Tok) (B : Below A₀ base outer h₀) (F : Fr h₀ L s.heap m) (X : (hd.heap_39 w.params).In h₀)
    (N : News h₀ L s.heap ((62, tabObj #[]) :: rest)) (T : Top p loose mean mg mb h₀) (hk : cs.kind = .function)
    (C : CodeHd base 66 62) (hoff : RestOff rest 62) (hx : 0 ≤ x) (hx2 : x < 1048576) (hn : 0 < n) (hn2 : n < 40)
    (hdp : dp + 42 < recursionLimit) (hun : un + 400 < cLine)
    (ret : ∀ (D : Addr) (vs : List Value) (c : Addr) (oc : Obj) (vs1 : Array Value) (t : Tok) (h' : Heap) (tk' : Nat), IntsAre vs (dg n x (nd x n).toNat) → oc.data = .fields vs1 → vs1[1]? = some (.str qual1 t) → RestLt rest D → RestOff rest c → (¬ (D : Nat) = 62 ∧ ¬ (D : Nat) = c) → Fr h₀ L h' m →
      News h₀ L h' ((D, W.listOf vs.toArray 0) :: (62, tabObj (#[] ++ #[rawInt ((54 : Nat) : Int), rawInt ((4 : Nat) : Int), .ref c])) :: (c, oc) :: rest) → Q (.ref D) { s with heap := h', toks := tk' }) :
    wpAny (model Challenge.rw_rl0055_02.row.prog w) (ktrTop dp un gd cn cs L a ccd cl outer) (call (.ref 67) [.int x tx, .int n tn]) Q E s := by
  k_with_none
  k_with "m all" => first | (refine List.forall_mem_cons.mpr ⟨?ka1, ?ka2⟩; (case ka1 => exact neN (by omega)); (case ka2 => k_all)) | exact restLt_ne (by assumption) (by omega) | exact (by assumption : RestOff _ _) | exact restLt_ne (rest_of_allLt (by assumption)) (by omega) | exact restLt_ne (rest_of_allLt (And.right (by assumption))) (by omega) | exact restLt_ne (rest_of_allLt (And.right (And.right (by assumption)))) (by omega)
  k_with "m UnrEnd" => (refine unr_cons (by assumption) (by assumption) (by k_all) ?_)
  k_with "m call ref" => (k_here; (with_reducible rename Sp1 _ _ _ _ _ _ _ _ _ _ _ _ _ _ => iS); k_dflt (refine' iS _ _ _ _ _ _ _ _ _ _ _ _ _ _ _ _ _ _ _ _ _ _ _ _ ?b1 ?b2 ?a1 ?a2 ?a3 ?a4 ?b3 ?b4 ?b5 ?a5 ?a6 ?a7 ?a8 ?a9 ?aA ?aB ?aC ?_); (case a8 => k_asm); (case b1 => assumption); (case b2 => first | assumption | (rw [put_len (by assumption) (by (try simp only [mid_eq]); omega) (by (try simp only [mid_eq]); omega)]; assumption)); (case a1 => ((try simp only [mid_eq]); omega)); (case a2 => ((try simp only [mid_eq]); omega)); (case a3 => ((try simp only [mid_eq]); omega)); (case a4 => ((try simp only [mid_eq]); omega)); (case b3 => first | exact (low_ok (by assumption) (by assumption) (by assumption) (mid_eq _) (by assumption) (by assumption)).1 | exact (up_ok (by assumption) (by assumption) (by assumption) (mid_eq _) (by assumption) (by assumption) (by assumption)).1); (case b4 => first | exact (low_ok (by assumption) (by assumption) (by assumption) (mid_eq _) (by assumption) (by assumption)).2.1 | exact (up_ok (by assumption) (by assumption) (by assumption) (mid_eq _) (by assumption) (by assumption) (by assumption)).2.1); (case b5 => first | exact (low_ok (by assumption) (by assumption) (by assumption) (mid_eq _) (by assumption) (by assumption)).2.2 | exact (up_ok (by assumption) (by assumption) (by assumption) (mid_eq _) (by assumption) (by assumption) (by assumption)).2.2); (case a5 => k_asm); (case a6 => k_asm); (case a7 => k_asm); (case a9 => k_asm); (case aA => rfl); (case aB => ktr_room); (case aC => ktr_units); (intro vs9 h9 tk9 I9 F9 N9); (try dsimp only at N9); (try dsimp only); (try k_sweep))
  k_with "m binaryOp LShift int int" => (k_here; refine lshift_int_small ?k1 ?k2 ?k3 ?_; (case k1 => exact (shift_ok (by (try simp only [mid_eq]); omega) (by (try simp only [mid_eq]); omega) (by assumption) (by assumption)).1); (case k2 => exact Int.le_trans (shift_ok (by (try simp only [mid_eq]); omega) (by (try simp only [mid_eq]); omega) (by assumption) (by assumption)).2 (by decide)); (case k3 => exact up_nat (by assumption) (by assumption) (by assumption) (mid_eq _) (by assumption) (by assumption) (by assumption)))
  k_with "m binaryOp RShift int int" => (k_here; refine rshift_int ?k1 ?_; (case k1 => exact (shift_ok (by (try simp only [mid_eq]); omega) (by (try simp only [mid_eq]); omega) (by assumption) (by assumption)).1))
  w_top off
  revert X; k_fill; intro X
  have q1 := (nd_facts (x := x) hn).1
  have q2 := nd_le hx hx2 hn
  have q3 := nd_pos (x := x) hn
  unfold nd at q1 q2
  refine wpAny_call ?_
  k_dflt (refine' code_defC ?k1 ?k2 ?k3 ?k4 ?k5 ?kA ?kF ?kK ?k6 ?k7 ?k8 ?k9 ?kB ?kD ?_ ?c2 ?c3 ?c4; (case kA => exact rfl); (case kF => exact rfl); (case kK => assumption); (case k1 => k_asm); (case k2 => k_asm); (case k3 => k_asm); (case k4 => k_asm); (case k5 => k_asm); (case k6 => k_is); (case k7 => k_is); (case k8 => ktr_room); (case k9 => exact BindsTo.of_eq rfl); (case kB => exact rfl); (case kD => decide +kernel); (case c2 => exact rfl); (case c3 => exact rfl); (case c4 => exact rfl); k_whole; intro g' L' h' tk' cells' FG' F' N' Y' B' X' T' l1; (have hR : RestLt rest L' := restLt_of l1 (by repeat (first | exact sub_refl | refine sub_tail ?_))); (try k_lt l1); k_cells Y'; (try simp only [List.cons_append, List.nil_append] at N'); (try dsimp only); (try k_lift B'); (try k_fold))
  k_steps
  · refine' sp1_start (n := n) ?b1 ?b2 ?b3 ?b4 ?b5 ?b6 ?bD ?bU ?bI ?bL ?b9 ?bx ?bx2 ?bx3 ?b7 ?b8 ?key ?ret
    case b4 => k_asm
    case bI => assumption
    case bD => k_mem
    case bU => k_updF
    case b1 => k_asm
    case b2 => k_asm
    case b3 => k_asm
    case b5 => k_asm
    case b6 => rfl
    case bL => assumption
    case b9 => omega
    case bx => assumption
    case bx2 => exact x_lt hx hn (by omega)
    case bx3 => assumption
    case b7 => ktr_room
    case b8 => ktr_units
    case key =>
      intro k
      induction k with
      | zero =>
        intro x i j tx ti tj vs ds dp un gd cn cs a ccd cl outer A₀ h₀ L m s Q E bI bL h1 h2 h3 h4
        omega
      | succ k ih =>
        intro x i j tx ti tj vs ds dp un gd cn cs a ccd cl outer A₀ h₀ L m s Q E bI bL h1 h2 h3 h4 h5 h6 h7 B F X N T hk hdp hun ret
        refine wpAny_call ?_
        k_dflt (refine' code_nest ?k1 ?k2 ?k3 ?k4 ?k5 ?kA ?kF ?kK ?k6 ?k7 ?k8 ?k9 ?kB ?_ ?c2 ?c3 ?c4 ?c5; (case kA => exact rfl); (case kF => exact rfl); (case kK => assumption); (case k1 => k_asm); (case k2 => k_asm); (case k3 => k_asm); (case k4 => k_asm); (case k5 => k_asm); (case k6 => k_mem); (case k7 => exact codeRec_news (by k_asm) (by k_mem) (by assumption) (by assumption)); (case k8 => ktr_room); (case k9 => exact BindsTo.of_eq rfl); (case c5 => decide); (case kB => exact locs rfl); (case c2 => exact rfl); (case c3 => exact rfl); (case c4 => exact rfl); k_whole; intro g' L' h' FG' F' N' B' X' T'; (try dsimp only); (try k_lift B'); (try k_fold))
        k_steps
        · refine ret _ _ _ ?_ (by assumption) (by assumption)
          rw [← put_one h1 (by assumption) (by omega) h5 h6]
          assumption
        · simp only [mid_eq] at *
          refine ret _ _ _ ?_ (by assumption) (by assumption)
          rw [← put_two h1 h2 (by omega) hn rfl (by assumption)]
          assumption
    case ret =>
      intro vs9 h9 tk9 I9 F9 N9
      try dsimp only at N9
      k_steps
      refine' ret _ vs9 _ _ _ _ _ _ ?r1 (by assumption) (by assumption) (restLt_mono hR (by omega)) ?r2 ?r3 (by assumption) (news_sub (by assumption) (sub_cons ?m1 (sub_cons ?m2 (sub_cons ?m3 ?m4))))
      case m1 => k_mem
      case m2 => k_mem
      case m3 => k_mem
      case m4 => repeat (first | exact sub_refl | refine sub_tail ?_)
      case r2 => first | assumption | exact restLt_ne hR (by omega)
      case r3 => exact ⟨neN (by omega), neN (by omega)⟩
      case r1 => exact ints_cast I9 (by omega)
  · refine' ret _ _ _ _ _ _ _ _ ?r1 (by assumption) (by assumption) (restLt_mono hR (by omega)) ?r2 ?r3 (by assumption) (news_sub (by assumption) (sub_cons ?m1 (sub_cons ?m2 (sub_cons ?m3 ?m4))))
    case r1 => exact ints_zero (by assumption) (by assumption) (by assumption) hn (by omega)
    case m1 => k_mem
    case m2 => k_mem
    case m3 => k_mem
    case m4 => repeat (first | exact sub_refl | refine sub_tail ?_)
    case r2 => first | assumption | exact restLt_ne hR (by omega)
    case r3 => exact ⟨neN (by omega), neN (by omega)⟩
theorem i2d_hit {w : World} {p : Program} {loose : List Str} {mean : ExcName → Option Value} {mg mb : Str → Option Value} (dp un : Nat) (gd : Option (List Code)) (cn : Str) (cs : Scope) (a : Addr) (ccd : Value) (cl : List (Str × Addr)) (outer : List Env) (A₀ : Around) (base h₀ : Heap) (L : Addr) (m : Str → Option Value) (s : Shared) (Q E : Value → Shared → Prop) (rest : List (Addr × Obj)) (c0 : Addr) (oc0 : Obj) (vs0 : Array Value) (t0 : Tok) (hd0 : oc0.data = .fields vs0) (hv0 : vs0[1]? = some (.str qual1 t0)) (hc0 : RestOff rest c0)
    (x n : Int) (tx tn : Tok) (B : Below A₀ base outer h₀) (F : Fr h₀ L s.heap m) (X : (hd.heap_39 w.params).In h₀)
    (N : News h₀ L s.heap ((62, tabObj (#[] ++ #[rawInt ((54 : Nat) : Int), rawInt ((4 : Nat) : Int), .ref c0])) :: (c0, oc0) :: rest)) (T : Top p loose mean mg mb h₀) (hk : cs.kind = .function)
    (C : CodeHd base 66 62) (hoff : RestOff rest 62) (hx : 0 ≤ x) (hx2 : x < 1048576) (hn : 0 < n) (hn2 : n < 40)
    (hdp : dp + 42 < recursionLimit) (hun : un + 400 < cLine)
    (ret : ∀ (D : Addr) (vs : List Value) (c : Addr) (oc : Obj) (vs1 : Array Value) (t : Tok) (h' : Heap) (tk' : Nat), IntsAre vs (dg n x (nd x n).toNat) → oc.data = .fields vs1 → vs1[1]? = some (.str qual1 t) → RestLt rest D → RestOff rest c → (¬ (D : Nat) = 62 ∧ ¬ (D : Nat) = c) → Fr h₀ L h' m →
      News h₀ L h' ((D, W.listOf vs.toArray 0) :: (62, tabObj (#[] ++ #[rawInt ((54 : Nat) : Int), rawInt ((4 : Nat) : Int), .ref c])) :: (c, oc) :: rest) → Q (.ref D) { s with heap := h', toks := tk' }) :
    wpAny (model Challenge.rw_rl0055_02.row.prog w) (ktrTop dp un gd cn cs L a ccd cl outer) (call (.ref 67) [.int x tx, .int n tn]) Q E s := by
  k_with_none
  k_with "m all" => first | (refine List.forall_mem_cons.mpr ⟨?ka1, ?ka2⟩; (case ka1 => exact neN (by omega)); (case ka2 => k_all)) | exact restLt_ne (by assumption) (by omega) | exact (by assumption : RestOff _ _) | exact restLt_ne (rest_of_allLt (by assumption)) (by omega) | exact restLt_ne (rest_of_allLt (And.right (by assumption))) (by omega) | exact restLt_ne (rest_of_allLt (And.right (And.right (by assumption)))) (by omega)
  k_with "m UnrEnd" => (refine unr_cons (by assumption) (by assumption) (by k_all) ?_)
  k_with "m call ref" => (k_here; (with_reducible rename Sp1 _ _ _ _ _ _ _ _ _ _ _ _ _ _ => iS); k_dflt (refine' iS _ _ _ _ _ _ _ _ _ _ _ _ _ _ _ _ _ _ _ _ _ _ _ _ ?b1 ?b2 ?a1 ?a2 ?a3 ?a4 ?b3 ?b4 ?b5 ?a5 ?a6 ?a7 ?a8 ?a9 ?aA ?aB ?aC ?_); (case a8 => k_asm); (case b1 => assumption); (case b2 => first | assumption | (rw [put_len (by assumption) (by (try simp only [mid_eq]); omega) (by (try simp only [mid_eq]); omega)]; assumption)); (case a1 => ((try simp only [mid_eq]); omega)); (case a2 => ((try simp only [mid_eq]); omega)); (case a3 => ((try simp only [mid_eq]); omega)); (case a4 => ((try simp only [mid_eq]); omega)); (case b3 => first | exact (low_ok (by assumption) (by assumption) (by assumption) (mid_eq _) (by assumption) (by assumption)).1 | exact (up_ok (by assumption) (by assumption) (by assumption) (mid_eq _) (by assumption) (by assumption) (by assumption)).1); (case b4 => first | exact (low_ok (by assumption) (by assumption) (by assumption) (mid_eq _) (by assumption) (by assumption)).2.1 | exact (up_ok (by assumption) (by assumption) (by assumption) (mid_eq _) (by assumption) (by assumption) (by assumption)).2.1); (case b5 => first | exact (low_ok (by assumption) (by assumption) (by assumption) (mid_eq _) (by assumption) (by assumption)).2.2 | exact (up_ok (by assumption) (by assumption) (by assumption) (mid_eq _) (by assumption) (by assumption) (by assumption)).2.2); (case a5 => k_asm); (case a6 => k_asm); (case a7 => k_asm); (case a9 => k_asm); (case aA => rfl); (case aB => ktr_room); (case aC => ktr_units); (intro vs9 h9 tk9 I9 F9 N9); (try dsimp only at N9); (try dsimp only); (try k_sweep))
  k_with "m binaryOp LShift int int" => (k_here; refine lshift_int_small ?k1 ?k2 ?k3 ?_; (case k1 => exact (shift_ok (by (try simp only [mid_eq]); omega) (by (try simp only [mid_eq]); omega) (by assumption) (by assumption)).1); (case k2 => exact Int.le_trans (shift_ok (by (try simp only [mid_eq]); omega) (by (try simp only [mid_eq]); omega) (by assumption) (by assumption)).2 (by decide)); (case k3 => exact up_nat (by assumption) (by assumption) (by assumption) (mid_eq _) (by assumption) (by assumption) (by assumption)))
  k_with "m binaryOp RShift int int" => (k_here; refine rshift_int ?k1 ?_; (case k1 => exact (shift_ok (by (try simp only [mid_eq]); omega) (by (try simp only [mid_eq]); omega) (by assumption) (by assumption)).1))
  w_top off
  revert X; k_fill; intro X
  have q1 := (nd_facts (x := x) hn).1
  have q2 := nd_le hx hx2 hn
  have q3 := nd_pos (x := x) hn
  unfold nd at q1 q2
  refine wpAny_call ?_
  k_dflt (refine' code_defC ?k1 ?k2 ?k3 ?k4 ?k5 ?kA ?kF ?kK ?k6 ?k7 ?k8 ?k9 ?kB ?kD ?_ ?c2 ?c3 ?c4; (case kA => exact rfl); (case kF => exact rfl); (case kK => assumption); (case k1 => k_asm); (case k2 => k_asm); (case k3 => k_asm); (case k4 => k_asm); (case k5 => k_asm); (case k6 => k_is); (case k7 => k_is); (case k8 => ktr_room); (case k9 => exact BindsTo.of_eq rfl); (case kB => exact rfl); (case kD => decide +kernel); (case c2 => exact rfl); (case c3 => exact rfl); (case c4 => exact rfl); k_whole; intro g' L' h' tk' cells' FG' F' N' Y' B' X' T' l1; (have hR : RestLt rest L' := restLt_of l1 (by repeat (first | exact sub_refl | refine sub_tail ?_))); (try k_lt l1); k_cells Y'; (try simp only [List.cons_append, List.nil_append] at N'); (try dsimp only); (try k_lift B'); (try k_fold))
  k_steps
  · refine' sp1_start (n := n) ?b1 ?b2 ?b3 ?b4 ?b5 ?b6 ?bD ?bU ?bI ?bL ?b9 ?bx ?bx2 ?bx3 ?b7 ?b8 ?key ?ret
    case b4 => k_asm
    case bI => assumption
    case bD => k_mem
    case bU => k_updF
    case b1 => k_asm
    case b2 => k_asm
    case b3 => k_asm
    case b5 => k_asm
    case b6 => rfl
    case bL => assumption
    case b9 => omega
    case bx => assumption
    case bx2 => exact x_lt hx hn (by omega)
    case bx3 => assumption
    case b7 => ktr_room
    case b8 => ktr_units
    case key =>
      intro k
      induction k with
      | zero =>
        intro x i j tx ti tj vs ds dp un gd cn cs a ccd cl outer A₀ h₀ L m s Q E bI bL h1 h2 h3 h4
        omega
      | succ k ih =>
        intro x i j tx ti tj vs ds dp un gd cn cs a ccd cl outer A₀ h₀ L m s Q E bI bL h1 h2 h3 h4 h5 h6 h7 B F X N T hk hdp hun ret
        refine wpAny_call ?_
        k_dflt (refine' code_nest ?k1 ?k2 ?k3 ?k4 ?k5 ?kA ?kF ?kK ?k6 ?k7 ?k8 ?k9 ?kB ?_ ?c2 ?c3 ?c4 ?c5; (case kA => exact rfl); (case kF => exact rfl); (case kK => assumption); (case k1 => k_asm); (case k2 => k_asm); (case k3 => k_asm); (case k4 => k_asm); (case k5 => k_asm); (case k6 => k_mem); (case k7 => exact codeRec_news (by k_asm) (by k_mem) (by assumption) (by assumption)); (case k8 => ktr_room); (case k9 => exact BindsTo.of_eq rfl); (case c5 => decide); (case kB => exact locs rfl); (case c2 => exact rfl); (case c3 => exact rfl); (case c4 => exact rfl); k_whole; intro g' L' h' FG' F' N' B' X' T'; (try dsimp only); (try k_lift B'); (try k_fold))
        k_steps
        · refine ret _ _ _ ?_ (by assumption) (by assumption)
          rw [← put_one h1 (by assumption) (by omega) h5 h6]
          assumption
        · simp only [mid_eq] at *
          refine ret _ _ _ ?_ (by assumption) (by assumption)
          rw [← put_two h1 h2 (by omega) hn rfl (by assumption)]
          assumption
    case ret =>
      intro vs9 h9 tk9 I9 F9 N9
      try dsimp only at N9
      k_steps
      refine' ret _ vs9 _ _ _ _ _ _ ?r1 (by assumption) (by assumption) (restLt_mono hR (by omega)) ?r2 ?r3 (by assumption) (news_sub (by assumption) (sub_cons ?m1 (sub_cons ?m2 (sub_cons ?m3 ?m4))))
      case m1 => k_mem
      case m2 => k_mem
      case m3 => k_mem
      case m4 => repeat (first | exact sub_refl | refine sub_tail ?_)
      case r2 => first | assumption | exact restLt_ne hR (by omega)
      case r3 => exact ⟨neN (by omega), neN (by omega)⟩
      case r1 => exact ints_cast I9 (by omega)
  · refine' ret _ _ _ _ _ _ _ _ ?r1 (by assumption) (by assumption) (restLt_mono hR (by omega)) ?r2 ?r3 (by assumption) (news_sub (by assumption) (sub_cons ?m1 (sub_cons ?m2 (sub_cons ?m3 ?m4))))
    case r1 => exact ints_zero (by assumption) (by assumption) (by assumption) hn (by omega)
    case m1 => k_mem
    case m2 => k_mem
    case m3 => k_mem
    case m4 => repeat (first | exact sub_refl | refine sub_tail ?_)
    case r2 => first | assumption | exact restLt_ne hR (by omega)
    case r3 => exact ⟨neN (by omega), neN (by omega)⟩
end
section
theorem d2i_miss {w : World} {p : Program} {loose : List Str} {mean : ExcName → Option Value} {mg mb : Str → Option Value} (dp un : Nat) (gd : Option (List Code)) (cn : Str) (cs : Scope) (a : Addr) (ccd : Value) (cl : List (Str × Addr)) (outer : List Env) (A₀ : Around) (base h₀ : Heap) (L : Addr) (m : Str → Option Value) (s : Shared) (Q E : Value → Shared → Prop) (rest : List (Addr × Obj)) 
    (D : Addr) (vs : List Value) (ds : List Int) (c : Nat) (n : Int) (tn : Tok) (B : Below A₀ base outer h₀) (F : Fr h₀ L s.heap m) (X : (hd.heap_39 w.params).In h₀)
    (N : News h₀ L s.heap ((69, tabObj #[]) :: (D, W.listOf vs.toArray c) :: rest)) (T : Top p loose mean mg mb h₀) (hk : cs.kind = .function)
    (C : CodeHd base 73 69) (hoff : RestOff rest 69) (hne : ¬ D = 69) (I : IntsAre vs ds) (hdg : Digits n ds) (hl : ds.length < 40) (hn : 0 < n) (hn2 : n < 40) (hb : n * ds.length ≤ 60)
    (hdp : dp + 42 < recursionLimit) (hun : un + 400 < cLine)
    (ret : ∀ (t1 : Tok) (c : Addr) (oc : Obj) (vs1 : Array Value) (t : Tok) (h' : Heap) (tk' : Nat), oc.data = .fields vs1 → vs1[1]? = some (.str qual2 t) → RestOff rest c → Fr h₀ L h' m →
      News h₀ L h' ((69, tabObj (#[] ++ #[rawInt ((69 : Nat) : Int), rawInt ((4 : Nat) : Int), .ref c])) :: (c, oc) :: rest) → Q (.int (dv n ds) t1) { s with heap := h', toks := tk' }) :
    wpAny (model Challenge.rw_rl0055_02.row.prog w) (ktrTop dp un gd cn cs L a ccd cl outer) (call (.ref 74) [.ref D, .int n tn]) Q E s := by
  k_with_none
  k_with "m all" => first | (refine List.forall_mem_cons.mpr ⟨?ka1, ?ka2⟩; (case ka1 => exact neN (by omega)); (case ka2 => k_all)) | exact restLt_ne (by assumption) (by omega) | exact (by assumption : RestOff _ _) | exact restLt_ne (rest_of_allLt (by assumption)) (by omega) | exact restLt_ne (rest_of_allLt (And.right (by assumption))) (by omega) | exact restLt_ne (rest_of_allLt (And.right (And.right (by assumption)))) (by omega)
  k_with "m UnrEnd" => (refine unr_cons (by assumption) (by assumption) (by k_all) ?_)
  k_with "m call ref" => (k_here; (with_reducible rename Sp2 _ _ _ _ _ _ _ _ _ _ _ _ _ _ => iS); k_dflt (refine' iS _ _ _ _ _ _ _ _ _ _ _ _ _ _ _ _ _ _ _ _ ?a1 ?a2 ?a3 ?a4 ?a5 ?a6 ?a7 ?a8 ?a9 ?aA ?aB ?aC ?_); (case a1 => ((try simp only [mid_eq]); omega)); (case a2 => ((try simp only [mid_eq]); omega)); (case a3 => ((try simp only [mid_eq]); omega)); (case a4 => ((try simp only [mid_eq]); omega)); (case a5 => k_asm); (case a6 => k_asm); (case a7 => k_asm); (case a8 => k_asm); (case a9 => k_asm); (case aA => rfl); (case aB => ktr_room); (case aC => ktr_units); (intro t9 h9 tk9 F9 N9); (try dsimp only); (try k_sweep))
  k_with "m binaryOp LShift int int" => (k_here; refine lshift_int_small ?k1 ?k2 ?k3 ?_; (case k1 => exact (shift_ok (by (try simp only [mid_eq]); omega) (by (try simp only [mid_eq]); omega) (by assumption) (by assumption)).1); (case k2 => exact Int.le_trans (shift_ok (by (try simp only [mid_eq]); omega) (by (try simp only [mid_eq]); omega) (by assumption) (by assumption)).2 (by decide)); (case k3 => exact dv_small (by assumption) (by assumption) (by assumption) _ _))
  w_top off
  revert X; k_fill; intro X
  refine wpAny_call ?_
  k_dflt (refine' code_defC ?k1 ?k2 ?k3 ?k4 ?k5 ?kA ?kF ?kK ?k6 ?k7 ?k8 ?k9 ?kB ?kD ?_ ?c2 ?c3 ?c4; (case kA => exact rfl); (case kF => exact rfl); (case kK => assumption); (case k1 => k_asm); (case k2 => k_asm); (case k3 => k_asm); (case k4 => k_asm); (case k5 => k_asm); (case k6 => k_is); (case k7 => k_is); (case k8 => ktr_room); (case k9 => exact BindsTo.of_eq rfl); (case kB => exact rfl); (case kD => decide +kernel); (case c2 => exact rfl); (case c3 => exact rfl); (case c4 => exact rfl); k_whole; intro g' L' h' tk' cells' FG' F' N' Y' B' X' T' l1; (have hR : RestLt rest L' := restLt_of l1 (by repeat (first | exact sub_refl | refine sub_tail ?_))); (try k_lt l1); k_cells Y'; (try simp only [List.cons_append, List.nil_append] at N'); (try dsimp only); (try k_lift B'); (try k_fold))
  k_steps
  · refine' sp2_start (n := n) ?b1 ?b2 ?b3 ?b4 ?b5 ?b6 ?b7 ?b8 ?b9 ?key ?ret
    case b1 => k_asm
    case b2 => k_asm
    case b3 => k_asm
    case b4 => k_asm
    case b5 => k_asm
    case b6 => rfl
    case b7 => ktr_room
    case b8 => ktr_units
    case b9 => assumption
    case key =>
      intro k
      induction k with
      | zero =>
        intro i j ti tj dp un gd cn cs a ccd cl outer A₀ h₀ L m s Q E h1 h2 h3 h4
        omega
      | succ k ih =>
        intro i j ti tj dp un gd cn cs a ccd cl outer A₀ h₀ L m s Q E h1 h2 h3 h4 B F X N T hk hdp hun ret
        refine wpAny_call ?_
        k_dflt (refine' code_nest ?k1 ?k2 ?k3 ?k4 ?k5 ?kA ?kF ?kK ?k6 ?k7 ?k8 ?k9 ?kB ?_ ?c2 ?c3 ?c4 ?c5; (case kA => exact rfl); (case kF => exact rfl); (case kK => assumption); (case k1 => k_asm); (case k2 => k_asm); (case k3 => k_asm); (case k4 => k_asm); (case k5 => k_asm); (case k6 => k_mem); (case k7 => exact codeRec_news (by k_asm) (by k_mem) (by assumption) (by assumption)); (case k8 => ktr_room); (case k9 => exact BindsTo.of_eq rfl); (case c5 => decide); (case kB => exact locs rfl); (case c2 => exact rfl); (case c3 => exact rfl); (case c4 => exact rfl); k_whole; intro g' L' h' FG' F' N' B' X' T'; (try dsimp only); (try k_lift B'); (try k_fold))
        k_steps
        · rw [dv_one (n := n) h1 (by assumption) h3]
          exact ret _ _ _ (by assumption) (by assumption)
        · simp only [mid_eq]
          rw [dv_two h1 h2 h3 hn _ rfl (by assumption)]
          exact ret _ _ _ (by assumption) (by assumption)
    case ret =>
      intro t9 h9 tk9 F9 N9
      k_steps
      refine' ret _ _ _ _ _ _ _ (by assumption) (by assumption) ?r2 (by assumption) (news_sub (by assumption) (sub_cons ?m1 (sub_cons ?m2 ?m4)))
      case m1 => k_mem
      case m2 => k_mem
      case m4 => repeat (first | exact sub_refl | refine sub_tail ?_)
      case r2 => first | assumption | exact restLt_ne hR (by omega)
  · have hz : ds = [] := List.length_eq_zero_iff.mp (by omega)
    have e0 : dv n ds = 0 := by rw [hz]; rfl
    rw [e0] at ret
    refine' ret _ _ _ _ _ _ _ (by assumption) (by assumption) ?r2 (by assumption) (news_sub (by assumption) (sub_cons ?m1 (sub_cons ?m2 ?m4)))
    case m1 => k_mem
    case m2 => k_mem
    case m4 => repeat (first | exact sub_refl | refine sub_tail ?_)
    case r2 => first | assumption | exact restLt_ne hR (by omega)
theorem d2i_hit {w : World} {p : Program} {loose : List Str} {mean : ExcName → Option Value} {mg mb : Str → Option Value} (dp un : Nat) (gd : Option (List Code)) (cn : Str) (cs : Scope) (a : Addr) (ccd : Value) (cl : List (Str × Addr)) (outer : List Env) (A₀ : Around) (base h₀ : Heap) (L : Addr) (m : Str → Option Value) (s : Shared) (Q E : Value → Shared → Prop) (rest : List (Addr × Obj)) (c0 : Addr) (oc0 : Obj) (vs0 : Array Value) (t0 : Tok) (hd0 : oc0.data = .fields vs0) (hv0 : vs0[1]? = some (.str qual2 t0)) (hc0 : RestOff rest c0)
    (D : Addr) (vs : List Value) (ds : List Int) (c : Nat) (n : Int) (tn : Tok) (B : Below A₀ base outer h₀) (F : Fr h₀ L s.heap m) (X : (hd.heap_39 w.params).In h₀)
    (N : News h₀ L s.heap ((69, tabObj (#[] ++ #[rawInt ((69 : Nat) : Int), rawInt ((4 : Nat) : Int), .ref c0])) :: (c0, oc0) :: (D, W.listOf vs.toArray c) :: rest)) (T : Top p loose mean mg mb h₀) (hk : cs.kind = .function)
    (C : CodeHd base 73 69) (hoff : RestOff rest 69) (hne : ¬ D = 69) (I : IntsAre vs ds) (hdg : Digits n ds) (hl : ds.length < 40) (hn : 0 < n) (hn2 : n < 40) (hb : n * ds.length ≤ 60)
    (hdp : dp + 42 < recursionLimit) (hun : un + 400 < cLine)
    (ret : ∀ (t1 : Tok) (c : Addr) (oc : Obj) (vs1 : Array Value) (t : Tok) (h' : Heap) (tk' : Nat), oc.data = .fields vs1 → vs1[1]? = some (.str qual2 t) → RestOff rest c → Fr h₀ L h' m →
      News h₀ L h' ((69, tabObj (#[] ++ #[rawInt ((69 : Nat) : Int), rawInt ((4 : Nat) : Int), .ref c])) :: (c, oc) :: rest) → Q (.int (dv n ds) t1) { s with heap := h', toks := tk' }) :
    wpAny (model Challenge.rw_rl0055_02.row.prog w) (ktrTop dp un gd cn cs L a ccd cl outer) (call (.ref 74) [.ref D, .int n tn]) Q E s := by
  k_with_none
  k_with "m all" => first | (refine List.forall_mem_cons.mpr ⟨?ka1, ?ka2⟩; (case ka1 => exact neN (by omega)); (case ka2 => k_all)) | exact restLt_ne (by assumption) (by omega) | exact (by assumption : RestOff _ _) | exact restLt_ne (rest_of_allLt (by assumption)) (by omega) | exact restLt_ne (rest_of_allLt (And.right (by assumption))) (by omega) | exact restLt_ne (rest_of_allLt (And.right (And.right (by assumption)))) (by omega)
  k_with "m UnrEnd" => (refine unr_cons (by assumption) (by assumption) (by k_all) ?_)
  k_with "m call ref" => (k_here; (with_reducible rename Sp2 _ _ _ _ _ _ _ _ _ _ _ _ _ _ => iS); k_dflt (refine' iS _ _ _ _ _ _ _ _ _ _ _ _ _ _ _ _ _ _ _ _ ?a1 ?a2 ?a3 ?a4 ?a5 ?a6 ?a7 ?a8 ?a9 ?aA ?aB ?aC ?_); (case a1 => ((try simp only [mid_eq]); omega)); (case a2 => ((try simp only [mid_eq]); omega)); (case a3 => ((try simp only [mid_eq]); omega)); (case a4 => ((try simp only [mid_eq]); omega)); (case a5 => k_asm); (case a6 => k_asm); (case a7 => k_asm); (case a8 => k_asm); (case a9 => k_asm); (case aA => rfl); (case aB => ktr_room); (case aC => ktr_units); (intro t9 h9 tk9 F9 N9); (try dsimp only); (try k_sweep))
  k_with "m binaryOp LShift int int" => (k_here; refine lshift_int_small ?k1 ?k2 ?k3 ?_; (case k1 => exact (shift_ok (by (try simp only [mid_eq]); omega) (by (try simp only [mid_eq]); omega) (by assumption) (by assumption)).1); (case k2 => exact Int.le_trans (shift_ok (by (try simp only [mid_eq]); omega) (by (try simp only [mid_eq]); omega) (by assumption) (by assumption)).2 (by decide)); (case k3 => exact dv_small (by assumption) (by assumption) (by assumption) _ _))
  w_top off
  revert X; k_fill; intro X
  refine wpAny_call ?_
  k_dflt (refine' code_defC ?k1 ?k2 ?k3 ?k4 ?k5 ?kA ?kF ?kK ?k6 ?k7 ?k8 ?k9 ?kB ?kD ?_ ?c2 ?c3 ?c4; (case kA => exact rfl); (case kF => exact rfl); (case kK => assumption); (case k1 => k_asm); (case k2 => k_asm); (case k3 => k_asm); (case k4 => k_asm); (case k5 => k_asm); (case k6 => k_is); (case k7 => k_is); (case k8 => ktr_room); (case k9 => exact BindsTo.of_eq rfl); (case kB => exact rfl); (case kD => decide +kernel); (case c2 => exact rfl); (case c3 => exact rfl); (case c4 => exact rfl); k_whole; intro g' L' h' tk' cells' FG' F' N' Y' B' X' T' l1; (have hR : RestLt rest L' := restLt_of l1 (by repeat (first | exact sub_refl | refine sub_tail ?_))); (try k_lt l1); k_cells Y'; (try simp only [List.cons_append, List.nil_append] at N'); (try dsimp only); (try k_lift B'); (try k_fold))
  k_steps
  · refine' sp2_start (n := n) ?b1 ?b2 ?b3 ?b4 ?b5 ?b6 ?b7 ?b8 ?b9 ?key ?ret
    case b1 => k_asm
    case b2 => k_asm
    case b3 => k_asm
    case b4 => k_asm
    case b5 => k_asm
    case b6 => rfl
    case b7 => ktr_room
    case b8 => ktr_units
    case b9 => assumption
    case key =>
      intro k
      induction k with
      | zero =>
        intro i j ti tj dp un gd cn cs a ccd cl outer A₀ h₀ L m s Q E h1 h2 h3 h4
        omega
      | succ k ih =>
        intro i j ti tj dp un gd cn cs a ccd cl outer A₀ h₀ L m s Q E h1 h2 h3 h4 B F X N T hk hdp hun ret
        refine wpAny_call ?_
        k_dflt (refine' code_nest ?k1 ?k2 ?k3 ?k4 ?k5 ?kA ?kF ?kK ?k6 ?k7 ?k8 ?k9 ?kB ?_ ?c2 ?c3 ?c4 ?c5; (case kA => exact rfl); (case kF => exact rfl); (case kK => assumption); (case k1 => k_asm); (case k2 => k_asm); (case k3 => k_asm); (case k4 => k_asm); (case k5 => k_asm); (case k6 => k_mem); (case k7 => exact codeRec_news (by k_asm) (by k_mem) (by assumption) (by assumption)); (case k8 => ktr_room); (case k9 => exact BindsTo.of_eq rfl); (case c5 => decide); (case kB => exact locs rfl); (case c2 => exact rfl); (case c3 => exact rfl); (case c4 => exact rfl); k_whole; intro g' L' h' FG' F' N' B' X' T'; (try dsimp only); (try k_lift B'); (try k_fold))
        k_steps
        · rw [dv_one (n := n) h1 (by assumption) h3]
          exact ret _ _ _ (by assumption) (by assumption)
        · simp only [mid_eq]
          rw [dv_two h1 h2 h3 hn _ rfl (by assumption)]
          exact ret _ _ _ (by assumption) (by assumption)
    case ret =>
      intro t9 h9 tk9 F9 N9
      k_steps
      refine' ret _ _ _ _ _ _ _ (by assumption) (by assumption) ?r2 (by assumption) (news_sub (by assumption) (sub_cons ?m1 (sub_cons ?m2 ?m4)))
      case m1 => k_mem
      case m2 => k_mem
      case m4 => repeat (first | exact sub_refl | refine sub_tail ?_)
      case r2 => first | assumption | exact restLt_ne hR (by omega)
  · have hz : ds = [] := List.length_eq_zero_iff.mp (by omega)
    have e0 : dv n ds = 0 := by rw [hz]; rfl
    rw [e0] at ret
    refine' ret _ _ _ _ _ _ _ (by assumption) (by assumption) ?r2 (by assumption) (news_sub (by assumption) (sub_cons ?m1 (sub_cons ?m2 ?m4)))
    case m1 => k_mem
    case m2 => k_mem
    case m4 => repeat (first | exact sub_refl | refine sub_tail ?_)
    case r2 => first | assumption | exact restLt_ne hR (by omega)
end
section
theorem i2d_call {w : World} {p : Program} {loose : List Str} {mean : ExcName → Option Value} {mg mb : Str → Option Value} (dp un : Nat) (gd : Option (List Code)) (cn : Str) (cs : Scope) (a : Addr) (ccd : Value) (cl : List (Str × Addr)) (outer : List Env) (A₀ : Around) (base h₀ : Heap) (L : Addr) (m : Str → Option Value) (s : Shared) (Q E : Value → Shared → Prop) (nw l1 rest : List (Addr × Obj)) (x n : Int) (tx tn : Tok) (B : Below A₀ base outer h₀) (F : Fr h₀ L s.heap m) (X : (hd.heap_39 w.params).In h₀) (N : News h₀ L s.heap nw) (T : Top p loose mean mg mb h₀) (hk : cs.kind = .function)
    (C : CodeHd base 66 62) (hS : TabSt 62 54 qual1 l1) (hs1 : ∀ p ∈ l1, p ∈ nw) (hs2 : ∀ p ∈ rest, p ∈ nw) (hA : Ap l1 rest) (hx : 0 ≤ x) (hx2 : x < 1048576) (hn : 0 < n) (hn2 : n < 40)
    (hdp : dp + 42 < recursionLimit) (hun : un + 400 < cLine)
    (ret : ∀ (D : Addr) (vs : List Value) (l1' : List (Addr × Obj)) (h' : Heap) (tk' : Nat), IntsAre vs (dg n x (nd x n).toNat) → TabSt 62 54 qual1 l1' → Ap l1' rest → RestOff l1' D → RestLt rest D → Fr h₀ L h' m →
      News h₀ L h' ((D, W.listOf vs.toArray 0) :: (l1' ++ rest)) → Q (.ref D) { s with heap := h', toks := tk' }) :
    wpAny (model Challenge.rw_rl0055_02.row.prog w) (ktrTop dp un gd cn cs L a ccd cl outer) (call (.ref 67) [.int x tx, .int n tn]) Q E s := by
  rcases hS with rfl | ⟨c0, oc0, vs0, t0, rfl, hd0, hv0⟩
  · refine i2d_miss dp un gd cn cs a ccd cl outer A₀ base h₀ L m s Q E rest x n tx tn B F X (news_sub N (sub_cons (hs1 _ (.head _)) hs2)) T hk C (fun q hq => (hA _ (.head _) q hq).symm) hx hx2 hn hn2 hdp hun ?_
    intro D vs c oc vs1 t h' tk' I hd hv hR hc hne F' N'
    refine ret D vs [(62, tabObj (#[] ++ #[rawInt ((54 : Nat) : Int), rawInt ((4 : Nat) : Int), .ref c])), (c, oc)] h' tk' I (.inr ⟨c, oc, vs1, t, rfl, hd, hv⟩) ?_ ?_ hR F' N'
    · intro p hp q hq
      rcases List.mem_cons.mp hp with rfl | hp
      · exact hA (62, tabObj #[]) (.head _) q hq
      · rw [List.mem_singleton.mp hp]; exact (hc q hq).symm
    · intro p hp
      rcases List.mem_cons.mp hp with rfl | hp
      · exact fun e => hne.1 e.symm
      · rw [List.mem_singleton.mp hp]; exact fun e => hne.2 e.symm
  · refine i2d_hit dp un gd cn cs a ccd cl outer A₀ base h₀ L m s Q E rest c0 oc0 vs0 t0 hd0 hv0 (fun q hq => (hA _ (.tail _ (.head _)) q hq).symm) x n tx tn B F X (news_sub N (sub_cons (hs1 _ (.head _)) (sub_cons (hs1 _ (.tail _ (.head _))) hs2))) T hk C (fun q hq => (hA _ (.head _) q hq).symm) hx hx2 hn hn2 hdp hun ?_
    intro D vs c oc vs1 t h' tk' I hd hv hR hc hne F' N'
    refine ret D vs [(62, tabObj (#[] ++ #[rawInt ((54 : Nat) : Int), rawInt ((4 : Nat) : Int), .ref c])), (c, oc)] h' tk' I (.inr ⟨c, oc, vs1, t, rfl, hd, hv⟩) ?_ ?_ hR F' N'
    · intro p hp q hq
      rcases List.mem_cons.mp hp with rfl | hp
      · exact hA (62, _) (.head _) q hq
      · rw [List.mem_singleton.mp hp]; exact (hc q hq).symm
    · intro p hp
      rcases List.mem_cons.mp hp with rfl | hp
      · exact fun e => hne.1 e.symm
      · rw [List.mem_singleton.mp hp]; exact fun e => hne.2 e.symm
theorem d2i_call {w : World} {p : Program} {loose : List Str} {mean : ExcName → Option Value} {mg mb : Str → Option Value} (dp un : Nat) (gd : Option (List Code)) (cn : Str) (cs : Scope) (a : Addr) (ccd : Value) (cl : List (Str × Addr)) (outer : List Env) (A₀ : Around) (base h₀ : Heap) (L : Addr) (m : Str → Option Value) (s : Shared) (Q E : Value → Shared → Prop) (nw l2 rest : List (Addr × Obj)) (D : Addr) (vs : List Value) (ds : List Int) (c : Nat) (n : Int) (tn : Tok) (B : Below A₀ base outer h₀) (F : Fr h₀ L s.heap m) (X : (hd.heap_39 w.params).In h₀) (N : News h₀ L s.heap nw) (T : Top p loose mean mg mb h₀) (hk : cs.kind = .function)
    (C : CodeHd base 73 69) (hS : TabSt 69 69 qual2 l2) (hs1 : ∀ p ∈ l2, p ∈ nw) (hsD : (D, W.listOf vs.toArray c) ∈ nw) (hs2 : ∀ p ∈ rest, p ∈ nw) (hA : Ap l2 rest) (hD : RestOff l2 D)
    (I : IntsAre vs ds) (hdg : Digits n ds) (hl : ds.length < 40) (hn : 0 < n) (hn2 : n < 40) (hb : n * ds.length ≤ 60)
    (hdp : dp + 42 < recursionLimit) (hun : un + 400 < cLine)
    (ret : ∀ (t1 : Tok) (l2' : List (Addr × Obj)) (h' : Heap) (tk' : Nat), TabSt 69 69 qual2 l2' → Ap l2' rest → Fr h₀ L h' m →
      News h₀ L h' (l2' ++ rest) → Q (.int (dv n ds) t1) { s with heap := h', toks := tk' }) :
    wpAny (model Challenge.rw_rl0055_02.row.prog w) (ktrTop dp un gd cn cs L a ccd cl outer) (call (.ref 74) [.ref D, .int n tn]) Q E s := by
  rcases hS with rfl | ⟨c0, oc0, vs0, t0, rfl, hd0, hv0⟩
  · refine d2i_miss dp un gd cn cs a ccd cl outer A₀ base h₀ L m s Q E rest D vs ds c n tn B F X (news_sub N (sub_cons (hs1 _ (.head _)) (sub_cons hsD hs2))) T hk C (fun q hq => (hA _ (.head _) q hq).symm) (fun e => hD _ (.head _) e.symm) I hdg hl hn hn2 hb hdp hun ?_
    intro t1 c oc vs1 t h' tk' hd hv hc F' N'
    refine ret t1 [(69, tabObj (#[] ++ #[rawInt ((69 : Nat) : Int), rawInt ((4 : Nat) : Int), .ref c])), (c, oc)] h' tk' (.inr ⟨c, oc, vs1, t, rfl, hd, hv⟩) ?_ F' N'
    intro p hp q hq
    rcases List.mem_cons.mp hp with rfl | hp
    · exact hA (69, tabObj #[]) (.head _) q hq
    · rw [List.mem_singleton.mp hp]; exact (hc q hq).symm
  · refine d2i_hit dp un gd cn cs a ccd cl outer A₀ base h₀ L m s Q E rest c0 oc0 vs0 t0 hd0 hv0 (fun q hq => (hA _ (.tail _ (.head _)) q hq).symm) D vs ds c n tn B F X (news_sub N (sub_cons (hs1 _ (.head _)) (sub_cons (hs1 _ (.tail _ (.head _))) (sub_cons hsD hs2)))) T hk C (fun q hq => (hA _ (.head _) q hq).symm) (fun e => hD _ (.head _) e.symm) I hdg hl hn hn2 hb hdp hun ?_
    intro t1 c oc vs1 t h' tk' hd hv hc F' N'
    refine ret t1 [(69, tabObj (#[] ++ #[rawInt ((69 : Nat) : Int), rawInt ((4 : Nat) : Int), .ref c])), (c, oc)] h' tk' (.inr ⟨c, oc, vs1, t, rfl, hd, hv⟩) ?_ F' N'
    intro p hp q hq
    rcases List.mem_cons.mp hp with rfl | hp
    · exact hA (69, _) (.head _) q hq
    · rw [List.mem_singleton.mp hp]; exact (hc q hq).symm
end
section
theorem pos_call {w : World} {p : Program} {loose : List Str} {mean : ExcName → Option Value} {mg mb : Str → Option Value} (dp un : Nat) (gd : Option (List Code)) (cn : Str) (cs : Scope) (a : Addr) (ccd : Value) (cl : List (Str × Addr)) (outer : List Env) (A₀ : Around) (base h₀ : Heap) (L : Addr) (m : Str → Option Value) (s : Shared) (Q E : Value → Shared → Prop) (nw l1 l2 rest : List (Addr × Obj)) (x y : Int) (tx ty : Tok) (B : Below A₀ base outer h₀) (F : Fr h₀ L s.heap m) (X : (hd.heap_39 w.params).In h₀) (N : News h₀ L s.heap nw) (T : Top p loose mean mg mb h₀) (hk : cs.kind = .function)
    (C1 : CodeHd base 66 62) (C2 : CodeHd base 73 69) (hS1 : TabSt 62 54 qual1 l1) (hS2 : TabSt 69 69 qual2 l2) (hs1 : ∀ p ∈ l1, p ∈ nw) (hs2 : ∀ p ∈ l2 ++ rest, p ∈ nw) (hA : Ap l1 (l2 ++ rest)) (hA2 : Ap l2 rest)
    (hx : 0 ≤ x) (hx2 : x < 1048576) (hy : 0 < y) (hy2 : y < 1048576) (hb1 : 0 < (Builtin.Int.intBits y : Int)) (hb2 : (Builtin.Int.intBits y : Int) ≤ 20)
    (hdp : dp + 50 < recursionLimit) (hun : un + 420 < cLine)
    (ret : ∀ (D : Addr) (t1 t2 : Tok) (l1' l2' : List (Addr × Obj)) (h' : Heap) (tk' : Nat), TabSt 62 54 qual1 l1' → TabSt 69 69 qual2 l2' → Ap l1' (l2' ++ rest) → Ap l2' rest → Fr h₀ L h' m →
      News h₀ L h' ((D, ({ cls := .type "tuple", data := .seq #[.int (x / y) t1, .int (x % y) t2] } : Obj)) :: (l1' ++ (l2' ++ rest))) → RestLt (l1' ++ (l2' ++ rest)) D → Q (.ref D) { s with heap := h', toks := tk' }) :
    wpAny (model Challenge.rw_rl0055_02.row.prog w) (ktrTop dp un gd cn cs L a ccd cl outer) (call (.ref 81) [.int x tx, .int y ty]) Q E s := by
  k_with_none
  k_with "m all" => first | (refine List.forall_mem_cons.mpr ⟨?ka1, ?ka2⟩; (case ka1 => exact neN (by omega)); (case ka2 => k_all)) | exact restLt_ne (by assumption) (by omega) | exact (by assumption : RestOff _ _) | exact restLt_ne (rest_of_allLt (by assumption)) (by omega) | exact restLt_ne (rest_of_allLt (And.right (by assumption))) (by omega) | exact restLt_ne (rest_of_allLt (And.right (And.right (by assumption)))) (by omega)
  k_with "m UnrEnd" => (refine unr_cons (by assumption) (by assumption) (by k_all) ?_)
  k_with "m call ref" => (k_here; (with_reducible show wpAny _ _ (call (Value.ref 67) _) _ _ _); k_dflt (refine' i2d_call _ _ _ _ _ _ _ _ _ _ _ _ _ _ _ _ _ _ _ _ _ _ _ _ ?b1 ?b2 ?b3 ?b4 ?b5 ?b6 ?c1 ?c2 ?c3 ?c4 ?c5 ?d1 ?d2 ?d3 ?d4 ?d5 ?d6 ?_); (case b1 => k_asm); (case b2 => k_asm); (case b3 => k_asm); (case b4 => k_asm); (case b5 => k_asm); (case b6 => rfl); (case c1 => assumption); (case c2 => assumption); (case c3 => assumption); (case c4 => assumption); (case c5 => assumption); (case d1 => assumption); (case d2 => assumption); (case d3 => omega); (case d4 => omega); (case d5 => ktr_room); (case d6 => ktr_units); (intro D9 vs9 l9 h9 tk9 I9 S9 A9 O9 R9 F9 N9); (try dsimp only); (try k_sweep))
  k_with "m call ref" => (k_here; (with_reducible show wpAny _ _ (call (Value.ref 53) _) _ _ _); k_dflt (refine' div_call _ _ _ _ _ _ _ _ _ _ _ _ _ _ _ _ _ _ _ _ _ _ _ _ ?b1 ?b2 ?b3 ?b4 ?b5 ?b6 ?c1 ?c2 ?c3 ?d5 ?d6 ?_); (case b1 => k_asm); (case b2 => k_asm); (case b3 => k_asm); (case b4 => k_asm); (case b5 => k_asm); (case b6 => rfl); (case c1 => assumption); (case c2 => omega); (case c3 => omega); (case d5 => ktr_room); (case d6 => ktr_units); (intro D9 t8 t9 h9 tk9 F9 N9 l9); (try dsimp only); (try simp only [AllLt, and_true] at l9); (try k_sweep))
  k_with "m call builtin:list.reverse" => (k_here; k_dflt (refine' kl_reverse ?F ?N ?e ?U ?z ?_; (case F => k_asm); (case N => k_asm); (case U => k_upd); (case e => exact rfl); (case z => exact small_size (by assumption))); intro h' F' N'; (try k_sweep))
  w_top off
  revert X; k_fill; intro X
  refine wpAny_call ?_
  k_dflt cell_enter
  k_steps
  have hR9 := rest_of_allLt (And.right (by assumption : _ ∧ AllLt _ _))
  refine' pos_loop (y := y) (n := (Builtin.Int.intBits y : Int)) [Str.ofString "a_digit", Str.ofString "q_digit"] ?h1 ?h2 ?h3 ?h4 ?h5 ?h6 hy ?h7 ?h8 ?turn ?done
  case h1 => rfl
  case h2 => k_asm
  case h3 => k_asm
  case h4 => exact restLt_ne hR9 (by omega)
  case h5 => exact neN (by omega)
  case h6 => exact neN (by omega)
  case h7 => assumption
  case h8 => rfl
  case turn =>
    intro pre d post r tr qs qn c u it t h tk e hI hL F N
    dsimp only [kstB] at F
    have hr0 := hL.1
    have hr1 := hL.2.1
    have hd := dg_mem e
    have hbt := ld_bits hL hd hy2 hb1 hb2
    have hq1 := ld_len hL hI e
    have hq2 := nd_le' hx hx2 hb1
    k_steps
    dsimp only [KrPost]
    refine' ⟨(_, _, qs ++ [_], qn ++ [_], c + 1), _, _, _, _, rfl, (by assumption), (by assumption), ?m1, sub_cons ?m2 (sub_cons ?m3 ?m4), IntsAre.append hI (.cons _ _ .nil), List.forall_mem_cons.mpr ⟨?m5, fun _ h => nomatch h⟩, ?m6, ld_turn hy hL hd⟩
    case m1 => k_mem
    case m5 => exact rfl
    case m2 =>
      simp only [List.push_toArray]
      k_mem
    case m3 => k_mem
    case m4 => repeat (first | exact sub_refl | refine sub_tail ?_)
    case m6 =>
      intro z h2 h3
      simp only [List.forall_mem_cons, List.not_mem_nil, false_implies, implies_true, and_true, ne_eq] at h2
      simp only [List.contains_cons, List.contains_nil, Bool.or_false, Bool.or_eq_false_iff, beq_eq_false_iff_ne, ne_eq] at h3
      simp [h2, h3]
  case done =>
    intro r tr qs qn c u h tk hI hL F N
    dsimp only [kstB] at F
    have e1 : qn.length = (nd x (Builtin.Int.intBits y : Int)).toNat := by have := hL.2.2.1; simpa [dg_len] using this
    have e2 := hI.length
    have hq2 := nd_le' hx hx2 hb1
    have hq3 : qs.length ≤ 20 := by omega
    k_steps
    refine' d2i_call _ _ _ _ _ _ _ _ _ _ _ _ _ _ _ _ _ _ l2 (_ ++ rest) _ _ qn.reverse _ _ _ ?b1 ?b2 ?b3 ?b4 ?b5 ?b6 C2 hS2 ?s1 ?s2 ?s3 ?s4 ?s5 (PyProof.Rows.IntsAre.reverse hI) (digits_rev hL.2.2.2.1) ?g1 hb1 ?g2 ?g3 ?d5 ?d6 ?ret
    case b4 => k_asm
    case s2 => k_mem
    case s4 => exact ap_swap (by assumption) hA2
    case s1 => exact sub_tail (sub_tail fun p hp => List.mem_append_right _ (List.mem_append_left _ hp))
    case s3 => exact sub_tail (sub_tail fun p hp => (List.mem_append.mp hp).elim (fun h => List.mem_append_left _ h) fun h => List.mem_append_right _ (List.mem_append_right _ h))
    case b1 => k_asm
    case b2 => k_asm
    case b3 => k_asm
    case b5 => k_asm
    case b6 => rfl
    case s5 => exact fun p hp => restLt_ne hR9 (Nat.le_refl _) p (List.mem_append_right _ (List.mem_append_left _ hp))
    case g1 => rw [List.length_reverse]; omega
    case g2 => omega
    case g3 => rw [List.length_reverse]; exact nd_prod hx hx2 hb1 hb2 e1
    case d5 => ktr_room
    case d6 => ktr_units
    case ret =>
      intro t1 l2' h9 tk9 S2 A2 F9 N9
      try dsimp only
      obtain ⟨e8, e9⟩ := pos_end hx hb1 hy hL
      subst e9
      rw [← e8] at ret
      k_steps
      refine' ret _ _ _ _ l2' _ _ (by assumption) S2 (ap_swap A2 (ap_right (by assumption))) (ap_right A2) (by assumption) (news_sub (by assumption) (sub_cons ?m1 (sub_tail sub_swap))) (restLt_of (by assumption) sub_swap)
      case m1 => k_mem
end
section
theorem bits_le20 {y : Int} (h : 0 < y) (h2 : y < 1048576) : (Builtin.Int.intBits y : Int) ≤ 20 := by
  have := bits_le (x := y) (k := 20) (by omega) (by simpa using h2)
  omega
theorem bits_pos' {y : Int} (h : 0 < y) : 0 < (Builtin.Int.intBits y : Int) := by
  have := bits_pos (x := y) (by omega)
  omega
theorem neg_div {x y : Int} (hx : x < 0) (hy : 0 < y) : Builtin.bitNot ((Builtin.bitNot x) / y) = x.fdiv y ∧ y + Builtin.bitNot ((Builtin.bitNot x) % y) = x.fmod y := by
  unfold Builtin.bitNot
  rw [Int.fdiv_eq_ediv_of_nonneg _ (by omega), Int.fmod_eq_emod_of_nonneg _ (by omega)]
  have a1 := Int.mul_ediv_add_emod (-x - 1) y
  have a2 := Int.emod_nonneg (-x - 1) (show y ≠ 0 by omega)
  have a3 := Int.emod_lt_of_pos (-x - 1) hy
  have := Int.ediv_emod_unique hy (a := x) (r := y + (-((-x - 1) % y) - 1)) (q := -((-x - 1) / y) - 1)
  have h6 := this.mpr ⟨by rw [Int.mul_sub, Int.mul_neg]; omega, by omega, by omega⟩
  exact ⟨h6.1.symm, h6.2.symm⟩
theorem flip_div {x y : Int} (hy : y < 0) : (-x).fdiv (-y) = x.fdiv y ∧ -((-x).fmod (-y)) = x.fmod y := by
  refine ⟨Int.neg_fdiv_neg .., ?_⟩
  rw [Int.fmod_def, Int.fmod_def, Int.neg_fdiv_neg, Int.neg_mul]
  omega
theorem nonneg_div {x y : Int} (hy : 0 < y) : x / y = x.fdiv y ∧ x % y = x.fmod y :=
  ⟨(Int.fdiv_eq_ediv_of_nonneg _ (by omega)).symm, (Int.fmod_eq_emod_of_nonneg _ (by omega)).symm⟩
theorem idm_a {w : World} {p : Program} {loose : List Str} {mean : ExcName → Option Value} {mg mb : Str → Option Value} (dp un : Nat) (gd : Option (List Code)) (cn : Str) (cs : Scope) (a : Addr) (ccd : Value) (cl : List (Str × Addr)) (outer : List Env) (A₀ : Around) (base h₀ : Heap) (L : Addr) (m : Str → Option Value) (s : Shared) (Q E : Value → Shared → Prop) (nw l1 l2 rest : List (Addr × Obj)) (x y : Int) (tx ty : Tok) (B : Below A₀ base outer h₀) (F : Fr h₀ L s.heap m) (X : (hd.heap_39 w.params).In h₀) (N : News h₀ L s.heap nw) (T : Top p loose mean mg mb h₀) (hk : cs.kind = .function)
    (C1 : CodeHd base 66 62) (C2 : CodeHd base 73 69) (hS1 : TabSt 62 54 qual1 l1) (hS2 : TabSt 69 69 qual2 l2) (hs1 : ∀ p ∈ l1, p ∈ nw) (hs2 : ∀ p ∈ l2 ++ rest, p ∈ nw) (hA : Ap l1 (l2 ++ rest)) (hA2 : Ap l2 rest)
    (hx : 0 ≤ x) (hx2 : x < 1048576) (hy : 0 < y) (hy2 : y < 1048576)
    (hdp : dp + 52 < recursionLimit) (hun : un + 430 < cLine)
    (ret : ∀ (D : Addr) (t1 t2 : Tok) (l1' l2' : List (Addr × Obj)) (h' : Heap) (tk' : Nat), TabSt 62 54 qual1 l1' → TabSt 69 69 qual2 l2' → Ap l1' (l2' ++ rest) → Ap l2' rest → Fr h₀ L h' m →
      News h₀ L h' ((D, ({ cls := .type "tuple", data := .seq #[.int (x.fdiv y) t1, .int (x.fmod y) t2] } : Obj)) :: (l1' ++ (l2' ++ rest))) → RestLt (l1' ++ (l2' ++ rest)) D → Q (.ref D) { s with heap := h', toks := tk' }) :
    wpAny (model Challenge.rw_rl0055_02.row.prog w) (ktrTop dp un gd cn cs L a ccd cl outer) (call (.ref 88) [.int x tx, .int y ty]) Q E s := by
  k_with_none
  k_with "m all" => first | (refine List.forall_mem_cons.mpr ⟨?ka1, ?ka2⟩; (case ka1 => exact neN (by omega)); (case ka2 => k_all)) | exact restLt_ne (by assumption) (by omega) | exact (by assumption : RestOff _ _) | exact restLt_ne (rest_of_allLt (by assumption)) (by omega) | exact restLt_ne (rest_of_allLt (And.right (by assumption))) (by omega) | exact restLt_ne (rest_of_allLt (And.right (And.right (by assumption)))) (by omega)
  k_with "m UnrEnd" => (refine unr_cons (by assumption) (by assumption) (by k_all) ?_)
  w_top off
  revert X; k_fill; intro X
  rw [← (nonneg_div (x := x) hy).1, ← (nonneg_div (x := x) hy).2] at ret
  refine wpAny_call ?_
  k_dflt cell_enter
  k_steps
  · exfalso; omega
  · k_dflt (refine' pos_call _ _ _ _ _ _ _ _ _ _ _ _ _ _ _ _ _ nw l1 l2 rest x y _ _ ?b1 ?b2 ?b3 ?b4 ?b5 ?b6 C1 C2 hS1 hS2 hs1 hs2 hA hA2 hx hx2 hy hy2 (bits_pos' hy) (bits_le20 hy hy2) ?d5 ?d6 ?ret)
    case b1 => k_asm
    case b2 => k_asm
    case b3 => k_asm
    case b4 => k_asm
    case b5 => k_asm
    case b6 => rfl
    case d5 => ktr_room
    case d6 => ktr_units
    case ret =>
      intro D t1 t2 l1' l2' h9 tk9 S1 S2 A1 A2 F9 N9 R9
      try dsimp only
      k_steps
      exact ret _ _ _ _ _ _ _ S1 S2 A1 A2 (by assumption) (by assumption) R9
theorem idm_b {w : World} {p : Program} {loose : List Str} {mean : ExcName → Option Value} {mg mb : Str → Option Value} (dp un : Nat) (gd : Option (List Code)) (cn : Str) (cs : Scope) (a : Addr) (ccd : Value) (cl : List (Str × Addr)) (outer : List Env) (A₀ : Around) (base h₀ : Heap) (L : Addr) (m : Str → Option Value) (s : Shared) (Q E : Value → Shared → Prop) (nw l1 l2 rest : List (Addr × Obj)) (x y : Int) (tx ty : Tok) (B : Below A₀ base outer h₀) (F : Fr h₀ L s.heap m) (X : (hd.heap_39 w.params).In h₀) (N : News h₀ L s.heap nw) (T : Top p loose mean mg mb h₀) (hk : cs.kind = .function)
    (C1 : CodeHd base 66 62) (C2 : CodeHd base 73 69) (hS1 : TabSt 62 54 qual1 l1) (hS2 : TabSt 69 69 qual2 l2) (hs1 : ∀ p ∈ l1, p ∈ nw) (hs2 : ∀ p ∈ l2 ++ rest, p ∈ nw) (hA : Ap l1 (l2 ++ rest)) (hA2 : Ap l2 rest)
    (hx : x < 0) (hx2 : -1048576 < x) (hy : 0 < y) (hy2 : y < 1048576)
    (hdp : dp + 54 < recursionLimit) (hun : un + 440 < cLine)
    (ret : ∀ (D : Addr) (t1 t2 : Tok) (l1' l2' : List (Addr × Obj)) (h' : Heap) (tk' : Nat), TabSt 62 54 qual1 l1' → TabSt 69 69 qual2 l2' → Ap l1' (l2' ++ rest) → Ap l2' rest → Fr h₀ L h' m →
      News h₀ L h' ((D, ({ cls := .type "tuple", data := .seq #[.int (x.fdiv y) t1, .int (x.fmod y) t2] } : Obj)) :: (l1' ++ (l2' ++ rest))) → RestLt (l1' ++ (l2' ++ rest)) D → Q (.ref D) { s with heap := h', toks := tk' }) :
    wpAny (model Challenge.rw_rl0055_02.row.prog w) (ktrTop dp un gd cn cs L a ccd cl outer) (call (.ref 88) [.int x tx, .int y ty]) Q E s := by
  k_with_none
  k_with "m all" => first | (refine List.forall_mem_cons.mpr ⟨?ka1, ?ka2⟩; (case ka1 => exact neN (by omega)); (case ka2 => k_all)) | exact restLt_ne (by assumption) (by omega) | exact (by assumption : RestOff _ _) | exact restLt_ne (rest_of_allLt (by assumption)) (by omega) | exact restLt_ne (rest_of_allLt (And.right (by assumption))) (by omega) | exact restLt_ne (rest_of_allLt (And.right (And.right (by assumption)))) (by omega)
  k_with "m UnrEnd" => (refine unr_cons (by assumption) (by assumption) (by k_all) ?_)
  w_top off
  revert X; k_fill; intro X
  rw [← (neg_div hx hy).1, ← (neg_div hx hy).2, (nonneg_div (x := Builtin.bitNot x) hy).1, (nonneg_div (x := Builtin.bitNot x) hy).2] at ret
  refine wpAny_call ?_
  k_dflt cell_enter
  k_steps
  · exfalso; omega
  · k_dflt (refine' idm_a _ _ _ _ _ _ _ _ _ _ _ _ _ _ _ _ _ nw l1 l2 rest (Builtin.bitNot x) y _ _ ?b1 ?b2 ?b3 ?b4 ?b5 ?b6 C1 C2 hS1 hS2 hs1 hs2 hA hA2 (by unfold Builtin.bitNot; omega) (by unfold Builtin.bitNot; omega) hy hy2 ?d5 ?d6 ?ret)
    case b1 => k_asm
    case b2 => k_asm
    case b3 => k_asm
    case b4 => k_asm
    case b5 => k_asm
    case b6 => rfl
    case d5 => ktr_room
    case d6 => ktr_units
    case ret =>
      intro D t1 t2 l1' l2' h9 tk9 S1 S2 A1 A2 F9 N9 R9
      try dsimp only
      k_steps
      refine' ret _ _ _ _ _ _ _ S1 S2 A1 A2 (by assumption) (news_sub (by assumption) (sub_cons ?m1 (sub_tail (sub_tail sub_refl)))) ?m2
      case m1 => k_mem
      case m2 => exact restLt_mono R9 (by omega)
theorem idm_c0 {w : World} {p : Program} {loose : List Str} {mean : ExcName → Option Value} {mg mb : Str → Option Value} (dp un : Nat) (gd : Option (List Code)) (cn : Str) (cs : Scope) (a : Addr) (ccd : Value) (cl : List (Str × Addr)) (outer : List Env) (A₀ : Around) (base h₀ : Heap) (L : Addr) (m : Str → Option Value) (s : Shared) (Q E : Value → Shared → Prop) (nw l1 l2 rest : List (Addr × Obj)) (x y : Int) (tx ty : Tok) (B : Below A₀ base outer h₀) (F : Fr h₀ L s.heap m) (X : (hd.heap_39 w.params).In h₀) (N : News h₀ L s.heap nw) (T : Top p loose mean mg mb h₀) (hk : cs.kind = .function)
    (C1 : CodeHd base 66 62) (C2 : CodeHd base 73 69) (hS1 : TabSt 62 54 qual1 l1) (hS2 : TabSt 69 69 qual2 l2) (hs1 : ∀ p ∈ l1, p ∈ nw) (hs2 : ∀ p ∈ l2 ++ rest, p ∈ nw) (hA : Ap l1 (l2 ++ rest)) (hA2 : Ap l2 rest)
    (hx : x ≤ 0) (hx2 : -1048576 < x) (hy : y < 0) (hy2 : -1048576 < y)
    (hdp : dp + 56 < recursionLimit) (hun : un + 450 < cLine)
    (ret : ∀ (D : Addr) (t1 t2 : Tok) (l1' l2' : List (Addr × Obj)) (h' : Heap) (tk' : Nat), TabSt 62 54 qual1 l1' → TabSt 69 69 qual2 l2' → Ap l1' (l2' ++ rest) → Ap l2' rest → Fr h₀ L h' m →
      News h₀ L h' ((D, ({ cls := .type "tuple", data := .seq #[.int (x.fdiv y) t1, .int (x.fmod y) t2] } : Obj)) :: (l1' ++ (l2' ++ rest))) → RestLt (l1' ++ (l2' ++ rest)) D → Q (.ref D) { s with heap := h', toks := tk' }) :
    wpAny (model Challenge.rw_rl0055_02.row.prog w) (ktrTop dp un gd cn cs L a ccd cl outer) (call (.ref 88) [.int x tx, .int y ty]) Q E s := by
  k_with_none
  k_with "m all" => first | (refine List.forall_mem_cons.mpr ⟨?ka1, ?ka2⟩; (case ka1 => exact neN (by omega)); (case ka2 => k_all)) | exact restLt_ne (by assumption) (by omega) | exact (by assumption : RestOff _ _) | exact restLt_ne (rest_of_allLt (by assumption)) (by omega) | exact restLt_ne (rest_of_allLt (And.right (by assumption))) (by omega) | exact restLt_ne (rest_of_allLt (And.right (And.right (by assumption)))) (by omega)
  k_with "m UnrEnd" => (refine unr_cons (by assumption) (by assumption) (by k_all) ?_)
  w_top off
  revert X; k_fill; intro X
  rw [← (flip_div (x := x) hy).1, ← (flip_div (x := x) hy).2] at ret
  refine wpAny_call ?_
  k_dflt cell_enter
  k_steps
  · exfalso; omega
  · k_dflt (refine' idm_a _ _ _ _ _ _ _ _ _ _ _ _ _ _ _ _ _ nw l1 l2 rest (-x) (-y) _ _ ?b1 ?b2 ?b3 ?b4 ?b5 ?b6 C1 C2 hS1 hS2 hs1 hs2 hA hA2 (by omega) (by omega) (by omega) (by omega) ?d5 ?d6 ?ret)
    case b1 => k_asm
    case b2 => k_asm
    case b3 => k_asm
    case b4 => k_asm
    case b5 => k_asm
    case b6 => rfl
    case d5 => ktr_room
    case d6 => ktr_units
    case ret =>
      intro D t1 t2 l1' l2' h9 tk9 S1 S2 A1 A2 F9 N9 R9
      try dsimp only
      k_steps
      refine' ret _ _ _ _ _ _ _ S1 S2 A1 A2 (by assumption) (news_sub (by assumption) (sub_cons ?m1 (sub_tail (sub_tail sub_refl)))) ?m2
      case m1 => k_mem
      case m2 => exact restLt_mono R9 (by omega)
theorem idm_c1 {w : World} {p : Program} {loose : List Str} {mean : ExcName → Option Value} {mg mb : Str → Option Value} (dp un : Nat) (gd : Option (List Code)) (cn : Str) (cs : Scope) (a : Addr) (ccd : Value) (cl : List (Str × Addr)) (outer : List Env) (A₀ : Around) (base h₀ : Heap) (L : Addr) (m : Str → Option Value) (s : Shared) (Q E : Value → Shared → Prop) (nw l1 l2 rest : List (Addr × Obj)) (x y : Int) (tx ty : Tok) (B : Below A₀ base outer h₀) (F : Fr h₀ L s.heap m) (X : (hd.heap_39 w.params).In h₀) (N : News h₀ L s.heap nw) (T : Top p loose mean mg mb h₀) (hk : cs.kind = .function)
    (C1 : CodeHd base 66 62) (C2 : CodeHd base 73 69) (hS1 : TabSt 62 54 qual1 l1) (hS2 : TabSt 69 69 qual2 l2) (hs1 : ∀ p ∈ l1, p ∈ nw) (hs2 : ∀ p ∈ l2 ++ rest, p ∈ nw) (hA : Ap l1 (l2 ++ rest)) (hA2 : Ap l2 rest)
    (hx : 0 < x) (hx2 : x < 1048576) (hy : y < 0) (hy2 : -1048576 < y)
    (hdp : dp + 56 < recursionLimit) (hun : un + 450 < cLine)
    (ret : ∀ (D : Addr) (t1 t2 : Tok) (l1' l2' : List (Addr × Obj)) (h' : Heap) (tk' : Nat), TabSt 62 54 qual1 l1' → TabSt 69 69 qual2 l2' → Ap l1' (l2' ++ rest) → Ap l2' rest → Fr h₀ L h' m →
      News h₀ L h' ((D, ({ cls := .type "tuple", data := .seq #[.int (x.fdiv y) t1, .int (x.fmod y) t2] } : Obj)) :: (l1' ++ (l2' ++ rest))) → RestLt (l1' ++ (l2' ++ rest)) D → Q (.ref D) { s with heap := h', toks := tk' }) :
    wpAny (model Challenge.rw_rl0055_02.row.prog w) (ktrTop dp un gd cn cs L a ccd cl outer) (call (.ref 88) [.int x tx, .int y ty]) Q E s := by
  k_with_none
  k_with "m all" => first | (refine List.forall_mem_cons.mpr ⟨?ka1, ?ka2⟩; (case ka1 => exact neN (by omega)); (case ka2 => k_all)) | exact restLt_ne (by assumption) (by omega) | exact (by assumption : RestOff _ _) | exact restLt_ne (rest_of_allLt (by assumption)) (by omega) | exact restLt_ne (rest_of_allLt (And.right (by assumption))) (by omega) | exact restLt_ne (rest_of_allLt (And.right (And.right (by assumption)))) (by omega)
  k_with "m UnrEnd" => (refine unr_cons (by assumption) (by assumption) (by k_all) ?_)
  w_top off
  revert X; k_fill; intro X
  rw [← (flip_div (x := x) hy).1, ← (flip_div (x := x) hy).2] at ret
  refine wpAny_call ?_
  k_dflt cell_enter
  k_steps
  · exfalso; omega
  · k_dflt (refine' idm_b _ _ _ _ _ _ _ _ _ _ _ _ _ _ _ _ _ nw l1 l2 rest (-x) (-y) _ _ ?b1 ?b2 ?b3 ?b4 ?b5 ?b6 C1 C2 hS1 hS2 hs1 hs2 hA hA2 (by omega) (by omega) (by omega) (by omega) ?d5 ?d6 ?ret)
    case b1 => k_asm
    case b2 => k_asm
    case b3 => k_asm
    case b4 => k_asm
    case b5 => k_asm
    case b6 => rfl
    case d5 => ktr_room
    case d6 => ktr_units
    case ret =>
      intro D t1 t2 l1' l2' h9 tk9 S1 S2 A1 A2 F9 N9 R9
      try dsimp only
      k_steps
      refine' ret _ _ _ _ _ _ _ S1 S2 A1 A2 (by assumption) (news_sub (by assumption) (sub_cons ?m1 (sub_tail (sub_tail sub_refl)))) ?m2
      case m1 => k_mem
      case m2 => exact restLt_mono R9 (by omega)
theorem idm_call {w : World} {p : Program} {loose : List Str} {mean : ExcName → Option Value} {mg mb : Str → Option Value} (dp un : Nat) (gd : Option (List Code)) (cn : Str) (cs : Scope) (a : Addr) (ccd : Value) (cl : List (Str × Addr)) (outer : List Env) (A₀ : Around) (base h₀ : Heap) (L : Addr) (m : Str → Option Value) (s : Shared) (Q E : Value → Shared → Prop) (nw l1 l2 rest : List (Addr × Obj)) (x y : Int) (tx ty : Tok) (B : Below A₀ base outer h₀) (F : Fr h₀ L s.heap m) (X : (hd.heap_39 w.params).In h₀) (N : News h₀ L s.heap nw) (T : Top p loose mean mg mb h₀) (hk : cs.kind = .function)
    (C1 : CodeHd base 66 62) (C2 : CodeHd base 73 69) (hS1 : TabSt 62 54 qual1 l1) (hS2 : TabSt 69 69 qual2 l2) (hs1 : ∀ p ∈ l1, p ∈ nw) (hs2 : ∀ p ∈ l2 ++ rest, p ∈ nw) (hA : Ap l1 (l2 ++ rest)) (hA2 : Ap l2 rest)
    (hx : -1048576 < x) (hx2 : x < 1048576) (hy : -1048576 < y) (hy2 : y < 1048576) (hy0 : y ≠ 0)
    (hdp : dp + 56 < recursionLimit) (hun : un + 450 < cLine)
    (ret : ∀ (D : Addr) (t1 t2 : Tok) (l1' l2' : List (Addr × Obj)) (h' : Heap) (tk' : Nat), TabSt 62 54 qual1 l1' → TabSt 69 69 qual2 l2' → Ap l1' (l2' ++ rest) → Ap l2' rest → Fr h₀ L h' m →
      News h₀ L h' ((D, ({ cls := .type "tuple", data := .seq #[.int (x.fdiv y) t1, .int (x.fmod y) t2] } : Obj)) :: (l1' ++ (l2' ++ rest))) → RestLt (l1' ++ (l2' ++ rest)) D → Q (.ref D) { s with heap := h', toks := tk' }) :
    wpAny (model Challenge.rw_rl0055_02.row.prog w) (ktrTop dp un gd cn cs L a ccd cl outer) (call (.ref 88) [.int x tx, .int y ty]) Q E s := by
  by_cases h1 : 0 < y
  · by_cases h2 : 0 ≤ x
    · exact idm_a dp un gd cn cs a ccd cl outer A₀ base h₀ L m s Q E nw l1 l2 rest x y tx ty B F X N T hk C1 C2 hS1 hS2 hs1 hs2 hA hA2 h2 hx2 h1 hy2 (by omega) (by omega) ret
    · exact idm_b dp un gd cn cs a ccd cl outer A₀ base h₀ L m s Q E nw l1 l2 rest x y tx ty B F X N T hk C1 C2 hS1 hS2 hs1 hs2 hA hA2 (by omega) hx h1 hy2 (by omega) (by omega) ret
  · by_cases h2 : x ≤ 0
    · exact idm_c0 dp un gd cn cs a ccd cl outer A₀ base h₀ L m s Q E nw l1 l2 rest x y tx ty B F X N T hk C1 C2 hS1 hS2 hs1 hs2 hA hA2 h2 hx (by omega) hy hdp hun ret
    · exact idm_c1 dp un gd cn cs a ccd cl outer A₀ base h₀ L m s Q E nw l1 l2 rest x y tx ty B F X N T hk C1 C2 hS1 hS2 hs1 hs2 hA hA2 (by omega) hx2 (by omega) hy hdp hun ret
end
section
theorem parse_call {w : World} {p : Program} {loose : List Str} {mean : ExcName → Option Value} {mg mb : Str → Option Value} (dp un : Nat) (gd : Option (List Code)) (cn : Str) (cs : Scope) (a : Addr) (ccd : Value) (cl : List (Str × Addr)) (outer : List Env) (A₀ : Around) (base h₀ : Heap) (L : Addr) (m : Str → Option Value) (s : Shared) (Q E : Value → Shared → Prop) (nw : List (Addr × Obj)) (x : Str) (tx : Tok) (B : Below A₀ base outer h₀) (F : Fr h₀ L s.heap m) (X : (hd.heap_39 w.params).In h₀) (N : News h₀ L s.heap nw) (T : Top p loose mean mg mb h₀) (hk : cs.kind = .function)
    (hx : x.length ≤ 1000000) (hx5 : 5 ≤ x.length) (hx1 : (Txt.slice x none (some 3) != Str.ofString "257") = false) (hx2 : (Txt.slice x (some 3) (some 5) != Str.ofString " \"") = false)
    (hdp : dp + 1 < recursionLimit) (hun : un + 8 < cLine)
    (ret : ∀ (t1 : Tok) (h' : Heap) (tk' : Nat), Fr h₀ L h' m → News h₀ L h' nw → Q (.str ⟨(pq (x.cps.toList.drop 5)).toArray⟩ t1) { s with heap := h', toks := tk' }) :
    wpAny (model Challenge.rw_rl0055_02.row.prog w) (ktrTop dp un gd cn cs L a ccd cl outer) (call (.ref 46) [.str x tx]) Q E s := by
  k_with_none
  k_with "m all" => first | (refine List.forall_mem_cons.mpr ⟨?ka1, ?ka2⟩; (case ka1 => exact neN (by omega)); (case ka2 => k_all)) | exact restLt_ne (by assumption) (by omega) | exact (by assumption : RestOff _ _) | exact restLt_ne (rest_of_allLt (by assumption)) (by omega) | exact restLt_ne (rest_of_allLt (And.right (by assumption))) (by omega) | exact restLt_ne (rest_of_allLt (And.right (And.right (by assumption)))) (by omega)
  k_with "m UnrEnd" => (refine unr_cons (by assumption) (by assumption) (by k_all) ?_)
  k_with "exec While Compare cons nil" => k_while (fun _ i d => 5 ≤ i ∧ i ≤ (x.length : Int) ∧ (d.length : Int) ≤ i ∧ PInv x i d) (fun _ i d => x.length - i.toNat) "i" "dirname"
  k_with "state" => first | exact pst (pinv_start (by assumption)) | exact pst (pinv_other (by assumption) (by assumption) (by assumption)) | exact pst (pinv_quote (by assumption) (by assumption) (by assumption) (by assumption))
  w_top off
  revert X; k_fill; intro X
  refine wpAny_call ?_
  k_dflt cell_enter
  k_steps
  · exact str_q (Q := Q) (pend_last (by assumption) (by assumption) (by assumption) (by assumption)) (ret _ _ _ (by assumption) (by assumption))
  · exact str_q (Q := Q) (pend_next (by assumption) (by assumption) (by assumption) (by assumption) (by assumption)) (ret _ _ _ (by assumption) (by assumption))
  · exact str_q (Q := Q) (pend_out (by assumption) (by assumption)) (ret _ _ _ (by assumption) (by assumption))
end
section
section
variable {prog : Program} {w : World} {A : Around} {E : Value → Shared → Prop} {s : Shared}
theorem asked_none {M : Model} {K : Frag} {t : Tok} {Q : Bool → Shared → Prop} (X : K.In s.heap) (e : nsIn K cStatics sharingNotToldKey = some none) (h : Q false s) : wpAny M A (sharingNotTold t) Q E s := by
  unfold sharingNotTold
  exact wpAny_bind ((looks_nsIn X e).here (wpAny_pure h))
theorem same_float {M : Model} {K : Frag} {x y : UInt64} {t u : Tok} {Q : Bool → Shared → Prop} (X : K.In s.heap) (e : nsIn K cStatics sharingNotToldKey = some none) (ht : (t == 0 || u == 0) = false) (h1 : t = u → Q true s)
    (h2 : ∀ b, (b = true → (x == y && !Float64.isNaN x) = true) → Q b s) : wpAny M A (isSame (.float x t) (.float y u)) Q E s := by
  show wpAny M A (isSame.created (x == y && !Float64.isNaN x) t u) Q E s
  unfold isSame.created
  refine wpAny_ite ?_
  split
  · rename_i h; rw [ht] at h; exact absurd h Bool.false_ne_true
  refine wpAny_ite ?_
  split
  · rename_i h; exact wpAny_pure (h1 (eq_of_beq h))
  refine wpAny_ite ?_
  split
  · exact wpAny_pure (h2 _ fun h => absurd h Bool.false_ne_true)
  rename_i hq
  refine wpAny_bind (asked_none X e ?_)
  first | rw [if_neg Bool.false_ne_true] | simp only [Bool.false_eq_true, if_false]
  refine wpAny_bind (asked_none X e ?_)
  first | rw [if_neg Bool.false_ne_true] | simp only [Bool.false_eq_true, if_false]
  exact wpAny_bind (wpAny_rule (wpAny_bind (wpAny_askSetting (wpAny_pure (h2 _ fun _ => by simpa using hq)))))
theorem eqAt_float {K : Frag} {x y : UInt64} {t u : Tok} (X : K.In s.heap) (e : nsIn K cStatics sharingNotToldKey = some none) (ht : (t == 0 || u == 0) = false) (h1 : t = u → (Float64.cmp x y == some .eq) = true)
    (h2 : (x == y && !Float64.isNaN x) = true → (Float64.cmp x y == some .eq) = true) : SeqAt.EqAt A s (.float x t) (.float y u) (Float64.cmp x y == some .eq) := fun prog w E Q h => by
  unfold eqBool
  refine wpAny_holding ?_
  refine wpAny_ite_split (fun hab => ?_) (fun hab => ?_)
  · have hb := eq_of_beq hab
    injection hb with e1 e2
    rw [h1 e2] at h
    exact wpAny_bind (wpAny_rule (wpAny_pure h))
  · dsimp only
    refine wpAny_bind (same_float X e ht (fun et => ?_) fun b hb => ?_)
    · rw [h1 et] at h
      rw [if_pos rfl]
      exact wpAny_pure h
    · cases b with
      | true =>
        rw [h2 (hb rfl)] at h
        rw [if_pos rfl]
        exact wpAny_pure h
      | false =>
        rw [if_neg Bool.false_ne_true]
        exact wpAny_bind (AutoFloatOps.eq_0 (wpAny_truthy_bool h))
theorem oneLt_float {x y : UInt64} {t u : Tok} {Q : Bool → Shared → Prop} (b : Bool) (h : Q (Float64.cmp x y == some .lt) s) : wpAny (model prog w) A (oneLt' b (.float x t) (.float y u)) Q E s := by
  cases b with
  | false => exact kat_one _ _ (AutoFloatOps.lt_0 h)
  | true =>
    rw [oneLt'_eq]
    simp only [if_true]
    refine wpAny_bind (wpAny_cRoomFor_byValue rfl ?_)
    refine wpAny_bind (wpAny_callSpecialIfBound?_slot (AutoFloatOps.typeIs_float s x t) F.slot_float_lt ?_)
    refine call_gives F.slot_float_lt (AutoFloatOps.typeIs_float s x t) F.entry_float_lt (F.args_float_lt_2 _ _) (AutoFloatG5.float___lt___float_float_0 x t y u) ?_
    exact wpAny_truthy_bool h
end
end
section
/-- the tokens never fall -/
theorem runs_toks {M : Model} {Γ : Ctx} {p : Pos} {t : Sem PySem.Fin} {fs : List Frame} {s s' : Shared} {e : End} (h : Runs M Γ p t fs s e s') : s.toks ≤ s'.toks := by
  induction h with
  | done => exact Nat.le_refl _
  | raise => exact Nat.le_refl _
  | yield => exact Nat.le_refl _
  | fresh _ ih => exact Nat.le_trans (Nat.le_succ _) ih
  | again _ _ ih => exact ih
  | rule _ ih => exact ih
  | «at» _ ih => exact ih
  | load _ _ ih => exact ih
  | update _ _ ih => exact ih
  | loadIfAlive _ ih => exact ih
  | point _ ih => exact ih
  | alloc _ ih => exact ih
  | ask _ ih => exact ih
  | choose _ _ ih => exact ih
  | os _ ih => exact ih
  | handled _ ih => exact ih
  | genState _ _ ih => exact ih
  | stack _ ih => exact ih
  | thread _ ih => exact ih
  | newGen _ ih => exact ih
  | call _ _ ih1 ih2 => exact Nat.le_trans ih1 ih2
  | callSusp _ ih => exact ih
  | resumeFresh _ _ _ _ ih1 ih2 => exact Nat.le_trans ih1 ih2
  | resumeSuspended _ _ _ _ ih1 ih2 => exact Nat.le_trans ih1 ih2
  | resumeJustStarted _ _ _ ih => exact ih
  | resumeThrowFresh _ _ ih => exact ih
  | resumeRunning _ _ ih => exact ih
  | resumeFinished _ _ ih => exact ih
  | segRet _ _ ih1 ih2 => exact Nat.le_trans ih1 ih2
  | segGen _ _ ih1 ih2 => exact Nat.le_trans ih1 ih2
  | segSuspOut _ _ ih => exact ih
  | segSuspGen _ _ _ _ ih1 ih2 => exact Nat.le_trans ih1 ih2
theorem wakes_toks {M : Model} {Γ : Ctx} {p : Pos} {g : Nat} {r : Resume} {s s' : Shared} {res : GenResult} (h : Wakes M Γ p g r s res s') : s.toks ≤ s'.toks := by
  unfold Wakes at h
  split at h
  · exact h.elim
  · split at h
    · obtain ⟨e₁, s₁, h₁, _, _, rfl⟩ := h
      have := runs_toks h₁
      exact this
    · obtain ⟨_, rfl⟩ := h; exact Nat.le_refl _
    · obtain ⟨_, rfl⟩ := h; exact Nat.le_refl _
  · obtain ⟨e₁, s₁, h₁, _, _, rfl⟩ := h
    have := runs_toks h₁
    exact this
  · obtain ⟨_, rfl⟩ := h; exact Nat.le_refl _
  · obtain ⟨_, rfl⟩ := h; exact Nat.le_refl _
theorem wp_toks {α : Type} {M : Model} {Γ : Ctx} {Q : α → Pos → Shared → Prop} {E : Value → Pos → Shared → Prop} {n : Nat} (t : Sem α) : ∀ (p : Pos) (s : Shared), n ≤ s.toks → Sem.wp M Γ t Q E p s →
    Sem.wp M Γ t (fun a p' s' => Q a p' s' ∧ n ≤ s'.toks) (fun e p' s' => E e p' s' ∧ n ≤ s'.toks) p s := by
  induction t with
  | pure x => exact fun p s hn h => ⟨h, hn⟩
  | raise v => exact fun p s hn h => ⟨h, hn⟩
  | unsupported | finish | yield | fork | await | register => exact fun _ _ _ h => h
  | rule _ k ih | «at» _ k ih | alloc _ k ih | loadIfAlive _ k ih | point _ k ih | ask k ih | os _ _ k ih | handled _ k ih | newGen _ k ih | stack k ih | thread k ih => exact fun p s hn h => ih _ _ _ hn h
  | fresh k ih => exact fun p s hn h => ih _ _ { s with toks := s.toks + 1 } (Nat.le_succ_of_le hn) h
  | load a _ k ih | genState a k ih => exact fun p s hn ⟨o, ho, h⟩ => ⟨o, ho, ih _ _ _ hn h⟩
  | update a _ f k ih | choose _ _ k ih => exact fun p s hn ⟨ha, h⟩ => ⟨ha, ih _ _ _ hn h⟩
  | call c h g l k ih => exact fun p s hn ⟨r, s', hr, h⟩ => ⟨r, s', hr, ih r p s' (Nat.le_trans hn (runs_toks hr)) h⟩
  | resume g r l k ih => exact fun p s hn ⟨res, s', hw, h⟩ => ⟨res, s', hw, ih _ _ _ (Nat.le_trans hn (wakes_toks hw)) h⟩
noncomputable def TokLe (s s' : Shared) : Prop := s.toks ≤ s'.toks
theorem wpAny_tok {α : Type} {M : Model} {A : Around} {t : Sem α} {Q : α → Shared → Prop} {E : Value → Shared → Prop} {s : Shared}
    (h : wpAny M A t (fun a s' => TokLe s s' → Q a s') (fun e s' => TokLe s s' → E e s') s) : wpAny M A t Q E s := fun Γ p hΓ =>
  Sem.wp_mono M Γ t (fun _ _ _ q => q.1 q.2) (fun _ _ _ q => q.1 q.2) p s (wp_toks t p s (Nat.le_refl _) (h Γ p hΓ))
theorem wpAny_tokQ {α : Type} {M : Model} {A : Around} {t : Sem α} {Q : α → Shared → Prop} {E : Value → Shared → Prop} {s : Shared}
    (h : wpAny M A t (fun a s' => TokLe s s' → Q a s') E s) : wpAny M A t Q E s := wpAny_tok (wpAny_mono h (fun _ _ q => q) fun _ _ q _ => q)
theorem gen_tok {α : Type} {M : Model} {A : Around} {t : Sem α} {Q : α → Shared → Prop} {E : Value → Shared → Prop} {hp : Heap} {g : Array GenState} {d : Drawn} {X : Nat} {o : OsState}
    (h : ∀ tk, tk = X → wpAny M A t Q E ⟨hp, g, d, tk, o⟩) : wpAny M A t Q E ⟨hp, g, d, X, o⟩ := h X rfl
noncomputable def TokIn (lo hi t : Nat) : Prop := lo ≤ t ∧ t < hi
theorem tok_in {lo hi t : Nat} (h1 : lo ≤ t) (h2 : t < hi) : TokIn lo hi t := ⟨h1, h2⟩
theorem TokIn.mono {lo hi hi' t : Nat} (h : TokIn lo hi t) (hh : hi ≤ hi') : TokIn lo hi' t := ⟨h.1, Nat.lt_of_lt_of_le h.2 hh⟩
theorem TokIn.mono2 {lo lo' hi hi' t : Nat} (h : TokIn lo hi t) (hl : lo' ≤ lo) (hh : hi ≤ hi') : TokIn lo' hi' t := ⟨Nat.le_trans hl h.1, Nat.lt_of_lt_of_le h.2 hh⟩
theorem tok_three {lo hi a b c v : Nat} (hv : v = a ∨ v = b ∨ v = c) (h : TokIn lo hi a ∧ TokIn lo hi b ∧ TokIn lo hi c) : TokIn lo hi v := by
  rcases hv with rfl | rfl | rfl
  · exact h.1
  · exact h.2.1
  · exact h.2.2
noncomputable def KgEnd {σ : Type} (h₀ : Heap) (L : Addr) (s : Shared) (I : Addr) (it : Obj) (Led : σ → List (Addr × Obj)) (ps : σ → List (Str × Value)) (stored : List Str) (m₀ : Str → Option Value) (P : Nat → σ → Prop) (s₂ : Shared) : Prop :=
  ∃ (c' : σ) (h' : Heap) (tk : Nat) (m' : Str → Option Value) (news' : List (Addr × Obj)), s₂ = { s with heap := h', toks := tk } ∧ Fr h₀ L h' m' ∧ News h₀ L h' news' ∧ (I, it) ∈ news' ∧ (∀ p ∈ Led c', p ∈ news') ∧ RestOff (Led c') I ∧ (∀ p ∈ ps c', m' p.1 = some p.2) ∧ (∀ z, (∀ p ∈ ps c', z ≠ p.1) → stored.contains z = false → m' z = m₀ z) ∧ P tk c'
noncomputable def KgPost {σ : Type} (h₀ : Heap) (L : Addr) (s : Shared) (I : Addr) (it : Obj) (Led : σ → List (Addr × Obj)) (ps : σ → List (Str × Value)) (stored : List Str) (m₀ : Str → Option Value) (P : Nat → σ → Prop) (Q : Flow → Shared → Prop) (f : Flow) (s₂ : Shared) : Prop :=
  match f with
  | .ret v => Q (.ret v) s₂
  | .brk => Q .next s₂
  | _ => KgEnd h₀ L s I it Led ps stored m₀ P s₂
/-- behind the iterator: the loop itself, as the model has it -/
noncomputable def LoopT (prog : Program) (w : World) (A : Around) (env : Env) (x : Str) (px : Pos) (body : List Stmt) (Q : Flow → Shared → Prop) (E : Value → Shared → Prop) (it : Value) (s₂ : Shared) : Prop :=
  codeAny (model prog w) A (.forLoop (.Name x px) it body [] env) (fun r s' => match r with | .ok f => Q f s' | .error e => cameBackBy (model prog w) A env E e s') s₂
theorem For_T {prog : Program} {w : World} {A : Around} {E : Value → Shared → Prop} {s : Shared} {env : Env} {x : Str} {body : List Stmt} {Q : Flow → Shared → Prop} {px pos : Pos} {iter : PySem.Expr}
    (h : wpAny (model prog w) A (eval iter env) (fun xv s₁ => wpAny (model prog w) A (pyIter xv) (fun it s₂ => LoopT prog w A env x px body Q E it s₂) E s₁) E s)
    (hs : ∀ x, foldedSetIterable iter env x = pure x := by intro _; rfl) :
    wpAny (model prog w) A (exec (.For (.Name x px) iter body [] pos) env) Q E s := wpAny_For h hs
/-- a for over range(n): what holds between the turns (it may speak of the tokens); the turn may make what it keeps -/
theorem krange {σ : Type} {prog : Program} {w : World} {A : Around} {E : Value → Shared → Prop} {s : Shared} {env : Env} {h₀ : Heap} {x : Str} {px : Pos} {body : List Stmt} {Q : Flow → Shared → Prop} {r : Addr} {b₀ : Int} {t₀ u₀ v₀ : Tok} {m₀ : Str → Option Value} (n : Nat)
    (Led : σ → List (Addr × Obj)) (ps : σ → List (Str × Value)) (stored : List Str) (P : Nat → Nat → σ → Prop) (c₀ : σ)
    (hx : env.kindOf x = some .local) (hpk : (env.scope.kind == .class || (env.scope.kind == .module && env.locals != env.globals)) = false) (hE : PassesOwn (model prog w) A env E)
    (hh : A.handled = none) (hr : IsRange s.heap r 0 b₀ 1 t₀ u₀ v₀) (hsmall : Builtin.Range.small 0 b₀ 1 = true) (hn : Builtin.Range.rangeSize 0 b₀ 1 = (n : Int))
    (F : Fr h₀ env.locals s.heap m₀) (N : News h₀ env.locals s.heap (Led c₀)) (hk : ∀ p ∈ ps c₀, m₀ p.1 = some p.2) (hp : P 0 s.toks c₀) (hup : ∀ i tk tk' c, tk ≤ tk' → P i tk c → P i tk' c)
    (turn : ∀ (I : Addr) (i : Nat) (c : σ) (u : Str → Option Value) (it : Obj) (t : Tok) (h : Heap) (tk : Nat), i < n → RestOff (Led c) I → P i tk c →
      Fr h₀ env.locals h (fun y => if y = x then some (.int (i : Int) t) else kstB (fun z => if stored.contains z then u z else m₀ z) (ps c) y) → News h₀ env.locals h ((I, it) :: Led c) →
      wpAny (model prog w) A (execs body env) (KgPost h₀ env.locals s I it Led ps stored m₀ (P (i + 1)) Q) E { s with heap := h, toks := tk })
    (done : ∀ (c : σ) (u : Str → Option Value) (h : Heap) (tk : Nat), P n tk c → Fr h₀ env.locals h (kstB (fun z => if stored.contains z then u z else m₀ z) (ps c)) → News h₀ env.locals h (Led c) → Q .next { s with heap := h, toks := tk }) :
    wpAny (model prog w) A (pyIter (.ref r)) (fun it s₂ => LoopT prog w A env x px body Q E it s₂) E s := by
  refine wpAny_pyIter_range hr hsmall ?_
  have W : Walks prog w A s.heap.objs.size [s.heap.objs.size] [s.heap.objs.size] n (fun i v => i < n ∧ ∃ t, v = .int (0 + i * 1) t)
      (fun i h => IsRangeIter h s.heap.objs.size (0 + (i : Nat) * 1) ((n : Int) - (i : Nat)) 1) := (Walks.range hh _ 0 1 n).bound
  have hInew := next_is_new F
  have hIL : s.heap.objs.size ≠ env.locals := fun e => absurd F.ns.lt (e ▸ Nat.lt_irrefl _)
  have hroff : RestOff (Led c₀) s.heap.objs.size := fun p hp => Nat.ne_of_lt (Heap.lt_size (N p hp).1)
  have hst0 : IsRangeIter (s.heap.push { cls := .type "range_iterator", data := .fields #[rawInt 0, rawInt (Builtin.Range.rangeSize 0 b₀ 1), rawInt 1] }) s.heap.objs.size (0 + ((0 : Nat) : Int) * 1) ((n : Int) - ((0 : Nat) : Int)) 1 := by
    rw [hn]
    simpa using Heap.get?_push_size _ rfl
  generalize s.heap.objs.size = I at W hInew hIL hroff hst0 ⊢
  refine codeAny_forLoop
    (fun k s' => ∃ (c : σ) (h' : Heap) (tk : Nat) (m' : Str → Option Value) (i : Nat), s' = { s with heap := h', toks := tk } ∧ IsRangeIter h' I (0 + (i : Nat) * 1) ((n : Int) - (i : Nat)) 1 ∧ Fr h₀ env.locals h' m' ∧ News h₀ env.locals h' (Led c) ∧ RestOff (Led c) I ∧
      (∀ p ∈ ps c, m' p.1 = some p.2) ∧ (∀ z, (∀ p ∈ ps c, z ≠ p.1) → stored.contains z = false → m' z = m₀ z) ∧ P i tk c ∧ i ≤ n ∧ k = n + 1 - i) ?_ (n + 1)
    ⟨c₀, _, s.toks, m₀, 0, rfl, hst0, F.push _, (fun p hp => ⟨Heap.get?_push_of_some _ (N p hp).1, (N p hp).2⟩), hroff, hk, fun _ _ _ => rfl, hp, Nat.zero_le _, rfl⟩
  · rintro k s' ⟨c, h', tk, m', i, rfl, hst, F', N', hoff, h1, h2, hP, hi, rfl⟩
    have next : ∀ h₁ : Heap, (∀ b o, b ∉ [I] → h'.get? b = some o → h₁.get? b = some o) → Fr h₀ env.locals h₁ m' ∧ News h₀ env.locals h₁ (Led c) := fun h₁ hk₁ =>
      ⟨⟨F'.ns.at' fun o e => hk₁ _ o (fun q => hIL (List.mem_singleton.mp q).symm) e, fun b o e => hk₁ b o (fun q => by rw [List.mem_singleton.mp q, hInew] at e; cases e) (F'.keep b o e), F'.above⟩,
        fun p hp => ⟨hk₁ _ _ (fun q => hoff p hp (List.mem_singleton.mp q)) (N' p hp).1, (N' p hp).2⟩⟩
    by_cases hlt : i < n
    · refine wpAny_tokQ (W.item i _ _ _ hlt hst fun v h₁ tk₁ hPv hst₁ hk₁ htok => ?_)
      obtain ⟨_, t, rfl⟩ := hPv
      obtain ⟨F₁, N₁⟩ := next h₁ hk₁
      refine wpAny_assign_Name (wpAny_storeName_local hx F₁.ns (fun h₂ hn₂ hs₂ => ?_) hpk)
      have F₂ := F₁.set hn₂ hs₂
      have e1 : (0 : Int) + (i : Int) * 1 = (i : Int) := by omega
      rw [e1] at F₂
      have hI2 : h₂.get? I = some (itR (0 + ((i + 1 : Nat) : Int) * 1) ((n : Int) - ((i + 1 : Nat) : Int))) := (hs₂.2 I hIL).trans hst₁
      have N₂ : News h₀ env.locals h₂ ((I, itR (0 + ((i + 1 : Nat) : Int) * 1) ((n : Int) - ((i + 1 : Nat) : Int))) :: Led c) := List.forall_mem_cons.mpr ⟨⟨hI2, hIL, hInew⟩, N₁.set hs₂⟩
      have htk : tk ≤ tk₁ + 1 := Nat.le_succ_of_le htok
      refine wpAny_passesOwn hE (wpAny_mono (turn I i c m' _ t h₂ (tk₁ + 1) hlt hoff (hup _ _ _ _ htk hP) (by rw [kr_map h1 h2]; exact F₂) N₂) (fun f s₃ q => ?_) fun _ _ e => e)
      have go : KgEnd h₀ env.locals s I (itR (0 + ((i + 1 : Nat) : Int) * 1) ((n : Int) - ((i + 1 : Nat) : Int))) Led ps stored m₀ (P (i + 1)) s₃ → ∃ m, m < n + 1 - i ∧ ∃ (c : σ) (h' : Heap) (tk : Nat) (m' : Str → Option Value) (i : Nat), s₃ = { s with heap := h', toks := tk } ∧ IsRangeIter h' I (0 + (i : Nat) * 1) ((n : Int) - (i : Nat)) 1 ∧ Fr h₀ env.locals h' m' ∧ News h₀ env.locals h' (Led c) ∧ RestOff (Led c) I ∧
          (∀ p ∈ ps c, m' p.1 = some p.2) ∧ (∀ z, (∀ p ∈ ps c, z ≠ p.1) → stored.contains z = false → m' z = m₀ z) ∧ P i tk c ∧ i ≤ n ∧ m = n + 1 - i := by
        rintro ⟨c', h3, tk3, m3, news3, rfl, F3, N3, hI3, hL3, ho3, h13, h23, hP3⟩
        exact ⟨n + 1 - (i + 1), by omega, c', h3, tk3, m3, i + 1, rfl, (N3 _ hI3).1, F3, fun p hp => N3 p (hL3 p hp), ho3, h13, h23, hP3, hlt, rfl⟩
      cases f with
      | ret v => exact q
      | brk => exact q
      | next => exact go q
      | cont => exact go q
    · have hin : i = n := by omega
      subst hin
      refine wpAny_tokQ (W.done _ _ _ hst fun h₁ tk₁ hk₁ htok => ?_)
      refine wpAny_execs_nil ?_
      obtain ⟨F₁, N₁⟩ := next h₁ hk₁
      exact done c m' h₁ tk₁ (hup _ _ _ _ htok hP) (by rw [kr_map h1 h2]; exact F₁) N₁
/-- a place where the walk stands still -/
noncomputable def Still (p : Prop) : Prop := p
theorem Still.out {p : Prop} (h : Still p) : p := h
theorem Still.put {p : Prop} (h : p) : Still p := h
end
section
/-- the end of a turn of a comprehension -/
noncomputable def CrEnd (h₀ : Heap) (L : Addr) (m : Str → Option Value) (s₁ : Shared) (I : Addr) (oI : Obj) (C : Addr) (oC : Obj) (D : Addr) (oD : Obj) (R : Nat → Value → List (Addr × Obj) → Prop) (y : Value) (s₂ : Shared) : Prop :=
  ∃ h' tk news', s₂ = { s₁ with heap := h', toks := tk } ∧ Fr h₀ L h' m ∧ News h₀ L h' ((I, oI) :: (C, oC) :: (D, oD) :: news') ∧ LCg.Off3 I C D news' ∧ R tk y news'
/-- a comprehension over range(n), its state told with the tokens -/
noncomputable def CrSrc (prog : Program) (w : World) (A : Around) (h₀ : Heap) (L : Addr) (m : Str → Option Value) (env : Env) (elt : PySem.Expr) (x : Str) (scope : Scope) (cl : List (Str × Addr)) (Q : Value → Shared → Prop) (xv : Value) (s₁ : Shared) : Prop :=
  ∃ (n : Nat) (P : Nat → Nat → List Value → List (Addr × Obj) → Prop) (r : Addr) (b : Int) (t u v : Tok) (news : List (Addr × Obj)), xv = .ref r ∧ A.handled = none ∧ Fr h₀ L s₁.heap m ∧ News h₀ L s₁.heap news ∧ IsRange s₁.heap r 0 b 1 t u v ∧ Builtin.Range.small 0 b 1 = true ∧ Builtin.Range.rangeSize 0 b 1 = (n : Int) ∧ n ≤ sizeLine ∧
    P 0 s₁.toks [] news ∧ (∀ i tk tk' ys nw, tk ≤ tk' → P i tk ys nw → P i tk' ys nw) ∧
    (∀ (I C D : Addr) (oI oC : Obj) (i : Nat) (t : Tok) (m₂ : Str → Option Value) (ys : List Value) (nw : List (Addr × Obj)) (h : Heap) (tk : Nat), i < n → P i tk ys nw → LCg.NsObj oC m₂ → m₂ x = some (.int (i : Int) t) → Fr h₀ L h m → News h₀ L h ((I, oI) :: (C, oC) :: (D, LCg.lst ys) :: nw) → LCg.Off3 I C D nw → ((@Ne Nat I C) ∧ (@Ne Nat I D) ∧ (@Ne Nat C D)) →
      wpAny (model prog w) A (eval elt (compEnvC scope cl C env)) (CrEnd h₀ L m { s₁ with heap := h, toks := tk } I oI C oC D (LCg.lst ys) (fun tk' y nw' => P (i + 1) tk' (ys ++ [y]) nw')) (fun _ _ => False) { s₁ with heap := h, toks := tk }) ∧
    (∀ (D : Addr) (ys : List Value) (nw : List (Addr × Obj)) (h : Heap) (tk : Nat), P n tk ys nw → Fr h₀ L h m → News h₀ L h ((D, LCg.lst ys) :: nw) → RestOff nw D → Q (.ref D) { s₁ with heap := h, toks := tk })
section
variable {prog : Program} {w : World} {A : Around} {E : Value → Shared → Prop} {s : Shared} {h₀ : Heap} {L : Addr} {m : Str → Option Value} {env : Env}
theorem ListComp_cr {elt iter : PySem.Expr} {x : Str} {px : Pos} {scope : Scope} {cl : List (Str × Addr)} {pos : Pos} {Q : Value → Shared → Prop} (F₀ : Fr h₀ L s.heap m)
    (hclos : closureFor scope env = pure cl) (hcell : ∀ y ∈ scope.names, y.2 ≠ .cell) (hkind : scope.kind = .function)
    (hnames : ∀ y ∈ scope.names, y.2 = .local → scope.names.lookup y.1 = some .local) (hx : scope.names.lookup x = some .local)
    (h : wpAny (model prog w) A (eval iter env) (fun xv s₁ => TokLe s s₁ → CrSrc prog w A h₀ L m env elt x scope cl Q xv s₁) E s)
    (hs : ∀ x, foldedSetIterable iter env x = pure x := by intro _; rfl) :
    wpAny (model prog w) A (eval (.ListComp elt [⟨.Name x px, iter, [], 0⟩] scope pos) env) Q E s := by
  rw [eval_ListComp]
  refine wpAny_comprehension_free (use := none) rfl hs hclos hkind hnames (wpAny_mono (wpAny_tokQ h) (fun xv s₁ h₁ => ?_) fun _ _ e => e)
  obtain ⟨n, P, r, b, t, u, v, news, rfl, hh, F, N, hr, hsm, hn, hsz, hP, hup, turn, done⟩ := h₁
  refine wpAny_pyIter_range hr hsm ?_
  have W : Walks prog w A s₁.heap.objs.size [s₁.heap.objs.size] [s₁.heap.objs.size] n (fun i v => i < n ∧ ∃ t, v = .int (0 + i * 1) t)
      (fun i h => IsRangeIter h s₁.heap.objs.size (0 + (i : Nat) * 1) ((n : Int) - (i : Nat)) 1) := (Walks.range hh _ 0 1 n).bound
  have hst0 : IsRangeIter (s₁.heap.push { cls := .type "range_iterator", data := .fields #[rawInt 0, rawInt (Builtin.Range.rangeSize 0 b 1), rawInt 1] }) s₁.heap.objs.size (0 + ((0 : Nat) : Int) * 1) ((n : Int) - ((0 : Nat) : Int)) 1 := by
    rw [hn]
    simpa using Heap.get?_push_size _ rfl
  have FI : Fr h₀ L (s₁.heap.push { cls := .type "range_iterator", data := .fields #[rawInt 0, rawInt (Builtin.Range.rangeSize 0 b 1), rawInt 1] }) m := F.keeps fun _ _ e => Heap.get?_push_of_some _ e
  have NI : News h₀ L (s₁.heap.push { cls := .type "range_iterator", data := .fields #[rawInt 0, rawInt (Builtin.Range.rangeSize 0 b 1), rawInt 1] }) news := N.grown fun _ _ e => Heap.get?_push_of_some _ e
  have hIL : L ≠ s₁.heap.objs.size := Nat.ne_of_lt F.ns.lt
  have hI₀ : h₀.get? s₁.heap.objs.size = none := next_is_new F
  have offI : ∀ p ∈ news, p.1 ≠ s₁.heap.objs.size := fun p hp => Nat.ne_of_lt (Heap.lt_size (N p hp).1)
  have hsI : (s₁.heap.push { cls := .type "range_iterator", data := .fields #[rawInt 0, rawInt (Builtin.Range.rangeSize 0 b 1), rawInt 1] }).objs.size = s₁.heap.objs.size + 1 := Heap.size_push ..
  generalize s₁.heap.objs.size = I at W hst0 FI NI hIL hI₀ offI hsI ⊢
  generalize s₁.heap.push { cls := .type "range_iterator", data := .fields #[rawInt 0, rawInt (Builtin.Range.rangeSize 0 b 1), rawInt 1] } = H1 at hst0 FI NI hsI ⊢
  refine wpAny_newObj_type (wpAny_newFunctionEnv hcell (by intro y hy; simp at hy) (fun h₁ hns₁ hsb₁ => ?_) hkind)
  dsimp only at hns₁ hsb₁ ⊢
  have e2 : (H1.push { cls := .type "list", dict := none, data := .seq ([] : List Value).toArray }).objs.size = H1.objs.size + 1 := Heap.size_push ..
  rw [e2] at hns₁ hsb₁ ⊢
  have nD : ∀ {a : Addr} {o : Obj}, H1.get? a = some o → a ≠ H1.objs.size ∧ a ≠ H1.objs.size + 1 := fun e => ⟨Nat.ne_of_lt (Heap.lt_size e), Nat.ne_of_lt (Nat.lt_succ_of_lt (Heap.lt_size e))⟩
  have old : ∀ b o, H1.get? b = some o → h₁.get? b = some o := fun b o e => hsb₁.extBut b o (nD e).2 (Heap.get?_push_of_some _ (Heap.get?_push_of_some _ e))
  have hacc : h₁.get? H1.objs.size = some (LCg.lst []) := hsb₁.extBut _ _ (Nat.ne_of_lt (Nat.lt_succ_self _)) (Heap.get?_push_of_some _ (Heap.get?_push_size _ rfl))
  have new₀ : ∀ a, H1.objs.size ≤ a → h₀.get? a = none := fun a ha => Heap.get?_none_of_le (Nat.le_trans FI.above (Nat.le_trans (Nat.le_of_lt FI.ns.lt) ha))
  have hD₀ := new₀ _ (Nat.le_refl H1.objs.size)
  have hC₀ := new₀ _ (Nat.le_succ H1.objs.size)
  have hDL : H1.objs.size ≠ L := Ne.symm (Nat.ne_of_lt FI.ns.lt)
  have hCL : H1.objs.size + 1 ≠ L := Ne.symm (Nat.ne_of_lt (Nat.lt_succ_of_lt FI.ns.lt))
  have hID : I ≠ H1.objs.size := by rw [hsI]; exact Nat.ne_of_lt (Nat.lt_succ_self _)
  have hIC : I ≠ H1.objs.size + 1 := by rw [hsI]; exact Nat.ne_of_lt (Nat.lt_succ_of_lt (Nat.lt_succ_self _))
  have hCD : H1.objs.size + 1 ≠ H1.objs.size := Nat.ne_of_gt (Nat.lt_succ_self _)
  have off₀ : LCg.Off3 I (H1.objs.size + 1) H1.objs.size news := LCg.Off3.of fun p hp => ⟨offI p hp, (nD (NI p hp).1).2, (nD (NI p hp).1).1⟩
  have N₁ : News h₀ L h₁ ((H1.objs.size, LCg.lst []) :: news) := List.forall_mem_cons.mpr ⟨⟨hacc, hDL, hD₀⟩, fun p hp => ⟨old _ _ (NI p hp).1, (NI p hp).2⟩⟩
  have F₁ : Fr h₀ L h₁ m := FI.keeps old
  have hst₁ : IsRangeIter h₁ I (0 + ((0 : Nat) : Int) * 1) ((n : Int) - ((0 : Nat) : Int)) 1 := W.frame _ _ _ hst0 fun b _ o e => old b o e
  have hL₀ : h₀.get? L = none := Heap.get?_none_of_le F.above
  clear hst0 FI NI hsb₁ hacc nD old new₀ e2 hsI
  generalize H1.objs.size = D at *
  have hE : ∀ {Z : Value → Shared → Prop} (e : Value) (s' : Shared), False → Z e s' := fun _ _ q => q.elim
  have loop : ∀ s₃ : Shared, s₃ = { s₁ with heap := h₁, toks := s₁.toks + ([] : List (Str × Value)).length } → ∀ RR : Result → Shared → Prop,
      (∀ (h' : Heap) (tk : Nat) (m' : Str → Option Value) (ys : List Value) (nw : List (Addr × Obj)), Fr h₀ L h' m → News h₀ L h' ((D, LCg.lst ys) :: nw) → LCg.Off3 I (D + 1) D nw → h'.Ns (D + 1) m' → P n tk ys nw → RR (.ok .next) { s₁ with heap := h', toks := tk }) →
      codeAny (model prog w) A (.compLoop (.ListComp elt [⟨.Name x px, iter, [], 0⟩] scope pos) 0 (.ref I) (.ref D) (compEnvC scope cl (D + 1) env)) RR s₃ := by
    rintro s₃ rfl RR hRR
    refine codeAny_compLoop_tests
      (fun k s' => ∃ h' tk i ys m' nw, s' = { s₁ with heap := h', toks := tk } ∧ i ≤ n ∧ k = n + 1 - i ∧ ys.length = i ∧ IsRangeIter h' I (0 + (i : Nat) * 1) ((n : Int) - (i : Nat)) 1 ∧ Fr h₀ L h' m ∧ h'.Ns (D + 1) m' ∧ News h₀ L h' ((D, LCg.lst ys) :: nw) ∧ LCg.Off3 I (D + 1) D nw ∧ P i tk ys nw) ?_ (n + 1)
      ⟨h₁, _, 0, [], _, news, rfl, Nat.zero_le _, rfl, rfl, hst₁, F₁, hns₁, N₁, off₀, hP⟩
    rintro k s' ⟨h', tk, i, ys, m', nw, rfl, hi, rfl, hyl, hst, F', hn', N', off', hP'⟩
    have next : ∀ h₂ : Heap, (∀ b o, b ∉ [I] → h'.get? b = some o → h₂.get? b = some o) → Fr h₀ L h₂ m ∧ News h₀ L h₂ ((D, LCg.lst ys) :: nw) ∧ h₂.Ns (D + 1) m' := fun h₂ hk₂ =>
      ⟨LCg.fr_but F' hk₂ hIL hI₀, LCg.news_but N' hk₂ (List.forall_mem_cons.mpr ⟨Ne.symm hID, fun p hp => (off'.mem p hp).1⟩), hn'.at' fun o e => hk₂ _ o (by simpa using Ne.symm hIC) e⟩
    by_cases hlt : i < n
    · refine wpAny_tokQ (W.item i _ _ _ hlt hst fun v h₂ tk₂ hPv hst₂ hk₂ htok => ?_)
      obtain ⟨_, t, rfl⟩ := hPv
      obtain ⟨F₂, N₂, hn₂⟩ := next h₂ hk₂
      have e1 : (0 : Int) + (i : Int) * 1 = (i : Int) := by omega
      rw [e1]
      refine wpAny_assign_Name (wpAny_storeName_local (lookup_relabel_local hx) hn₂ (fun h₃ hn₃ hs₃ => ?_) (by simp [compEnvC, relabel, hkind]))
      refine wpAny_tests_nil ?_
      simp only [if_true]
      have offm := off'.mem
      have hst₃ : IsRangeIter h₃ I (0 + ((i + 1 : Nat) : Int) * 1) ((n : Int) - ((i + 1 : Nat) : Int)) 1 := W.frame _ _ _ hst₂ fun b hb o e => hs₃.extBut b o (fun q => hIC (by rw [← List.mem_singleton.mp hb]; exact q)) e
      obtain ⟨oC, heC, hoC⟩ := LCg.ns_obj hn₃
      have N₃ : News h₀ L h₃ ((I, itR (0 + ((i + 1 : Nat) : Int) * 1) ((n : Int) - ((i + 1 : Nat) : Int))) :: (D + 1, oC) :: (D, LCg.lst ys) :: nw) :=
        List.forall_mem_cons.mpr ⟨⟨hst₃, Ne.symm hIL, hI₀⟩, List.forall_mem_cons.mpr ⟨⟨heC, hCL, hC₀⟩, List.forall_mem_cons.mpr ⟨⟨hs₃.extBut _ _ (Ne.symm hCD) (N₂ _ (.head _)).1, (N₂ _ (.head _)).2⟩, fun p hp => ⟨hs₃.extBut _ _ (offm p hp).2.1 (N₂ p (.tail _ hp)).1, (N₂ p (.tail _ hp)).2⟩⟩⟩⟩
      have htk : tk ≤ tk₂ := htok
      refine wpAny_mono (turn I (D + 1) D _ oC i t _ ys nw h₃ (tk₂ + 1) hlt (hup _ _ _ _ _ (Nat.le_succ_of_le htk) hP') hoC (by simp) (F₂.change hs₃ hCL hC₀) N₃ off' ⟨hIC, hID, hCD⟩) (fun y s₄ h₄ => ?_) fun _ _ e => e.elim
      obtain ⟨h₄, tk₄, nw₄, rfl, F₄, N₄, off₄, hP₄⟩ := h₄
      have offn := off₄.mem
      have hst₄ : IsRangeIter h₄ I (0 + ((i + 1 : Nat) : Int) * 1) ((n : Int) - ((i + 1 : Nat) : Int)) 1 := (N₄ _ (.head _)).1
      have zC := (N₄ _ (.tail _ (.head _))).1
      refine append_at (hsz := by show ys.toArray.size ≤ sizeLine; rw [List.size_toArray, hyl]; exact Nat.le_trans hi hsz) (N₄ _ (.tail _ (.tail _ (.head _)))).1 fun h₅ hs₅ hD₅ => ?_
      exact ⟨n + 1 - (i + 1), by omega, h₅, tk₄, i + 1, ys ++ [y], _, nw₄, rfl, hlt, rfl, by rw [List.length_append, List.length_singleton, hyl], W.frame _ _ _ hst₄ fun b hb o e => hs₅.extBut b o (fun q => hID (by rw [← List.mem_singleton.mp hb]; exact q)) e, F₄.change hs₅ hDL hD₀,
        (hoC.ns zC).sameBut hs₅ hCD, List.forall_mem_cons.mpr ⟨⟨hD₅.trans (congrArg some (LCg.lst_snoc ys y)), hDL, hD₀⟩, fun p hp => ⟨hs₅.extBut _ _ (offn p hp).2.2 (N₄ p (.tail _ (.tail _ (.tail _ hp)))).1, (N₄ p (.tail _ (.tail _ (.tail _ hp)))).2⟩⟩, off₄, hP₄⟩
    · obtain rfl : i = n := Nat.le_antisymm hi (Nat.not_lt.mp hlt)
      refine wpAny_tokQ (W.done _ _ _ hst fun h₂ tk₂ hk₂ htok => ?_)
      obtain ⟨F₂, N₂, hn₂⟩ := next h₂ hk₂
      exact hRR h₂ tk₂ m' ys nw F₂ N₂ off' hn₂ (hup _ _ _ _ _ htok hP')
  refine codeAny_compStart_list (loop _ rfl _ ?_) (W.self 0 _ _ _ hst₁ (loop _ rfl _ ?_)) <;>
  · intro h' tk m' ys nw F' N' off' hn' hP'
    refine ⟨m', hn', fun h'' hs'' => done D ys nw h'' tk hP' (F'.change hs'' hCL hC₀) (List.forall_mem_cons.mpr ⟨⟨hs''.extBut _ _ (Ne.symm hCD) (N' _ (.head _)).1, (N' _ (.head _)).2⟩, fun p hp => ⟨hs''.extBut _ _ (off'.mem p hp).2.1 (N' p (.tail _ hp)).1, (N' p (.tail _ hp)).2⟩⟩) fun p hp => (off'.mem p hp).2.2⟩
end
end
section
theorem rgb_call {w : World} {p : Program} {loose : List Str} {mean : ExcName → Option Value} {mg mb : Str → Option Value} (dp un : Nat) (gd : Option (List Code)) (cn : Str) (cs : Scope) (a : Addr) (ccd : Value) (cl : List (Str × Addr)) (outer : List Env) (A₀ : Around) (base h₀ : Heap) (L : Addr) (m : Str → Option Value) (s : Shared) (Q E : Value → Shared → Prop) (nw : List (Addr × Obj)) (x y z : UInt64) (tx ty tz : Tok) (lo hi : Nat) (B : Below A₀ base outer h₀) (F : Fr h₀ L s.heap m) (X : (hd.heap_39 w.params).In h₀) (N : News h₀ L s.heap nw) (T : Top p loose mean mg mb h₀) (hk : cs.kind = .function)
    (ht : TokIn lo hi tx ∧ TokIn lo hi ty ∧ TokIn lo hi tz)
    (hz1 : gray3 x y z = false → Float64.isZero (mx3 x y z) = false) (hz2 : gray3 x y z = false → Float64.isZero (rg3 x y z) = false)
    (hdp : dp + 1 < recursionLimit) (hun : un + 8 < cLine)
    (ret : ∀ (D : Addr) (t1 t2 t3 : Tok) (h' : Heap) (tk' : Nat), TokIn (s.toks + 1) tk' t1 ∧ TokIn (s.toks + 1) tk' t2 ∧ TokIn lo hi t3 → Fr h₀ L h' m → News h₀ L h' ((D, ({ cls := .type "tuple", data := .seq #[.float (rgbH x y z) t1, .float (rgbS x y z) t2, .float (mx3 x y z) t3] } : Obj)) :: nw) → RestLt nw D → Q (.ref D) { s with heap := h', toks := tk' }) :
    wpAny (model Challenge.rw_rl0055_02.row.prog w) (ktrTop dp un gd cn cs L a ccd cl outer) (call (.ref 95) [.float x tx, .float y ty, .float z tz]) Q E s := by
  k_with_none
  k_with "m all" => first | (refine List.forall_mem_cons.mpr ⟨?ka1, ?ka2⟩; (case ka1 => exact neN (by omega)); (case ka2 => k_all)) | exact restLt_ne (by assumption) (by omega) | exact (by assumption : RestOff _ _) | exact restLt_ne (rest_of_allLt (by assumption)) (by omega) | exact restLt_ne (rest_of_allLt (And.right (by assumption))) (by omega) | exact restLt_ne (rest_of_allLt (And.right (And.right (by assumption)))) (by omega)
  k_with "m UnrEnd" => (refine unr_cons (by assumption) (by assumption) (by k_all) ?_)
  k_with "m call builtin:max" => (k_here; (with_reducible show wpAny _ _ (call _ [Value.float _ _, Value.float _ _, Value.float _ _]) _ _ _); (refine' max3_fff ?k0 ?k1 ?k2 ?_; (case k0 => rfl); (case k1 => k_asm); (case k2 => k_asm)); (intro h' tk' v' hv' F' N'); (try k_sweep))
  k_with "m call builtin:min" => (k_here; (with_reducible show wpAny _ _ (call _ [Value.float _ _, Value.float _ _, Value.float _ _]) _ _ _); (refine' min3_fff ?k0 ?k1 ?k2 ?_; (case k0 => rfl); (case k1 => k_asm); (case k2 => k_asm)); (intro h' tk' v' hv' F' N'); (try k_sweep))
  k_with "m call builtin:max" => (k_here; (fail_if_success (with_reducible show wpAny _ _ _ (fun _ s' => TokLe _ s' → _) _ _)); refine wpAny_tokQ ?_)
  k_with "m call builtin:min" => (k_here; (fail_if_success (with_reducible show wpAny _ _ _ (fun _ s' => TokLe _ s' → _) _ _)); refine wpAny_tokQ ?_)
  k_with "m execs cons" => (k_here; (fail_if_success (fail_if_success k_gentoks)); refine gen_tok ?_; intro tk' htk')
  k_with "m execs nil" => (k_here; (fail_if_success (fail_if_success k_gentoks)); refine gen_tok ?_; intro tk' htk')
  w_top off
  revert X; k_fill; intro X
  refine wpAny_call ?_
  k_dflt cell_enter
  k_steps
  · have e := rgb_g (x := x) (y := y) (z := z) (by assumption)
    rw [e.1, e.2] at ret
    refine ret _ _ _ _ _ _ ⟨?_, ?_, ?_⟩ (by assumption) (by assumption) (by assumption)
    · dsimp only [TokLe] at *; exact tok_in (by omega) (by omega)
    · dsimp only [TokLe] at *; exact tok_in (by omega) (by omega)
    · exact tok_three (by assumption) ht
  · exfalso
    have := hz1 (by assumption)
    simp_all
  · exfalso
    have := hz2 (by assumption)
    unfold rg3 at this
    simp_all
  · have e := rgb_1 (x := x) (y := y) (z := z) (by assumption) (by assumption)
    rw [e.1, e.2] at ret
    refine ret _ _ _ _ _ _ ⟨?_, ?_, ?_⟩ (by assumption) (by assumption) (by assumption)
    · dsimp only [TokLe] at *; exact tok_in (by omega) (by omega)
    · dsimp only [TokLe] at *; exact tok_in (by omega) (by omega)
    · exact tok_three (by assumption) ht
  · have e := rgb_2 (x := x) (y := y) (z := z) (by assumption) (by assumption) (by assumption)
    rw [e.1, e.2] at ret
    refine ret _ _ _ _ _ _ ⟨?_, ?_, ?_⟩ (by assumption) (by assumption) (by assumption)
    · dsimp only [TokLe] at *; exact tok_in (by omega) (by omega)
    · dsimp only [TokLe] at *; exact tok_in (by omega) (by omega)
    · exact tok_three (by assumption) ht
  · have e := rgb_3 (x := x) (y := y) (z := z) (by assumption) (by assumption) (by assumption)
    rw [e.1, e.2] at ret
    refine ret _ _ _ _ _ _ ⟨?_, ?_, ?_⟩ (by assumption) (by assumption) (by assumption)
    · dsimp only [TokLe] at *; exact tok_in (by omega) (by omega)
    · dsimp only [TokLe] at *; exact tok_in (by omega) (by omega)
    · exact tok_three (by assumption) ht
end
section
/-- a fact that omega shall not see -/
noncomputable def Hide (p : Prop) : Prop := p
theorem parse_qt {w : World} {p : Program} {loose : List Str} {mean : ExcName → Option Value} {mg mb : Str → Option Value} (dp un : Nat) (gd : Option (List Code)) (cn : Str) (cs : Scope) (a : Addr) (ccd : Value) (cl : List (Str × Addr)) (outer : List Env) (A₀ : Around) (base h₀ : Heap) (L : Addr) (m : Str → Option Value) (s : Shared) (Q E : Value → Shared → Prop) (nw : List (Addr × Obj)) (c n b b2 : Nat) (Tx sx : Str) (tx : Tok) (f : Int) (B : Below A₀ base outer h₀) (F : Fr h₀ L s.heap m) (X : (hd.heap_39 w.params).In h₀) (N : News h₀ L s.heap nw) (T : Top p loose mean mg mb h₀) (hk : cs.kind = .function)
    (hT : IsT c Tx n) (hc : c ≠ 34) (hsx : sx.cps.toList = [c]) (hn : n ≤ b) (hb : b ≤ 1000) (hb2 : b / 2 = b2) (hf : f ≤ 5)
    (hdp : dp + 1 < recursionLimit) (hun : un + 8 < cLine)
    (he : ∀ j : Nat, Hide (n = 2 * j) → j ≤ b2 → (Txt.slice (qc c j) (some (-1)) none == sx) = true → (qc c j).length = j + 1 → ∀ (t1 : Tok) (h' : Heap) (tk' : Nat), s.toks ≤ tk' → Fr h₀ L h' m → News h₀ L h' nw → Q (.str (qc c j) t1) { s with heap := h', toks := tk' })
    (ho : ∀ j : Nat, Hide (n = 2 * j + 1) → j ≤ b2 → (Txt.slice (qs j) (some (-1)) none == sx) = false → (qs j).length = j → (Txt.mul (qs j) f).length ≤ 5 * j → ∀ (t1 : Tok) (h' : Heap) (tk' : Nat), s.toks ≤ tk' → Fr h₀ L h' m → News h₀ L h' nw → Q (.str (qs j) t1) { s with heap := h', toks := tk' }) :
    wpAny (model Challenge.rw_rl0055_02.row.prog w) (ktrTop dp un gd cn cs L a ccd cl outer) (call (.ref 46) [.str (Str.ofString "257 \"" ++ Tx ++ Str.ofString "\" is \"x\"") tx]) Q E s := by
  have hl := arg_list hT
  have hlen : (Str.ofString "257 \"" ++ Tx ++ Str.ofString "\" is \"x\"").length = n + 14 := by
    have := congrArg List.length hl
    simp only [List.length_append, List.length_cons, List.length_nil, List.length_replicate, Array.length_toList] at this
    unfold Str.length
    omega
  have hs := list_slice hl
  refine wpAny_tokQ (parse_call dp un gd cn cs a ccd cl outer A₀ base h₀ L m s _ E nw _ tx B F X N T hk (by omega) (by omega) hs.1 hs.2 hdp hun ?_)
  intro t1 h' tk' F' N' htok
  rw [hl]
  replace htok : s.toks ≤ tk' := htok
  show Q (.str ⟨(pq (List.replicate n 34 ++ c :: [34, 32, 105, 115, 32, 34, 120, 34])).toArray⟩ t1) _
  by_cases h2 : n % 2 = 0
  · rw [pq_arg_even hc h2]
    exact he (n / 2) (show n = 2 * (n / 2) by omega) (by omega) (last_qc hsx) (by simp [qc, Str.length]) t1 h' tk' htok F' N'
  · rw [pq_arg_odd hc (by omega)]
    exact ho (n / 2) (show n = 2 * (n / 2) + 1 by omega) (by omega) (last_qs hsx hc) (by simp [qs, Str.length]) (mul_len hf) t1 h' tk' htok F' N'
end
section
/-- i readings: the lamps, the quotes left -/
noncomputable def lampsN (f m : Int) (n : Nat) : Nat → List Bool × Nat
  | 0 => ([], n)
  | i + 1 => if (lampsN f m n i).2 % 2 = 0 then ((lampsN f m n i).1 ++ [false], (lampsN f m n i).2 / 2) else ((lampsN f m n i).1 ++ [true], (lampsN f m n i).2 / 2 * f.toNat + m.toNat)
noncomputable def lampF (b : Bool) : UInt64 := if b then 4607182418800017408 else 0
inductive LampsAre : List Value → List Bool → Prop
  | nil : LampsAre [] []
  | cons {vs : List Value} {bs : List Bool} (b : Bool) (t : Tok) : LampsAre vs bs → LampsAre (.float (lampF b) t :: vs) (b :: bs)
theorem LampsAre.append {vs : List Value} {bs : List Bool} {b : Bool} (t : Tok) (h : LampsAre vs bs) : LampsAre (vs ++ [.float (lampF b) t]) (bs ++ [b]) := by
  induction h with
  | nil => exact .cons b t .nil
  | cons b' t' _ ih => exact .cons b' t' ih
theorem LampsAre.length {vs : List Value} {bs : List Bool} (h : LampsAre vs bs) : vs.length = bs.length := by
  induction h with
  | nil => rfl
  | cons _ _ _ ih => simp [ih]
noncomputable def lampB : Nat → Nat
  | 0 => 23
  | 1 => 58
  | 2 => 148
  | _ => 373
structure LampSt where
  vs : List Value
  cap : Nat
  tx : Str
  tt : Tok
  bits : List Bool
  e : Nat
/-- the tokens of floats -/
noncomputable def ToksIn (lo hi : Nat) : List Value → Prop
  | [] => True
  | .float _ t :: r => lo ≤ t ∧ t < hi ∧ ToksIn lo hi r
  | _ :: _ => False
theorem ToksIn.mono {lo hi hi' : Nat} (h : hi ≤ hi') : ∀ {vs : List Value}, ToksIn lo hi vs → ToksIn lo hi' vs
  | [], _ => trivial
  | .float _ _ :: _, ⟨a, b, c⟩ => ⟨a, Nat.lt_of_lt_of_le b h, ToksIn.mono h c⟩
theorem ToksIn.snoc {lo hi : Nat} {x : UInt64} {t : Tok} (h1 : lo ≤ t) (h2 : t < hi) : ∀ {vs : List Value}, ToksIn lo hi vs → ToksIn lo hi (vs ++ [.float x t])
  | [], _ => ⟨h1, h2, trivial⟩
  | .float _ _ :: _, ⟨a, b, c⟩ => ⟨a, b, ToksIn.snoc h1 h2 c⟩
/-- what holds behind i readings -/
noncomputable def LampP (lo : Nat) (f m : Int) (n i tk : Nat) (c : LampSt) : Prop := LampsAre c.vs c.bits ∧ c.vs.length = i ∧ IsT 120 c.tx c.e ∧ c.e ≤ lampB i ∧ lampsN f m n i = (c.bits, c.e) ∧ ToksIn lo tk c.vs ∧ lo ≤ tk
theorem lamp_start {lo tk : Nat} {f m : Int} {n : Nat} (h : n ≤ 23) {x : Str} (hx : IsT 120 x n) (t : Tok) (hl : lo ≤ tk) : LampP lo f m n 0 tk ⟨[], 0, x, t, [], n⟩ := ⟨.nil, rfl, hx, h, rfl, trivial, hl⟩
theorem lamp_even {lo tk tk' : Nat} {f m : Int} {n i j cap : Nat} {vs : List Value} {cap' : Nat} {tx : Str} {tt t t' : Tok} {bits : List Bool} {e : Nat} (h : LampP lo f m n i tk ⟨vs, cap', tx, tt, bits, e⟩) (hj : Hide (e = 2 * j)) (hb : j ≤ lampB (i + 1)) (ht : TokIn tk tk' t) :
    LampP lo f m n (i + 1) tk' ⟨vs ++ [.float 0 t], cap, qc 120 j, t', bits ++ [false], j⟩ := by
  obtain ⟨h1, h2, h3, h4, h5, h6, h7⟩ := h
  obtain ⟨ht1, ht2⟩ := ht
  unfold Hide at hj
  dsimp only at h1 h2 h3 h4 h5 h6
  have hT : ∀ y, ToksIn lo tk' (vs ++ [Value.float y t]) := fun y => ToksIn.snoc (Nat.le_trans h7 ht1) ht2 (h6.mono (Nat.le_trans ht1 (Nat.le_of_lt ht2)))
  refine ⟨LampsAre.append (b := false) t h1, by simp [h2], isT_qc _ _, hb, ?_, hT _, Nat.le_trans h7 (Nat.le_trans ht1 (Nat.le_of_lt ht2))⟩
  simp only [lampsN, h5]
  rw [if_pos (by omega)]
  congr 1
  omega
theorem lamp_odd {lo tk tk' : Nat} {f m : Int} {n i j cap : Nat} {vs : List Value} {cap' : Nat} {tx : Str} {tt t t' : Tok} {bits : List Bool} {e : Nat} (h : LampP lo f m n i tk ⟨vs, cap', tx, tt, bits, e⟩) (hj : Hide (e = 2 * j + 1)) (hb : j * f.toNat + m.toNat ≤ lampB (i + 1)) (ht : TokIn tk tk' t) :
    LampP lo f m n (i + 1) tk' ⟨vs ++ [.float 4607182418800017408 t], cap, Txt.mul (qs j) f ++ Txt.mul (Str.ofString "\"") m ++ Str.ofString "x", t', bits ++ [true], j * f.toNat + m.toNat⟩ := by
  obtain ⟨h1, h2, h3, h4, h5, h6, h7⟩ := h
  obtain ⟨ht1, ht2⟩ := ht
  unfold Hide at hj
  dsimp only at h1 h2 h3 h4 h5 h6
  have hT : ∀ y, ToksIn lo tk' (vs ++ [Value.float y t]) := fun y => ToksIn.snoc (Nat.le_trans h7 ht1) ht2 (h6.mono (Nat.le_trans ht1 (Nat.le_of_lt ht2)))
  refine ⟨LampsAre.append (b := true) t h1, by simp [h2], isT_next _ _ lit_x, hb, ?_, hT _, Nat.le_trans h7 (Nat.le_trans ht1 (Nat.le_of_lt ht2))⟩
  simp only [lampsN, h5]
  rw [if_neg (by omega)]
  have e2 : e / 2 = j := by omega
  rw [e2]
theorem isT_len {c n : Nat} {x : Str} (h : IsT c x n) : x.length = n + 1 := by
  have := congrArg List.length h
  simpa [Str.length] using this
theorem lamp_loop {prog : Program} {w : World} {A : Around} {E : Value → Shared → Prop} {s : Shared} {env : Env} {h₀ : Heap} {x : Str} {px : Pos} {body : List Stmt} {Q : Flow → Shared → Prop} {r l : Addr} {t₀ u₀ v₀ tt : Tok} {m₀ : Str → Option Value} {nw : List (Addr × Obj)} {lo : Nat} {f m : Int} {n : Nat} {Tx : Str}
    (hx : env.kindOf x = some .local) (hpk : (env.scope.kind == .class || (env.scope.kind == .module && env.locals != env.globals)) = false) (hE : PassesOwn (model prog w) A env E)
    (hh : A.handled = none) (hr : IsRange s.heap r 0 3 1 t₀ u₀ v₀) (F : Fr h₀ env.locals s.heap m₀) (N : News h₀ env.locals s.heap ((l, W.listOf #[] 0) :: nw)) (hk : m₀ (Str.ofString "text") = some (.str Tx tt)) (hT : IsT 120 Tx n) (hn : n ≤ 23) (hlo : lo ≤ s.toks)
    (turn : ∀ (I : Addr) (i : Nat) (vs : List Value) (cap : Nat) (Tx : Str) (tt : Tok) (bits : List Bool) (e : Nat) (u : Str → Option Value) (it : Obj) (t : Tok) (h : Heap) (tk : Nat), i < 3 → (¬ @Eq Nat l I) → RestOff nw I → LampP lo f m n i tk ⟨vs, cap, Tx, tt, bits, e⟩ →
      Fr h₀ env.locals h (fun y => if y = x then some (.int (i : Int) t) else kstB (fun z => if [Str.ofString "k"].contains z then u z else m₀ z) [(Str.ofString "text", .str Tx tt)] y) → News h₀ env.locals h ((I, it) :: (l, W.listOf vs.toArray cap) :: nw) →
      wpAny (model prog w) A (execs body env) (KgPost (σ := LampSt) h₀ env.locals s I it (fun c => (l, W.listOf c.vs.toArray c.cap) :: nw) (fun c => [(Str.ofString "text", .str c.tx c.tt)]) [Str.ofString "k"] m₀ (LampP lo f m n (i + 1)) Q) E { s with heap := h, toks := tk })
    (done : ∀ (vs : List Value) (cap : Nat) (Tx : Str) (tt : Tok) (bits : List Bool) (e : Nat) (u : Str → Option Value) (h : Heap) (tk : Nat), LampP lo f m n 3 tk ⟨vs, cap, Tx, tt, bits, e⟩ → Fr h₀ env.locals h (kstB (fun z => if [Str.ofString "k"].contains z then u z else m₀ z) [(Str.ofString "text", .str Tx tt)]) → News h₀ env.locals h ((l, W.listOf vs.toArray cap) :: nw) → Q .next { s with heap := h, toks := tk }) :
    wpAny (model prog w) A (pyIter (.ref r)) (fun it s₂ => LoopT prog w A env x px body Q E it s₂) E s := by
  refine krange (σ := LampSt) 3 (fun c => (l, W.listOf c.vs.toArray c.cap) :: nw) (fun c => [(Str.ofString "text", .str c.tx c.tt)]) [Str.ofString "k"] (LampP lo f m n) ⟨[], 0, Tx, tt, [], n⟩ hx hpk hE hh hr (by decide) (by decide) F N (List.forall_mem_cons.mpr ⟨hk, fun _ h => nomatch h⟩) (lamp_start hn hT _ hlo) (fun i tk tk' c htk h => ⟨h.1, h.2.1, h.2.2.1, h.2.2.2.1, h.2.2.2.2.1, h.2.2.2.2.2.1.mono htk, Nat.le_trans h.2.2.2.2.2.2 htk⟩) ?_ ?_
  · rintro I i ⟨vs, cap, Tx, tt, bits, e⟩ u it t h tk hi ho hP F N
    exact turn I i vs cap Tx tt bits e u it t h tk hi (fun e => ho _ (.head _) e) (fun p hp => ho p (.tail _ hp)) hP F N
  · rintro ⟨vs, cap, Tx, tt, bits, e⟩ u h tk hP F N
    exact done vs cap Tx tt bits e u h tk hP F N
theorem restLt_of_all {p : Addr × Obj} {r : List (Addr × Obj)} {D : Addr} (h : @LT.lt Nat _ p.1 D ∧ AllLt D r) : RestLt (p :: r) D := List.forall_mem_cons.mpr ⟨h.1, rest_of_allLt h.2⟩
theorem lamp_fin {h₀ : Heap} {L I l : Addr} {s : Shared} {it : Obj} {nw : List (Addr × Obj)} {m₀ m' : Str → Option Value} {P : Nat → LampSt → Prop} {Q : Flow → Shared → Prop} {h' : Heap} {tk : Nat} {arr : Array Value} (c : LampSt)
    (F : Fr h₀ L h' m') (N : News h₀ L h' ((I, it) :: (l, W.listOf arr c.cap) :: nw)) (ha : arr = c.vs.toArray) (ho1 : ¬ @Eq Nat l I) (ho2 : RestOff nw I) (hk : m' (Str.ofString "text") = some (.str c.tx c.tt)) (hz : ∀ z, z ≠ Str.ofString "text" → [Str.ofString "k"].contains z = false → m' z = m₀ z) (hP : P tk c) :
    KgPost (σ := LampSt) h₀ L s I it (fun c => (l, W.listOf c.vs.toArray c.cap) :: nw) (fun c => [(Str.ofString "text", .str c.tx c.tt)]) [Str.ofString "k"] m₀ P Q .next { s with heap := h', toks := tk } := by
  subst ha
  exact ⟨c, h', tk, m', _, rfl, F, N, .head _, fun p hp => .tail _ hp, List.forall_mem_cons.mpr ⟨fun e => ho1 e, ho2⟩, List.forall_mem_cons.mpr ⟨hk, fun _ h => nomatch h⟩, fun z hz1 hz2 => hz z (hz1 _ (.head _)) hz2, hP⟩
theorem lamps_three {lo hi : Nat} {vs : List Value} {bs : List Bool} (h : LampsAre vs bs) (hl : vs.length = 3) (ht : ToksIn lo hi vs) : ∃ (b0 b1 b2 : Bool) (t0 t1 t2 : Tok), vs = [.float (lampF b0) t0, .float (lampF b1) t1, .float (lampF b2) t2] ∧ bs = [b0, b1, b2] ∧ TokIn lo hi t0 ∧ TokIn lo hi t1 ∧ TokIn lo hi t2 := by
  cases h with
  | nil => simp at hl
  | cons b0 t0 h =>
    cases h with
    | nil => simp at hl
    | cons b1 t1 h =>
      cases h with
      | nil => simp at hl
      | cons b2 t2 h =>
        cases h with
        | nil => exact ⟨b0, b1, b2, t0, t1, t2, rfl, rfl, ⟨ht.1, ht.2.1⟩, ⟨ht.2.2.1, ht.2.2.2.1⟩, ⟨ht.2.2.2.2.1, ht.2.2.2.2.2.1⟩⟩
        | cons _ _ _ => simp at hl
end
section
theorem walk_call {w : World} {p : Program} {loose : List Str} {mean : ExcName → Option Value} {mg mb : Str → Option Value} (dp un : Nat) (gd : Option (List Code)) (cn : Str) (cs : Scope) (a : Addr) (ccd : Value) (cl : List (Str × Addr)) (outer : List Env) (A₀ : Around) (base h₀ : Heap) (L : Addr) (m : Str → Option Value) (s : Shared) (Q E : Value → Shared → Prop) (nw : List (Addr × Obj)) (n f k : Int) (tx ty tz : Tok) (B : Below A₀ base outer h₀) (F : Fr h₀ L s.heap m) (X : (hd.heap_39 w.params).In h₀) (N : News h₀ L s.heap nw) (T : Top p loose mean mg mb h₀) (hk : cs.kind = .function)
    (hn : 0 ≤ n) (hn2 : n < 24) (hf : 1 ≤ f) (hf2 : f ≤ 5) (hm : 0 ≤ k) (hm2 : k ≤ 3)
    (hdp : dp + 10 < recursionLimit) (hun : un + 50 < cLine)
    (ret : ∀ (D l : Addr) (t1 t2 t3 tT : Tok) (cap : Nat) (Tx : Str) (b0 b1 b2 : Bool) (e : Nat) (h' : Heap) (tk' : Nat), lampsN f k n.toNat 3 = ([b0, b1, b2], e) → IsT 120 Tx e → e ≤ 373 → TokIn (s.toks + 1) tk' t1 ∧ TokIn (s.toks + 1) tk' t2 ∧ TokIn (s.toks + 1) tk' t3 → Fr h₀ L h' m →
      News h₀ L h' ((D, ({ cls := .type "tuple", data := .seq #[.ref l, .str Tx tT] } : Obj)) :: (l, W.listOf #[.float (lampF b0) t1, .float (lampF b1) t2, .float (lampF b2) t3] cap) :: nw) → RestLt ((l, W.listOf #[.float (lampF b0) t1, .float (lampF b1) t2, .float (lampF b2) t3] cap) :: nw) D → RestLt nw l → Q (.ref D) { s with heap := h', toks := tk' }) :
    wpAny (model Challenge.rw_rl0055_02.row.prog w) (ktrTop dp un gd cn cs L a ccd cl outer) (call (.ref 109) [.int n tx, .int f ty, .int k tz]) Q E s := by
  k_with_none
  k_with "m all" => first | (refine List.forall_mem_cons.mpr ⟨?ka1, ?ka2⟩; (case ka1 => exact neN (by omega)); (case ka2 => k_all)) | exact restLt_ne (by assumption) (by omega) | exact (by assumption : RestOff _ _) | exact restLt_ne (rest_of_allLt (by assumption)) (by omega) | exact restLt_ne (rest_of_allLt (And.right (by assumption))) (by omega) | exact restLt_ne (rest_of_allLt (And.right (And.right (by assumption)))) (by omega)
  k_with "m UnrEnd" => (refine unr_cons (by assumption) (by assumption) (by k_all) ?_)
  k_with "m call ref" => (k_here; (with_reducible show wpAny _ _ (call (Value.ref 46) _) _ _ _); k_dflt (refine' parse_qt _ _ _ _ _ _ _ _ _ _ _ _ _ _ _ _ _ _ 120 _ _ _ _ (Str.ofString "x") _ _ ?b1 ?b2 ?b3 ?b4 ?b5 ?b6 ?c1 ?c2 ?c3 ?c4 ?c5 ?c7 ?c6 ?d5 ?d6 (fun j' hp' hn' hs' hl' t' h' tk' hk' F' N' => ?_) (fun j' hp' hn' hs' hl' hm' t' h' tk' hk' F' N' => ?_)); (case b1 => k_asm); (case b2 => k_asm); (case b3 => k_asm); (case b4 => k_asm); (case b5 => k_asm); (case b6 => rfl); (case c1 => assumption); (case c2 => decide); (case c3 => exact lit_x); (case c4 => assumption); (case c5 => decide); (case c7 => exact rfl); (case c6 => assumption); (case d5 => ktr_room); (case d6 => ktr_units); (all_goals (try dsimp only)); (all_goals (try k_sweep)))
  k_with "m ite" => first | (with_reducible refine ite_pos (by with_reducible assumption) ?_) | (with_reducible refine ite_bf (by with_reducible assumption) ?_)
  k_with "m execs cons" => (k_here; (fail_if_success (fail_if_success k_gentoks)); refine gen_tok ?_; intro tk' htk')
  k_with "m execs nil" => (k_here; (fail_if_success (fail_if_success k_gentoks)); refine gen_tok ?_; intro tk' htk')
  k_with "m subscriptTail Name Slice str ref" => (k_here; (fail_if_success (with_reducible show wpAny _ _ _ (fun _ s' => TokLe _ s' → _) _ _)); refine wpAny_tokQ ?_)
  k_with "m exec Assign" => (k_here; (fail_if_success (with_reducible show wpAny _ _ _ (fun _ s' => TokLe _ s' → _) _ _)); refine wpAny_tokQ ?_)
  k_with "m exec If" => (k_here; (fail_if_success (with_reducible show wpAny _ _ _ (fun _ s' => TokLe _ s' → _) _ _)); refine wpAny_tokQ ?_)
  k_with "m call builtin:list.append" => (k_here; (fail_if_success (with_reducible show wpAny _ _ _ (fun _ s' => TokLe _ s' → _) _ _)); refine wpAny_tokQ ?_)
  k_with "m exec For Name Call cons nil" => (k_here; k_dflt (refine For_T (wpAny_tokQ ?_)))
  k_with "m pyIter ref" => (k_here; refine Still.out ?_)
  w_top off
  revert X; k_fill; intro X
  have hc0 : (Float64.cmp 0 4607182418800017408 == some Ordering.eq) = false := by decide +kernel
  have hc1 : (Float64.cmp 4607182418800017408 4607182418800017408 == some Ordering.eq) = true := by decide +kernel
  refine wpAny_call ?_
  k_dflt cell_enter
  k_steps
  refine Still.put ?_
  refine' lamp_loop (lo := s.toks + 1) (f := f) (m := k) (n := n.toNat) rfl rfl ?hE rfl (by assumption) (by assumption) (by assumption) rfl (isT_mul _ lit_x) (by omega) ?hlo ?turn ?done
  case hE => passes_own
  case hlo => dsimp only [TokLe] at *; omega
  case turn =>
    intro I i vs cap Tx tt bits e u it t h tk hi ho1 ho2 hP F N
    obtain ⟨h1, h2, h3, h4, h5, h6, h7⟩ := id hP
    dsimp only [kstB] at h1 h2 h3 h4 h5 h6 F N
    have hv : (i = 0 ∧ vs = []) ∨ (i = 1 ∧ ∃ v, vs = [v]) ∨ (i = 2 ∧ ∃ v w, vs = [v, w]) := by
      match vs, h2 with
      | [], h2 => exact .inl ⟨h2.symm, rfl⟩
      | [v], h2 => exact .inr (.inl ⟨h2.symm, v, rfl⟩)
      | [v, w], h2 => exact .inr (.inr ⟨h2.symm, v, w, rfl⟩)
      | v :: w :: z :: r, h2 => simp at h2; omega
    have hlen := isT_len h3
    rcases hv with ⟨rfl, rfl⟩ | ⟨rfl, v, rfl⟩ | ⟨rfl, v, w, rfl⟩
    all_goals (first | change e ≤ 23 at h4 | change e ≤ 58 at h4 | change e ≤ 148 at h4)
    all_goals clear h1 h2 h5 h6
    · k_steps
      · refine lamp_fin ⟨_, _, _, _, _, _⟩ (by assumption) (by assumption) (by rfl) ho1 ho2 (by rfl) ?_ (lamp_even hP (by assumption) (Nat.le_trans (by assumption) (by decide)) ?_)
        · intro z h2 h3; simp only [List.contains_cons, List.contains_nil, Bool.or_false, beq_eq_false_iff_ne, ne_eq] at h3; simp [h2, h3]
        · dsimp only [TokLe] at *; exact tok_in (by omega) (by omega)
      · refine lamp_fin ⟨_, _, _, _, _, _⟩ (by assumption) (by assumption) (by rfl) ho1 ho2 (by rfl) ?_ (lamp_odd hP (by assumption) (Nat.le_trans (next_le (by assumption) hf2 hm2) (by decide)) ?_)
        · intro z h2 h3; simp only [List.contains_cons, List.contains_nil, Bool.or_false, beq_eq_false_iff_ne, ne_eq] at h3; simp [h2, h3]
        · dsimp only [TokLe] at *; exact tok_in (by omega) (by omega)
    · k_steps
      · refine lamp_fin ⟨_, _, _, _, _, _⟩ (by assumption) (by assumption) (by rfl) ho1 ho2 (by rfl) ?_ (lamp_even hP (by assumption) (Nat.le_trans (by assumption) (by decide)) ?_)
        · intro z h2 h3; simp only [List.contains_cons, List.contains_nil, Bool.or_false, beq_eq_false_iff_ne, ne_eq] at h3; simp [h2, h3]
        · dsimp only [TokLe] at *; exact tok_in (by omega) (by omega)
      · refine lamp_fin ⟨_, _, _, _, _, _⟩ (by assumption) (by assumption) (by rfl) ho1 ho2 (by rfl) ?_ (lamp_odd hP (by assumption) (Nat.le_trans (next_le (by assumption) hf2 hm2) (by decide)) ?_)
        · intro z h2 h3; simp only [List.contains_cons, List.contains_nil, Bool.or_false, beq_eq_false_iff_ne, ne_eq] at h3; simp [h2, h3]
        · dsimp only [TokLe] at *; exact tok_in (by omega) (by omega)
    · k_steps
      · refine lamp_fin ⟨_, _, _, _, _, _⟩ (by assumption) (by assumption) (by rfl) ho1 ho2 (by rfl) ?_ (lamp_even hP (by assumption) (Nat.le_trans (by assumption) (by decide)) ?_)
        · intro z h2 h3; simp only [List.contains_cons, List.contains_nil, Bool.or_false, beq_eq_false_iff_ne, ne_eq] at h3; simp [h2, h3]
        · dsimp only [TokLe] at *; exact tok_in (by omega) (by omega)
      · refine lamp_fin ⟨_, _, _, _, _, _⟩ (by assumption) (by assumption) (by rfl) ho1 ho2 (by rfl) ?_ (lamp_odd hP (by assumption) (Nat.le_trans (next_le (by assumption) hf2 hm2) (by decide)) ?_)
        · intro z h2 h3; simp only [List.contains_cons, List.contains_nil, Bool.or_false, beq_eq_false_iff_ne, ne_eq] at h3; simp [h2, h3]
        · dsimp only [TokLe] at *; exact tok_in (by omega) (by omega)
  case done =>
    intro vs cap Tx tx9 bits e u h tk hP F N
    dsimp only [kstB] at F
    obtain ⟨h1, h2, h3, h4, h5, h6, h7⟩ := hP
    dsimp only at h1 h2 h3 h4 h5 h6
    obtain ⟨b0, b1, b2, t0, t1, t2, rfl, rfl, g1, g2, g3⟩ := lamps_three h1 h2 h6
    k_steps
    exact ret _ _ _ _ _ _ _ _ _ _ _ _ _ _ h5 h3 h4 ⟨g1, g2, g3⟩ (by assumption) (by assumption) (restLt_of_all (by assumption)) (by assumption)
end
section
theorem below_X {A : Around} {base h₀ h : Heap} {outer : List Env} {L a : Addr} {m : Str → Option Value} {name : Str} {scope : Scope} {cd : Value} {cl : List (Str × Addr)}
    (K : Below A base outer h₀) (F : Fr h₀ L h m) (hk : scope.kind = .function) : Below (A.deeper (envX name scope L a cd cl)) base (envX name scope L a cd cl :: outer) h :=
  ⟨Around.frames_deeper K.stack, fun b o e => F.keep b o (K.stays b o e), .cons (by show scope.kind ≠ .module; rw [hk]; decide) rfl F.ns (by
    cases q : base.get? L with
    | none => rfl
    | some o => exact absurd (Nat.lt_of_lt_of_le (Heap.lt_size (K.stays L o q)) F.above) (Nat.lt_irrefl _)) (K.frames.of_keeps fun b o e _ => ⟨o, F.keep b o e, rfl⟩)⟩
/-- the frame of a caller with cells, into a def that catches: the ghost is the heap without the ledger -/
theorem enterSX {prog : Program} {w : World} {A : Around} {s : Shared} {base h₀ : Heap} {A₀ : Around} {L a : Addr} {m : Str → Option Value} {cn : Str} {cs : Scope} {ccd : Value} {cl : List (Str × Addr)} {news : List (Addr × Obj)} {K : Frag} {p : Program} {loose : List Str} {mean : ExcName → Option Value} {mg mb : Str → Option Value}
    {R : Result → Shared → Prop} {name qual : Str} {params : Arguments} {body : List Stmt} {scope : Scope} {dV kV doc pm cdv ct oc : Value} {an od : Option Addr} {osl : Array (Option Value)} {f : Addr} {args : Args} {binds : List (Str × Value)}
    (B : Below A₀ base [] h₀) (F : Fr h₀ L s.heap m) (X₀ : K.In h₀) (N : News h₀ L s.heap news) (T : Top p loose mean mg mb h₀) (hA : A.frames = some [envX cn cs L a ccd cl])
    (ho : K.lookup f = some ⟨oc, od, .func (fnOf name qual params body scope dV kV doc pm an cdv ct), osl⟩) (hcd : codeIn K cdv qual = true) (hroom : A.depth < recursionLimit)
    (hbind : BindsTo s (fnOf name qual params body scope dV kV doc pm an cdv ct) args binds) (hloc : ∀ y ∈ binds, scope.names.lookup y.1 = some .local)
    (h : ∀ g L' h₁, Fr h₀ L g m → Fr g L' h₁ (fun y => binds.reverse.lookup y) → News g L' h₁ news → Below A base [envX cn cs L a ccd cl] g → K.In g → Top p loose mean mg mb g → KtsDicts ([envX cn cs L a ccd cl].filterMap (·.frame)) g →
      wpAny (model prog w) (A.deeper (envOf qual scope L' f cdv)) (execs body (envOf qual scope L' f cdv))
        (fun fl s' => LeaveS0 ([envX cn cs L a ccd cl].filterMap (·.frame)) h₀ L m g R (match fl with | .ret v => v | _ => .none) s')
        (fun e s' => wpAny (model prog w) (A.deeper (envOf qual scope L' f cdv)) (leaving (envOf qual scope L' f cdv) e) (fun _ s'' => R (.error e) s'') (fun e' s'' => R (.error e') s'') s')
        { s with heap := h₁, toks := s.toks + binds.length })
    (hck : cs.kind = .function) (hco : scope.isCoroutine = false) (hgen : scope.isGenerator = false) (hk : scope.kind = .function)
    (hcell : ∀ x ∈ scope.names, x.2 ≠ .cell) : codeAny (model prog w) A (.call (.ref f) args) R s := by
  have X := X₀.keeps F.keep
  have nL₀ : h₀.get? L = none := kts_self F
  have hmem : ∀ {b : Addr}, b ∈ [envX cn cs L a ccd cl].filterMap (·.frame) → b = L := fun hb => by simpa using hb
  have nm : ∀ b o, h₀.get? b = some o → b ∉ news.map (·.1) := fun b o e q => by
    obtain ⟨q', hq, rfl⟩ := List.mem_map.mp q
    rw [(N q' hq).2.2] at e; cases e
  have st : h₀.StaysIn (hideAll s.heap (news.map (·.1))) := fun b o e => hideAll_get _ (F.keep b o e) (nm b o e)
  obtain ⟨oL, es, ep, hL, hLd, hLk, hLf⟩ := F.ns
  have nL : L ∉ news.map (·.1) := fun q => by
    obtain ⟨q', hq, e⟩ := List.mem_map.mp q
    exact (N q' hq).2.1 e
  have hLg := hideAll_get (news.map (·.1)) hL nL
  have nsOf : ∀ (sl : Array (Option Value)) h', h'.get? L = some { oL with slots := sl } → Heap.Ns h' L m := fun sl h' e => ⟨_, es, ep, e, hLd, hLk, hLf⟩
  have B₁ := below_X (name := cn) (scope := cs) (a := a) (cd := ccd) (cl := cl) B F hck
  have B₂ : Below A base [envX cn cs L a ccd cl] (hideAll s.heap (news.map (·.1))) := ⟨hA, fun b o e => st b o (B.stays b o e), funFrames_hideAll B₁.frames fun env he b hb hf => by
    have he' : env = envX cn cs L a ccd cl := by simpa using he
    subst he'
    exact nL ((Option.some.inj hf : L = b) ▸ hb)⟩
  refine codeAny_call_def (fd := fnOf name qual params body scope dV kV doc pm an cdv ct) (body := body) (binds := binds) hroom (X _ _ ho) rfl (T.nolimit.keeps F.keep) (codeRec_of X hcd) rfl hbind hcell hloc (fun h₁ hns hk₁ => ?_) hco hgen hk
  refine wpAny_mono (h _ s.heap.objs.size h₁ ⟨nsOf oL.slots _ hLg, st, F.above⟩ ⟨hns, fun b o e => hk₁ b o (of_hideAll _ e), Nat.le_of_eq (hideAll_size _ _)⟩
    (fun q hq => ⟨hk₁ _ _ (N q hq).1, Nat.ne_of_lt (Heap.lt_size (N q hq).1), hideAll_none _ (List.mem_map_of_mem hq)⟩) B₂ (X₀.keeps st) (T.keeps st) (fun b hb => by
      rw [hmem hb]; exact ⟨oL, es, ep, hLg, hLd⟩)) (fun fl s' hl => ?_) fun _ _ y => y
  obtain ⟨g', L', m', news', T', F', N', k⟩ := hl
  obtain ⟨sl, hs⟩ := T'.up hLg
  refine k ⟨nsOf sl _ (F'.keep _ _ hs), fun b o e => F'.keep b o (T'.other b o (st b o e) (fun q => by
    rw [hmem q, nL₀] at e; cases e)), F.above⟩ fun q hq => ⟨(N' q hq).1, fun e => ?_, ?_⟩
  · have := (N' q hq).2.2; rw [e, hs] at this; cases this
  · cases e : h₀.get? q.1 with
    | none => rfl
    | some o =>
      obtain ⟨sl', hs'⟩ := T'.up (st _ _ e)
      have := (N' q hq).2.2
      rw [hs'] at this
      cases this
/-- the ints of xs[k::c] -/
noncomputable def pickN (ns : List Int) (k c : Int) : List Int := (sliceRange (sliceBounds (some k) none (some c) ns.length).1 (sliceBounds (some k) none (some c) ns.length).2.1 (sliceBounds (some k) none (some c) ns.length).2.2).filterMap (ns[·]?)
theorem ints_get {vs : List Value} {ns : List Int} (h : IntsAre vs ns) : ∀ i : Nat, (∃ n t, vs[i]? = some (.int n t) ∧ ns[i]? = some n) ∨ (vs[i]? = none ∧ ns[i]? = none) := by
  induction h with
  | nil => intro i; exact .inr ⟨rfl, rfl⟩
  | cons n t _ ih =>
    intro i
    cases i with
    | zero => exact .inl ⟨n, t, rfl, rfl⟩
    | succ i => exact ih i
theorem pick_ints {vs : List Value} {ns : List Int} (h : IntsAre vs ns) (k c : Int) : IntsAre (slicePick vs.toArray (some k) none (some c)).toList (pickN ns k c) := by
  unfold slicePick pickN
  rw [List.size_toArray, h.length]
  generalize sliceRange _ _ _ = l
  simp only [List.getElem?_toArray]
  induction l with
  | nil => exact .nil
  | cons i r ih =>
    rcases ints_get h i with ⟨n, t, e1, e2⟩ | ⟨e1, e2⟩
    · rw [List.filterMap_cons_some e1, List.filterMap_cons_some e2]
      exact .cons n t ih
    · rw [List.filterMap_cons_none e1, List.filterMap_cons_none e2]
      exact ih
theorem sum_pick {prog : Program} {w : World} {A : Around} {E : Value → Shared → Prop} {s : Shared} {h₀ : Heap} {L l : Addr} {m : Str → Option Value} {news : List (Addr × Obj)} {vs : List Value} {ns : List Int} {k c : Int} {n : Nat} {Q : Value → Shared → Prop} (hh : A.handled = none) (F : Fr h₀ L s.heap m) (N : News h₀ L s.heap news)
    (hm : (l, ({ cls := .type "list", data := .seq (slicePick vs.toArray (some k) none (some c)) n } : Obj)) ∈ news) (hi : IntsAre vs ns)
    (h : ∀ h' tk t', Fr h₀ L h' m → News h₀ L h' news → Q (.int (pickN ns k c).sum t') { s with heap := h', toks := tk }) :
    wpAny (model prog w) A (call (.builtin "sum") [.ref l]) Q E s := by
  have hp := (N _ hm).1
  exact sumK (vs := (slicePick vs.toArray (some k) none (some c)).toList) hh F N ⟨_, hp, rfl, n, rfl⟩ (pick_ints hi k c) h
end
section
theorem refused_call {w : World} {p : Program} {loose : List Str} {mean : ExcName → Option Value} {mg mb : Str → Option Value} (dp un : Nat) (gd : Option (List Code)) (cn : Str) (cs : Scope) (a : Addr) (ccd : Value) (cl : List (Str × Addr)) (A₀ : Around) (h₀ : Heap) (L : Addr) (m : Str → Option Value) (s : Shared) (Q E : Value → Shared → Prop) (nw : List (Addr × Obj)) (tx : Tok)
    (B : Below A₀ h₀ [] h₀) (F : Fr h₀ L s.heap m) (X : (hd.heap_39 w.params).In h₀) (N : News h₀ L s.heap nw) (T : Top p loose mean mg mb h₀) (hk : cs.kind = .function)
    (hdp : dp + 10 < recursionLimit) (hun : un + 50 < cLine)
    (ret : ∀ (h' : Heap) (tk' : Nat), Fr h₀ L h' m → News h₀ L h' nw → Q (.bool true) { s with heap := h', toks := tk' }) :
    wpAny (model Challenge.rw_rl0055_02.row.prog w) (ktrTop dp un gd cn cs L a ccd cl []) (call (.ref 102) [.str (Str.ofString "250 \"x\"") tx]) Q E s := by
  k_with_none
  k_with "m all" => first | (refine List.forall_mem_cons.mpr ⟨?ka1, ?ka2⟩; (case ka1 => exact neN (by omega)); (case ka2 => k_all)) | exact restLt_ne (by assumption) (by omega) | exact (by assumption : RestOff _ _) | exact restLt_ne (rest_of_allLt (by assumption)) (by omega) | exact restLt_ne (rest_of_allLt (And.right (by assumption))) (by omega) | exact restLt_ne (rest_of_allLt (And.right (And.right (by assumption)))) (by omega)
  k_with "m UnrEnd" => (refine unr_cons (by assumption) (by assumption) (by k_all) ?_)
  k_with "m call ref" => (k_here; (with_reducible show wpAny _ _ (call (Value.ref 46) _) _ _ _); refine wpAny_call ?_; k_dflt (refine' code_def ?k1 ?k2 ?k3 ?k4 ?k5 ?kA ?kF ?kK ?k6 ?k7 ?k8 ?k9 ?kB ?_ ?c2 ?c3 ?c4 ?c5; (case kA => exact rfl); (case kF => exact rfl); (case kK => first | exact rfl | assumption); (case k1 => k_asm); (case k2 => k_asm); (case k3 => k_asm); (case k4 => k_asm); (case k5 => k_asm); (case k6 => k_is); (case k7 => k_is); (case k8 => ktr_room); (case k9 => exact BindsTo.of_eq rfl); (case c5 => decide); (case kB => exact locs rfl); (case c2 => exact rfl); (case c3 => exact rfl); (case c4 => exact rfl); k_whole; intro g' L' h' FG' F' N' B' X' T'; (try dsimp only); (try k_lift B'); (try k_fold)))
  w_top off
  revert X; k_fill; intro X
  refine wpAny_call ?_
  k_dflt (refine' enterSX ?k1 ?k2 ?k3 ?k4 ?k5 ?kA ?k6 ?k7 ?k8 ?k9 ?kB ?_ ?cK ?c2 ?c3 ?c4 ?c5; (case kA => exact rfl); (case k2 => k_asm); (case k1 => k_asm); (case k3 => k_asm); (case k4 => k_asm); (case k5 => k_asm); (case k6 => k_is); (case k7 => k_is); (case k8 => ktr_room); (case k9 => exact BindsTo.of_eq rfl); (case kB => exact locs rfl); (case cK => assumption); (case c2 => exact rfl); (case c3 => exact rfl); (case c4 => exact rfl); (case c5 => decide); k_whole; intro g' L' h' FG' F' N' B' X' T' D'; (try dsimp only); (try k_lift B'); (try k_fold))
  k_steps
  exact ret _ _ (by assumption) (by assumption)
end
section
noncomputable def litV (six : Int) (sh lv : UInt64) (k : Int) : Bool := if (Float64.cmp sh 0 == some Ordering.eq) = true then (Float64.cmp lv 4607182418800017408 == some Ordering.eq) else decide ((six - 2 * k + 1).fmod 6 < 3)
theorem lit_a {six k : Int} {sh lv : UInt64} (h : (Float64.cmp sh 0 == some Ordering.eq) = true) : litV six sh lv k = (Float64.cmp lv 4607182418800017408 == some Ordering.eq) := by unfold litV; rw [if_pos h]
theorem lit_b {six k : Int} {sh lv : UInt64} (h : (Float64.cmp sh 0 == some Ordering.eq) = false) : litV six sh lv k = decide ((six - 2 * k + 1).fmod 6 < 3) := by unfold litV; rw [h, if_neg Bool.false_ne_true]
theorem lit_call {w : World} {p : Program} {loose : List Str} {mean : ExcName → Option Value} {mg mb : Str → Option Value} (dp un : Nat) (gd : Option (List Code)) (cn : Str) (cs : Scope) (a : Addr) (ccd : Value) (cl : List (Str × Addr)) (outer : List Env) (A₀ : Around) (base h₀ : Heap) (L : Addr) (m : Str → Option Value) (s : Shared) (Q E : Value → Shared → Prop) (nw : List (Addr × Obj)) (six k : Int) (sh lv : UInt64) (t1 t2 t3 t4 : Tok) (B : Below A₀ base outer h₀) (F : Fr h₀ L s.heap m) (X : (hd.heap_39 w.params).In h₀) (N : News h₀ L s.heap nw) (T : Top p loose mean mg mb h₀) (hk : cs.kind = .function)
    (h1 : -100 < six) (h2 : six < 100) (h3 : 0 ≤ k) (h4 : k < 10)
    (hdp : dp + 1 < recursionLimit) (hun : un + 8 < cLine)
    (ret : ∀ (h' : Heap) (tk' : Nat), Fr h₀ L h' m → News h₀ L h' nw → Q (.bool (litV six sh lv k)) { s with heap := h', toks := tk' }) :
    wpAny (model Challenge.rw_rl0055_02.row.prog w) (ktrTop dp un gd cn cs L a ccd cl outer) (call (.ref 116) [.int six t1, .float sh t2, .float lv t3, .int k t4]) Q E s := by
  k_with_none
  w_top off
  revert X; k_fill; intro X
  refine wpAny_call ?_
  k_dflt cell_enter
  k_steps
  · have e := lit_a (six := six) (k := k) (sh := sh) (lv := lv) (by assumption)
    rw [e] at ret
    exact ret _ _ (by assumption) (by assumption)
  · have e := lit_b (six := six) (k := k) (sh := sh) (lv := lv) (by assumption)
    rw [e] at ret
    exact ret _ _ (by assumption) (by assumption)
end
section
/-- the two tables' entries lie in T, apart from what is kept -/
noncomputable def TabW (T keep : List (Addr × Obj)) : Prop := ∃ l1 l2, TabSt 62 54 qual1 l1 ∧ TabSt 69 69 qual2 l2 ∧ Ap l1 l2 ∧ Ap l1 keep ∧ Ap l2 keep ∧ (∀ p ∈ l1, p ∈ T) ∧ (∀ p ∈ l2, p ∈ T)
theorem TabW.off {T keep : List (Addr × Obj)} (h : TabW T keep) : ∃ T', TabW T' keep ∧ (∀ p ∈ T', p ∈ T) ∧ Ap T' keep := by
  obtain ⟨l1, l2, h1, h2, h3, h4, h5, h6, h7⟩ := h
  exact ⟨l1 ++ l2, ⟨l1, l2, h1, h2, h3, h4, h5, sub_left, sub_right⟩, sub_app h6 h7, fun p hp q hq => (List.mem_append.mp hp).elim (fun h => h4 p h q hq) fun h => h5 p h q hq⟩
theorem TabW.keep {T keep keep' : List (Addr × Obj)} (h : TabW T keep) (hk : ∀ q ∈ keep', (∃ q' ∈ keep, q'.1 = q.1) ∨ ∀ p ∈ T, p.1 ≠ q.1) : TabW T keep' := by
  obtain ⟨l1, l2, h1, h2, h3, h4, h5, h6, h7⟩ := h
  refine ⟨l1, l2, h1, h2, h3, fun p hp q hq => ?_, fun p hp q hq => ?_, h6, h7⟩
  · rcases hk q hq with ⟨q', hq', e⟩ | h
    · rw [← e]; exact h4 p hp q' hq'
    · exact h p (h6 p hp)
  · rcases hk q hq with ⟨q', hq', e⟩ | h
    · rw [← e]; exact h5 p hp q' hq'
    · exact h p (h7 p hp)
theorem TabW.sub {T T' keep : List (Addr × Obj)} (h : TabW T keep) (hs : ∀ p ∈ T, p ∈ T') : TabW T' keep := by
  obtain ⟨l1, l2, h1, h2, h3, h4, h5, h6, h7⟩ := h
  exact ⟨l1, l2, h1, h2, h3, h4, h5, fun p hp => hs p (h6 p hp), fun p hp => hs p (h7 p hp)⟩
/-- a ledger in two parts: what is kept, the tables -/
noncomputable def Splits (nw keep T : List (Addr × Obj)) : Prop := nw = keep ++ T
theorem split_nil {T : List (Addr × Obj)} : Splits T [] T := rfl
theorem split_app {k T : List (Addr × Obj)} : Splits (k ++ T) k T := rfl
theorem split_cons {e : Addr × Obj} {r k T : List (Addr × Obj)} (h : Splits r k T) : Splits (e :: r) (e :: k) T := by unfold Splits at *; rw [h]; rfl
theorem idm_W {w : World} {p : Program} {loose : List Str} {mean : ExcName → Option Value} {mg mb : Str → Option Value} (dp un : Nat) (gd : Option (List Code)) (cn : Str) (cs : Scope) (a : Addr) (ccd : Value) (cl : List (Str × Addr)) (outer : List Env) (A₀ : Around) (base h₀ : Heap) (L : Addr) (m : Str → Option Value) (s : Shared) (Q E : Value → Shared → Prop) (nw keep T' : List (Addr × Obj)) (x y : Int) (tx ty : Tok) (B : Below A₀ base outer h₀) (F : Fr h₀ L s.heap m) (X : (hd.heap_39 w.params).In h₀) (N : News h₀ L s.heap nw) (T : Top p loose mean mg mb h₀) (hk : cs.kind = .function)
    (C1 : CodeHd base 66 62) (C2 : CodeHd base 73 69) (hS : Splits nw keep T') (hW : TabW T' keep)
    (hx : -1048576 < x) (hx2 : x < 1048576) (hy : -1048576 < y) (hy2 : y < 1048576) (hy0 : y ≠ 0)
    (hdp : dp + 56 < recursionLimit) (hun : un + 450 < cLine)
    (ret : ∀ (D : Addr) (t1 t2 : Tok) (T'' : List (Addr × Obj)) (h' : Heap) (tk' : Nat), TabW T'' ((D, ({ cls := .type "tuple", data := .seq #[.int (x.fdiv y) t1, .int (x.fmod y) t2] } : Obj)) :: keep) → Ap T'' keep → RestLt T'' D → RestLt keep D → Fr h₀ L h' m →
      News h₀ L h' ((D, ({ cls := .type "tuple", data := .seq #[.int (x.fdiv y) t1, .int (x.fmod y) t2] } : Obj)) :: (keep ++ T'')) → Q (.ref D) { s with heap := h', toks := tk' }) :
    wpAny (model Challenge.rw_rl0055_02.row.prog w) (ktrTop dp un gd cn cs L a ccd cl outer) (call (.ref 88) [.int x tx, .int y ty]) Q E s := by
  obtain ⟨l1, l2, h1, h2, h3, h4, h5, h6, h7⟩ := hW
  unfold Splits at hS
  subst hS
  refine idm_call dp un gd cn cs a ccd cl outer A₀ base h₀ L m s Q E (keep ++ T') l1 l2 keep x y tx ty B F X N T hk C1 C2 h1 h2 (fun p hp => List.mem_append_right _ (h6 p hp)) (fun p hp => (List.mem_append.mp hp).elim (fun h => List.mem_append_right _ (h7 p h)) fun h => List.mem_append_left _ h)
    (fun p hp q hq => (List.mem_append.mp hq).elim (fun h => h3 p hp q h) fun h => h4 p hp q h) h5 hx hx2 hy hy2 hy0 hdp hun ?_
  intro D t1 t2 l1' l2' h' tk' S1 S2 A1 A2 F' N' R'
  have r1 : RestLt l1' D := fun p hp => R' p (List.mem_append_left _ hp)
  have r2 : RestLt l2' D := fun p hp => R' p (List.mem_append_right _ (List.mem_append_left _ hp))
  have r3 : RestLt keep D := fun p hp => R' p (List.mem_append_right _ (List.mem_append_right _ hp))
  refine ret D t1 t2 (l1' ++ l2') h' tk' ⟨l1', l2', S1, S2, fun p hp q hq => A1 p hp q (List.mem_append_left _ hq), ?_, ?_, sub_left, sub_right⟩ ?_ ?_ r3 F' (news_sub N' (sub_cons (.head _) (sub_tail (sub_app ?_ ?_))))
  · intro p hp q hq
    rcases List.mem_cons.mp hq with rfl | hq
    · exact Nat.ne_of_lt (r1 p hp)
    · exact A1 p hp q (List.mem_append_right _ hq)
  · intro p hp q hq
    rcases List.mem_cons.mp hq with rfl | hq
    · exact Nat.ne_of_lt (r2 p hp)
    · exact A2 p hp q hq
  · intro p hp q hq
    rcases List.mem_append.mp hp with hp | hp
    · exact A1 p hp q (List.mem_append_right _ hq)
    · exact A2 p hp q hq
  · intro p hp
    rcases List.mem_append.mp hp with hp | hp
    · exact r1 p hp
    · exact r2 p hp
  · exact fun p hp => List.mem_append_right _ (List.mem_append_right _ hp)
  · exact sub_app (fun p hp => List.mem_append_left _ hp) fun p hp => List.mem_append_right _ (List.mem_append_left _ hp)
end
section
noncomputable def lawOf (p : Program) : List Stmt × Scope := match p.main.body.getLast? with
  | some (.FunctionDef _ _ b _ _ _ sc _ _ _) => (b, sc)
  | _ => ([], ⟨.function, [], false, false, []⟩)
noncomputable def forIn : List Stmt → List Stmt
  | [] => []
  | .For _ _ b _ _ :: _ => b
  | _ :: r => forIn r
/-- the colour that the lamps make: hue in sixths -/
noncomputable def lvl (b : Bool × Bool × Bool) : UInt64 := mx3 (lampF b.1) (lampF b.2.1) (lampF b.2.2)
noncomputable def shr (b : Bool × Bool × Bool) : UInt64 := rgbS (lampF b.1) (lampF b.2.1) (lampF b.2.2)
noncomputable def hueF (b : Bool × Bool × Bool) : UInt64 := rgbH (lampF b.1) (lampF b.2.1) (lampF b.2.2)
noncomputable def sxt : Bool × Bool × Bool → Int
  | (false, false, false) => 0 | (true, true, true) => 0
  | (true, false, false) => 0 | (true, true, false) => 1 | (false, true, false) => 2
  | (false, true, true) => 3 | (false, false, true) => 4 | (true, false, true) => 5
theorem gray_lamps (b : Bool × Bool × Bool) : (gray3 (lampF b.1) (lampF b.2.1) (lampF b.2.2) = false → Float64.isZero (lvl b) = false) ∧ (gray3 (lampF b.1) (lampF b.2.1) (lampF b.2.2) = false → Float64.isZero (rg3 (lampF b.1) (lampF b.2.1) (lampF b.2.2)) = false) := by
  obtain ⟨b0, b1, b2⟩ := b
  cases b0 <;> cases b1 <;> cases b2 <;> decide +kernel
noncomputable def decFin (x : UInt64) : Option Int := match Float64.decode x with
  | .fin sg m e => some (Float64.truncOf sg m e)
  | _ => none
theorem int_dec {prog : Program} {w : World} {A : Around} {E : Value → Shared → Prop} {s : Shared} {x : UInt64} {k : Int} {u : Tok} {Q : Value → Shared → Prop} (hd : decFin x = some k) (h : Q (.int k s.toks) { s with toks := s.toks + 1 }) :
    wpAny (model prog w) A (call (.type "int") [.float x u]) Q E s := by
  unfold decFin at hd
  split at hd
  · rename_i sg m e hx
    refine call_int_float hx ?_
    rw [Option.some.inj hd]; exact h
  · cases hd
theorem sxt_dec (b : Bool × Bool × Bool) : decFin (Float64.add (Float64.mul (Float64.ofInt 6) (hueF b)) 4602678819172646912) = some (sxt b) := by
  obtain ⟨b0, b1, b2⟩ := b
  cases b0 <;> cases b1 <;> cases b2 <;> decide +kernel
theorem sxt_small (b : Bool × Bool × Bool) : 0 ≤ sxt b ∧ sxt b < 6 := by
  obtain ⟨b0, b1, b2⟩ := b
  cases b0 <;> cases b1 <;> cases b2 <;> decide
noncomputable def bitAt (b : Bool × Bool × Bool) : Nat → Bool
  | 0 => b.1
  | 1 => b.2.1
  | _ => b.2.2
theorem lit_bit (b : Bool × Bool × Bool) (j : Nat) (hj : j < 3) : litV (sxt b) (shr b) (lvl b) (j : Int) = bitAt b j := by
  obtain ⟨b0, b1, b2⟩ := b
  match j, hj with
  | 0, _ => cases b0 <;> cases b1 <;> cases b2 <;> decide +kernel
  | 1, _ => cases b0 <;> cases b1 <;> cases b2 <;> decide +kernel
  | 2, _ => cases b0 <;> cases b1 <;> cases b2 <;> decide +kernel
noncomputable def pwN (f : Int) (b : Bool × Bool × Bool) : Nat → Int
  | 0 => 1
  | j + 1 => if bitAt b j = true then f * pwN f b j else pwN f b j
noncomputable def rsN (f m : Int) (b : Bool × Bool × Bool) : Nat → Int
  | 0 => 0
  | j + 1 => if bitAt b j = true then f * rsN f m b j + (2 * m - f) * 2 ^ j else rsN f m b j
noncomputable def tripOf : List Bool → Bool × Bool × Bool
  | [a, b, c] => (a, b, c)
  | _ => (false, false, false)
noncomputable def trip (f m : Int) (n : Nat) : Bool × Bool × Bool := tripOf (lampsN f m n 3).1
noncomputable def endN (f m : Int) (n : Nat) : Nat := (lampsN f m n 3).2
structure EndF (f m : Int) (n : Nat) : Prop where
  same : trip f m n = trip f m (n % 8)
  p0 : 0 < pwN f (trip f m n) 3
  p1 : pwN f (trip f m n) 3 ≤ 125
  r0 : -1000 < rsN f m (trip f m n) 3
  r1 : rsN f m (trip f m n) 3 < 1000
  q : (rsN f m (trip f m n) 3 - 8 * (endN f m n : Int)).fdiv (pwN f (trip f m n) 3) = -(n : Int)
  z : (rsN f m (trip f m n) 3 - 8 * (endN f m n : Int)).fmod (pwN f (trip f m n) 3) = 0
  k0 : -1000000 < -(rsN f m (trip f m n) 3) * pwN f (trip f m n) 3
  k1 : -(rsN f m (trip f m n) 3) * pwN f (trip f m n) 3 < 1000000
  k : (-(rsN f m (trip f m n) 3) * pwN f (trip f m n) 3).fmod 8 = ((n % 8 : Nat) : Int)
noncomputable def endB (f m : Int) (n : Nat) : Bool := decide (trip f m n = trip f m (n % 8)) && decide (0 < pwN f (trip f m n) 3) && decide (pwN f (trip f m n) 3 ≤ 125) && decide (-1000 < rsN f m (trip f m n) 3) && decide (rsN f m (trip f m n) 3 < 1000) &&
  decide ((rsN f m (trip f m n) 3 - 8 * (endN f m n : Int)).fdiv (pwN f (trip f m n) 3) = -(n : Int)) && decide ((rsN f m (trip f m n) 3 - 8 * (endN f m n : Int)).fmod (pwN f (trip f m n) 3) = 0) &&
  decide (-1000000 < -(rsN f m (trip f m n) 3) * pwN f (trip f m n) 3) && decide (-(rsN f m (trip f m n) 3) * pwN f (trip f m n) 3 < 1000000) && decide ((-(rsN f m (trip f m n) 3) * pwN f (trip f m n) 3).fmod 8 = ((n % 8 : Nat) : Int))
theorem endF_of {f m : Int} {n : Nat} (h : endB f m n = true) : EndF f m n := by
  unfold endB at h
  simp only [Bool.and_eq_true, decide_eq_true_eq] at h
  obtain ⟨⟨⟨⟨⟨⟨⟨⟨⟨h1, h2⟩, h3⟩, h4⟩, h5⟩, h6⟩, h7⟩, h8⟩, h9⟩, h10⟩ := h
  exact ⟨h1, h2, h3, h4, h5, h6, h7, h8, h9, h10⟩
theorem end_all : ((List.range 24).all fun n => [1, 3, 5].all fun f => [0, 1, 2, 3].all fun m => endB f m n) = true := by decide +kernel
theorem end_facts {f m : Int} {n : Nat} (hn : n < 24) (hf : f = 1 ∨ f = 3 ∨ f = 5) (hm : m = 0 ∨ m = 1 ∨ m = 2 ∨ m = 3) : EndF f m n := by
  have h1 := List.all_eq_true.mp end_all n (List.mem_range.mpr hn)
  have h2 := List.all_eq_true.mp h1 f (by simpa using hf)
  have h3 := List.all_eq_true.mp h2 m (by simpa using hm)
  exact endF_of h3
structure PowSt where
  pw : Int
  tp : Tok
  rs : Int
  tr : Tok
abbrev JPs (c : PowSt) : List (Str × Value) := [(Str.ofString "power", .int c.pw c.tp), (Str.ofString "rest", .int c.rs c.tr)]
theorem jloop {prog : Program} {w : World} {A : Around} {E : Value → Shared → Prop} {s : Shared} {env : Env} {h₀ : Heap} {x : Str} {px : Pos} {body : List Stmt} {Q : Flow → Shared → Prop} {r : Addr} {t₀ u₀ v₀ tp tr : Tok} {m₀ : Str → Option Value} {nw : List (Addr × Obj)} (f m : Int) (b : Bool × Bool × Bool)
    (hx : env.kindOf x = some .local) (hpk : (env.scope.kind == .class || (env.scope.kind == .module && env.locals != env.globals)) = false) (hE : PassesOwn (model prog w) A env E)
    (hh : A.handled = none) (hr : IsRange s.heap r 0 3 1 t₀ u₀ v₀) (F : Fr h₀ env.locals s.heap m₀) (N : News h₀ env.locals s.heap nw) (hk : m₀ (Str.ofString "power") = some (.int 1 tp)) (hk2 : m₀ (Str.ofString "rest") = some (.int 0 tr))
    (turn : ∀ (I : Addr) (i : Nat) (tp tr : Tok) (u : Str → Option Value) (it : Obj) (t : Tok) (h : Heap) (tk : Nat), i < 3 → RestOff nw I →
      Fr h₀ env.locals h (fun y => if y = x then some (.int (i : Int) t) else kstB (fun z => if [Str.ofString "j"].contains z then u z else m₀ z) (JPs ⟨pwN f b i, tp, rsN f m b i, tr⟩) y) → News h₀ env.locals h ((I, it) :: nw) →
      wpAny (model prog w) A (execs body env) (KgPost (σ := PowSt) h₀ env.locals s I it (fun _ => nw) JPs [Str.ofString "j"] m₀ (fun _ c => c.pw = pwN f b (i + 1) ∧ c.rs = rsN f m b (i + 1)) Q) E { s with heap := h, toks := tk })
    (done : ∀ (tp tr : Tok) (u : Str → Option Value) (h : Heap) (tk : Nat), s.toks ≤ tk → Fr h₀ env.locals h (kstB (fun z => if [Str.ofString "j"].contains z then u z else m₀ z) (JPs ⟨pwN f b 3, tp, rsN f m b 3, tr⟩)) → News h₀ env.locals h nw → Q .next { s with heap := h, toks := tk }) :
    wpAny (model prog w) A (pyIter (.ref r)) (fun it s₂ => LoopT prog w A env x px body Q E it s₂) E s := by
  refine krange (σ := PowSt) 3 (fun _ => nw) JPs [Str.ofString "j"] (fun i tk c => c.pw = pwN f b i ∧ c.rs = rsN f m b i ∧ s.toks ≤ tk) ⟨1, tp, 0, tr⟩ hx hpk hE hh hr (by decide) (by decide) F N (List.forall_mem_cons.mpr ⟨hk, List.forall_mem_cons.mpr ⟨hk2, fun _ h => nomatch h⟩⟩) ⟨rfl, rfl, Nat.le_refl _⟩ (fun i tk tk' c hle h => ⟨h.1, h.2.1, Nat.le_trans h.2.2 hle⟩) ?_ ?_
  · rintro I i ⟨pw, tp, rs, tr⟩ u it t h tk hi ho ⟨e1, e2, e3⟩ F N
    dsimp only at e1 e2
    subst e1 e2
    refine wpAny_tokQ (wpAny_mono (turn I i tp tr u it t h tk hi ho F N) (fun fl s₂ q hle => ?_) fun _ _ e => e)
    have go : KgEnd (σ := PowSt) h₀ env.locals s I it (fun _ => nw) JPs [Str.ofString "j"] m₀ (fun _ c => c.pw = pwN f b (i + 1) ∧ c.rs = rsN f m b (i + 1)) s₂ → KgEnd (σ := PowSt) h₀ env.locals s I it (fun _ => nw) JPs [Str.ofString "j"] m₀ (fun tk c => c.pw = pwN f b (i + 1) ∧ c.rs = rsN f m b (i + 1) ∧ s.toks ≤ tk) s₂ := by
      rintro ⟨c', h', tk', m', news', rfl, a1, a2, a3, a4, a5, a6, a7, a8, a9⟩
      exact ⟨c', h', tk', m', news', rfl, a1, a2, a3, a4, a5, a6, a7, a8, a9, Nat.le_trans e3 hle⟩
    cases fl with
    | ret v => exact q
    | brk => exact q
    | next => exact go q
    | cont => exact go q
  · rintro ⟨pw, tp, rs, tr⟩ u h tk ⟨e1, e2, e3⟩ F N
    dsimp only at e1 e2
    subst e1 e2
    exact done tp tr u h tk e3 F N
theorem j_fin {h₀ : Heap} {L I : Addr} {s : Shared} {it : Obj} {nw : List (Addr × Obj)} {m₀ m' : Str → Option Value} {P : Nat → PowSt → Prop} {Q : Flow → Shared → Prop} {h' : Heap} {tk : Nat} (c : PowSt)
    (F : Fr h₀ L h' m') (N : News h₀ L h' ((I, it) :: nw)) (ho : RestOff nw I) (hk : m' (Str.ofString "power") = some (.int c.pw c.tp)) (hk2 : m' (Str.ofString "rest") = some (.int c.rs c.tr)) (hz : ∀ z, z ≠ Str.ofString "power" → z ≠ Str.ofString "rest" → [Str.ofString "j"].contains z = false → m' z = m₀ z) (hP : P tk c) :
    KgPost (σ := PowSt) h₀ L s I it (fun _ => nw) JPs [Str.ofString "j"] m₀ P Q .next { s with heap := h', toks := tk } :=
  ⟨c, h', tk, m', _, rfl, F, N, .head _, fun p hp => .tail _ hp, ho, List.forall_mem_cons.mpr ⟨hk, List.forall_mem_cons.mpr ⟨hk2, fun _ h => nomatch h⟩⟩, fun z hz1 hz2 => hz z (hz1 _ (.head _)) (hz1 _ (.tail _ (.head _))) hz2, hP⟩
theorem pw_lit {f m : Int} {b : Bool × Bool × Bool} {i : Nat} (hi : i < 3) (h : litV (sxt b) (shr b) (lvl b) (i : Int) = true) : f * pwN f b i = pwN f b (i + 1) ∧ f * rsN f m b i + (2 * m - f) * 2 ^ (i : Int).toNat = rsN f m b (i + 1) := by
  rw [lit_bit b i hi] at h
  simp only [pwN, rsN, h, if_true, Int.toNat_natCast, and_self]
theorem pw_dark {f m : Int} {b : Bool × Bool × Bool} {i : Nat} (hi : i < 3) (h : litV (sxt b) (shr b) (lvl b) (i : Int) = false) : pwN f b i = pwN f b (i + 1) ∧ rsN f m b i = rsN f m b (i + 1) := by
  rw [lit_bit b i hi] at h
  simp only [pwN, rsN, h, Bool.false_eq_true, if_false, and_self]
end
section
/-- _law_walk, told by the lamps as a triple -/
theorem walk_call3 {w : World} {p : Program} {loose : List Str} {mean : ExcName → Option Value} {mg mb : Str → Option Value} (dp un : Nat) (gd : Option (List Code)) (cn : Str) (cs : Scope) (a : Addr) (ccd : Value) (cl : List (Str × Addr)) (outer : List Env) (A₀ : Around) (base h₀ : Heap) (L : Addr) (m : Str → Option Value) (s : Shared) (Q E : Value → Shared → Prop) (nw : List (Addr × Obj)) (n f k : Int) (n' : Nat) (tx ty tz : Tok) (B : Below A₀ base outer h₀) (F : Fr h₀ L s.heap m) (X : (hd.heap_39 w.params).In h₀) (N : News h₀ L s.heap nw) (T : Top p loose mean mg mb h₀) (hk : cs.kind = .function)
    (hn' : n = (n' : Int)) (hn2 : n' < 24) (hf : 1 ≤ f) (hf2 : f ≤ 5) (hm : 0 ≤ k) (hm2 : k ≤ 3)
    (hdp : dp + 10 < recursionLimit) (hun : un + 50 < cLine)
    (ret : ∀ (D l : Addr) (t1 t2 t3 tT : Tok) (cap : Nat) (Tx : Str) (h' : Heap) (tk' : Nat), IsT 120 Tx (endN f k n') → endN f k n' ≤ 373 → (TokIn (s.toks + 1) tk' t1 ∧ TokIn (s.toks + 1) tk' t2 ∧ TokIn (s.toks + 1) tk' t3) → Fr h₀ L h' m →
      News h₀ L h' ((D, ({ cls := .type "tuple", data := .seq #[.ref l, .str Tx tT] } : Obj)) :: (l, W.listOf #[.float (lampF (trip f k n').1) t1, .float (lampF (trip f k n').2.1) t2, .float (lampF (trip f k n').2.2) t3] cap) :: nw) → RestLt ((l, W.listOf #[.float (lampF (trip f k n').1) t1, .float (lampF (trip f k n').2.1) t2, .float (lampF (trip f k n').2.2) t3] cap) :: nw) D → RestLt nw l → Q (.ref D) { s with heap := h', toks := tk' }) :
    wpAny (model Challenge.rw_rl0055_02.row.prog w) (ktrTop dp un gd cn cs L a ccd cl outer) (call (.ref 109) [.int n tx, .int f ty, .int k tz]) Q E s := by
  subst hn'
  refine walk_call dp un gd cn cs a ccd cl outer A₀ base h₀ L m s Q E nw n' f k tx ty tz B F X N T hk (by omega) (by omega) hf hf2 hm hm2 hdp hun ?_
  intro D l t1 t2 t3 tT cap Tx b0 b1 b2 e h' tk' hL hT he ht F' N' R1 R2
  rw [Int.toNat_natCast] at hL
  have e1 : trip f k n' = (b0, b1, b2) := by unfold trip; rw [hL]; rfl
  have e2 : endN f k n' = e := by unfold endN; rw [hL]
  rw [← e2] at hT he
  rw [e1, e2] at ret
  rw [e2] at hT he
  exact ret D l t1 t2 t3 tT cap Tx h' tk' hT he ht F' N' R1 R2
end
section
structure LawSt where
  refs : List Value
  cap : Nat
  tups : List (Addr × Obj)
  T : List (Addr × Obj)
  ts : List (Nat × Nat)
noncomputable def hsvObj (b : Bool × Bool × Bool) (t1 t2 t3 : Tok) : Obj := { cls := .type "tuple", data := .seq #[.float (lvl b) t1, .float (shr b) t2, .int (sxt b) t3] }
inductive SeenAre (tups : List (Addr × Obj)) : List Value → List (Bool × Bool × Bool) → List (Nat × Nat) → Prop
  | nil : SeenAre tups [] [] []
  | cons {a : Addr} {b : Bool × Bool × Bool} {t1 t2 : Nat} {t3 : Tok} {vs : List Value} {bs : List (Bool × Bool × Bool)} {ts : List (Nat × Nat)} : (a, hsvObj b t1 t2 t3) ∈ tups → SeenAre tups vs bs ts → SeenAre tups (.ref a :: vs) (b :: bs) ((t1, t2) :: ts)
theorem SeenAre.length {tups : List (Addr × Obj)} {vs : List Value} {bs : List (Bool × Bool × Bool)} {ts : List (Nat × Nat)} (h : SeenAre tups vs bs ts) : vs.length = bs.length := by
  induction h with
  | nil => rfl
  | cons _ _ ih => simp [ih]
theorem SeenAre.mono {tups tups' : List (Addr × Obj)} {vs : List Value} {bs : List (Bool × Bool × Bool)} {ts : List (Nat × Nat)} (h : SeenAre tups vs bs ts) (hs : ∀ p ∈ tups, p ∈ tups') : SeenAre tups' vs bs ts := by
  induction h with
  | nil => exact .nil
  | cons hm _ ih => exact .cons (hs _ hm) ih
theorem SeenAre.snoc {tups : List (Addr × Obj)} {vs : List Value} {bs : List (Bool × Bool × Bool)} {ts : List (Nat × Nat)} {a : Addr} {b : Bool × Bool × Bool} {t1 t2 : Nat} {t3 : Tok} (h : SeenAre tups vs bs ts) (hm : (a, hsvObj b t1 t2 t3) ∈ tups) : SeenAre tups (vs ++ [.ref a]) (bs ++ [b]) (ts ++ [(t1, t2)]) := by
  induction h with
  | nil => exact .cons hm .nil
  | cons hm' _ ih => exact .cons hm' ih
/-- the tokens of a list of pairs, the newest first: each pair's are newer than all that stand behind it -/
noncomputable def TokSep : Nat → List (Nat × Nat) → Prop
  | _, [] => True
  | tk, p :: r => ∃ lo, TokIn (lo + 1) tk p.1 ∧ TokIn (lo + 1) tk p.2 ∧ TokSep lo r
theorem TokSep.mono {tk tk' : Nat} (h : tk ≤ tk') : ∀ {l : List (Nat × Nat)}, TokSep tk l → TokSep tk' l
  | [], _ => trivial
  | _ :: _, ⟨lo, h1, h2, h3⟩ => ⟨lo, h1.mono h, h2.mono h, h3⟩
abbrev LawPs (f m : Int) (tf tm : Tok) (dA sA : Addr) : List (Str × Value) := [(Str.ofString "factor", .int f tf), (Str.ofString "more", .int m tm), (Str.ofString "drawn", .ref dA), (Str.ofString "seen", .ref sA)]
abbrev LawNames : List Str := [Str.ofString "k", Str.ofString "start", Str.ofString "lamps", Str.ofString "text", Str.ofString "end", Str.ofString "hue", Str.ofString "share", Str.ofString "level", Str.ofString "sixth", Str.ofString "power", Str.ofString "rest", Str.ofString "j"]
noncomputable def LawP (f m : Int) (dA sA : Addr) (dvs : List Value) (i tk : Nat) (c : LawSt) : Prop :=
  SeenAre c.tups c.refs ((List.range i).map (trip f m)) c.ts ∧ TabW c.T ((sA, W.listOf c.refs.toArray c.cap) :: (dA, LCg.lst dvs) :: c.tups) ∧ RestOff c.tups sA ∧ RestOff c.T sA ∧ TokSep tk c.ts.reverse
theorem tab_new {T tups keep : List (Addr × Obj)} {D : Addr} {o : Obj} (hW : TabW T keep) (h : AllLt D (tups ++ T)) : TabW T ((D, o) :: keep) :=
  hW.keep (List.forall_mem_cons.mpr ⟨.inr fun p hp => Nat.ne_of_lt (rest_of_allLt h p (List.mem_append_right _ hp)), fun q hq => .inl ⟨q, hq, rfl⟩⟩)
theorem tabw_turn {h₀ h : Heap} {L D I sA dA : Addr} {o1 it o3 o3' o4 : Obj} {tups T : List (Addr × Obj)} (N₀ : News h₀ L h ((D, o1) :: (I, it) :: (sA, o3) :: (dA, o4) :: (tups ++ T))) (hW : TabW T ((sA, o3') :: (dA, o4) :: tups)) (h1 : AllLt D (tups ++ T)) (h2 : RestOff T I) :
    TabW T ((D, o1) :: (I, it) :: (sA, o3) :: (dA, o4) :: tups) :=
  hW.keep (List.forall_mem_cons.mpr ⟨.inr fun p hp => Nat.ne_of_lt (rest_of_allLt h1 p (List.mem_append_right _ hp)), List.forall_mem_cons.mpr ⟨.inr h2, List.forall_mem_cons.mpr ⟨.inl ⟨_, .head _, rfl⟩, List.forall_mem_cons.mpr ⟨.inl ⟨_, .tail _ (.head _), rfl⟩, fun q hq => .inl ⟨q, .tail _ (.tail _ hq), rfl⟩⟩⟩⟩⟩)
theorem txt_ne {e : Nat} {x : Str} (h : IsT 120 x e) : (x != Txt.mul (Str.ofString "\"") ((x.length : Int) - 1) ++ Str.ofString "x") = false := by
  have h1 := isT_len h
  have h2 : IsT 120 (Txt.mul (Str.ofString "\"") ((x.length : Int) - 1) ++ Str.ofString "x") e := by
    have := isT_mul (c := 120) ((x.length : Int) - 1) lit_x
    rw [h1] at this ⊢
    have e2 : (((e + 1 : Nat) : Int) - 1).toNat = e := by omega
    rw [e2] at this
    exact this
  have h5 : Txt.mul (Str.ofString "\"") ((x.length : Int) - 1) ++ Str.ofString "x" = x := (isT_eq h2).trans (isT_eq h).symm
  rw [h5]
  simp
theorem txt_len {e : Nat} {x : Str} (h : IsT 120 x e) : (x.length : Int) - 1 = (e : Int) := by
  have := isT_len h
  omega
structure LawEnd (h₀ : Heap) (L I : Addr) (h' : Heap) (it : Obj) (dA sA : Addr) (dvs : List Value) (tups : List (Addr × Obj)) (D : Addr) (arr : Array Value) (cap : Nat) (b : Bool × Bool × Bool) (t1 t2 t3 : Tok) (T keep news' : List (Addr × Obj)) (d : Addr × Obj) : Prop where
  N : News h₀ L h' news'
  hW : TabW T (d :: keep)
  hA : Ap T keep
  k1 : (sA, W.listOf arr cap) ∈ keep
  k2 : (dA, LCg.lst dvs) ∈ keep
  k3 : (D, hsvObj b t1 t2 t3) ∈ keep
  k4 : (I, it) ∈ keep
  k5 : ∀ p ∈ tups, p ∈ keep
  n1 : ∀ p ∈ keep, p ∈ news'
  n2 : ∀ p ∈ T, p ∈ news'
theorem law_fin {h₀ : Heap} {L I : Addr} {s : Shared} {it : Obj} {m₀ m' : Str → Option Value} {Q : Flow → Shared → Prop} {h' : Heap} {tk : Nat} {f k : Int} {tf tm : Tok} {dA sA : Addr} {dvs refs : List Value} {tups T keep news' : List (Addr × Obj)} {d : Addr × Obj} {D : Addr} {arr : Array Value} {cap i n' tk₀ : Nat} {t1 t2 : Nat} {t3 : Tok} {ts : List (Nat × Nat)}
    (F : Fr h₀ L h' m') (H : LawEnd h₀ L I h' it dA sA dvs tups D arr cap (trip f k n') t1 t2 t3 T keep news' d) (ha : arr = (refs ++ [Value.ref D]).toArray) (hS : SeenAre tups refs ((List.range i).map (trip f k)) ts) (hK : TokSep tk₀ ts.reverse) (g1 : TokIn (tk₀ + 1) tk t1) (g2 : TokIn (tk₀ + 1) tk t2) (hs : trip f k n' = trip f k i)
    (o1 : ¬ @Eq Nat sA I) (o2 : ¬ @Eq Nat dA I) (o3 : ¬ @Eq Nat D I) (o4 : ¬ @Eq Nat D sA) (o5 : RestOff tups I) (o6 : RestOff tups sA)
    (hk : ∀ p ∈ LawPs f k tf tm dA sA, m' p.1 = some p.2) (hz : ∀ z, (∀ p ∈ LawPs f k tf tm dA sA, z ≠ p.1) → LawNames.contains z = false → m' z = m₀ z) :
    KgPost (σ := LawSt) h₀ L s I it (fun c => (sA, W.listOf c.refs.toArray c.cap) :: (dA, LCg.lst dvs) :: (c.tups ++ c.T)) (fun _ => LawPs f k tf tm dA sA) LawNames m₀ (LawP f k dA sA dvs (i + 1)) Q .next { s with heap := h', toks := tk } := by
  obtain ⟨N, hW, hA, k1, k2, k3, k4, k5, n1, n2⟩ := H
  subst ha
  refine ⟨⟨refs ++ [Value.ref D], cap, (D, hsvObj (trip f k n') t1 t2 t3) :: tups, T, ts ++ [(t1, t2)]⟩, h', tk, m', news', rfl, F, N, n1 _ k4, sub_cons (n1 _ k1) (sub_cons (n1 _ k2) (sub_app (sub_cons (n1 _ k3) fun p hp => n1 _ (k5 p hp)) n2)), ?_, hk, hz, ?_, ?_, ?_, ?_, ?_⟩
  · refine List.forall_mem_cons.mpr ⟨fun e => o1 e, List.forall_mem_cons.mpr ⟨fun e => o2 e, ?_⟩⟩
    intro p hp
    rcases List.mem_append.mp hp with hp | hp
    · rcases List.mem_cons.mp hp with rfl | hp
      · exact fun e => o3 e
      · exact o5 p hp
    · exact hA p hp _ k4
  · rw [List.range_succ, List.map_append, List.map_singleton]
    have := (hS.mono (tups' := (D, hsvObj (trip f k n') t1 t2 t3) :: tups) fun p hp => .tail _ hp).snoc (.head _)
    rw [hs] at this ⊢
    exact this
  · exact hW.keep (List.forall_mem_cons.mpr ⟨.inl ⟨_, .tail _ k1, rfl⟩, List.forall_mem_cons.mpr ⟨.inl ⟨_, .tail _ k2, rfl⟩, List.forall_mem_cons.mpr ⟨.inl ⟨_, .tail _ k3, rfl⟩, fun q hq => .inl ⟨q, .tail _ (k5 q hq), rfl⟩⟩⟩⟩)
  · refine List.forall_mem_cons.mpr ⟨fun e => o4 e, o6⟩
  · exact fun p hp => hA p hp _ k1
  · rw [List.reverse_append]
    exact ⟨tk₀, g1, g2, hK⟩
theorem tok_l3 {A B : Prop} {lo hi lo' hi' t : Nat} (h : A ∧ B ∧ TokIn lo hi t) (h1 : lo' ≤ lo) (h2 : hi ≤ hi') : TokIn lo' hi' t := h.2.2.mono2 h1 h2
theorem tok_l2 {A B : Prop} {lo hi lo' hi' t : Nat} (h : A ∧ TokIn lo hi t ∧ B) (h1 : lo' ≤ lo) (h2 : hi ≤ hi') : TokIn lo' hi' t := h.2.1.mono2 h1 h2
end
section
theorem fmod3 (x : Int) : 0 ≤ x.fmod 3 ∧ x.fmod 3 < 3 := by
  rw [Int.fmod_eq_emod_of_nonneg _ (by decide)]; omega
theorem law2_turn {w : World} {p : Program} {loose : List Str} {mean : ExcName → Option Value} {mg mb : Str → Option Value} (cd : Value) (fa : Addr) (h₀ : Heap) (L : Addr) (m₀ : Str → Option Value) (s : Shared) (Q : Flow → Shared → Prop) (f k : Int) (tf tm : Tok) (dA sA : Addr) (dvs : List Value) (ds : List Int)
    (B : Below callerA h₀ [] h₀) (X : (hd.heap_39 w.params).In h₀) (T : Top p loose mean mg mb h₀) (C1 : CodeHd h₀ 66 62) (C2 : CodeHd h₀ 73 69)
    (hf : f = 1 ∨ f = 3 ∨ f = 5) (hk : k = 0 ∨ k = 1 ∨ k = 2 ∨ k = 3) (hI : IntsAre dvs ds) (hds : ds.length = 10) (hds2 : ¬ @Eq Nat dA sA)
    (I : Addr) (i : Nat) (refs : List Value) (cap : Nat) (tups T₀ : List (Addr × Obj)) (ts : List (Nat × Nat)) (u : Str → Option Value) (it : Obj) (t : Tok) (h : Heap) (tk : Nat) (hi : i < 8) (hI1 : ¬ @Eq Nat sA I) (hI2 : ¬ @Eq Nat dA I) (hI3 : RestOff tups I) (hI4 : RestOff T₀ I)
    (hP : LawP f k dA sA dvs i tk ⟨refs, cap, tups, T₀, ts⟩)
    (F : Fr h₀ L h (fun y => if y = Str.ofString "k" then some (.int (i : Int) t) else kstB (fun z => if LawNames.contains z then u z else m₀ z) (LawPs f k tf tm dA sA) y))
    (N : News h₀ L h ((I, it) :: (sA, W.listOf refs.toArray cap) :: (dA, LCg.lst dvs) :: (tups ++ T₀))) :
    wpAny (model Challenge.rw_rl0055_02.row.prog w) (callerA.deeper (envOfC (Str.ofString "law") (lawOf Challenge.pw_rl0055_02).2 L fa cd)) (execs (forIn (lawOf Challenge.pw_rl0055_02).1) (envOfC (Str.ofString "law") (lawOf Challenge.pw_rl0055_02).2 L fa cd))
      (KgPost (σ := LawSt) h₀ L s I it (fun c => (sA, W.listOf c.refs.toArray c.cap) :: (dA, LCg.lst dvs) :: (c.tups ++ c.T)) (fun _ => LawPs f k tf tm dA sA) LawNames m₀ (LawP f k dA sA dvs (i + 1)) Q) (fun _ _ => False) { s with heap := h, toks := tk } := by
  k_with_none
  k_with "m all" => first | (refine List.forall_mem_cons.mpr ⟨?ka1, ?ka2⟩; (case ka1 => exact neN (by omega)); (case ka2 => k_all)) | exact restLt_ne (by assumption) (by omega) | exact (by assumption : RestOff _ _) | exact restLt_ne (rest_of_allLt (by assumption)) (by omega) | exact restLt_ne (rest_of_allLt (And.right (by assumption))) (by omega) | exact restLt_ne (rest_of_allLt (And.right (And.right (by assumption)))) (by omega)
  k_with "m UnrEnd" => (refine unr_cons (by assumption) (by assumption) (by k_all) ?_)
  k_with "m call ref" => (k_here; refine Still.out ?_)
  k_with "m call ref" => (k_here; (with_reducible show wpAny _ _ (call (Value.ref 109) _) _ _ _); k_dflt (refine' walk_call3 _ _ _ _ _ _ _ _ _ _ _ _ _ _ _ _ _ _ _ _ _ _ _ _ _ ?b1 ?b2 ?b3 ?b4 ?b5 ?b6 ?c1 ?c2 ?c3 ?c4 ?c5 ?c6 ?d5 ?d6 ?_); (case b1 => k_asm); (case b2 => k_asm); (case b3 => k_asm); (case b4 => k_asm); (case b5 => k_asm); (case b6 => rfl); (case c1 => assumption); (case c2 => assumption); (case c3 => assumption); (case c4 => assumption); (case c5 => assumption); (case c6 => assumption); (case d5 => ktr_room); (case d6 => ktr_units); (intro D' l' t1' t2' t3' tT' cap' Tx' h' tk' hT' he' hg' F' N' R1' R2'); (k_dflt (k_lt R1')); (k_dflt (k_lt R2')); (have hlen' := isT_len hT'); (try dsimp only); (try k_sweep))
  k_with "m call ref" => (k_here; (with_reducible show wpAny _ _ (call (Value.ref 95) _) _ _ _); k_dflt (refine' rgb_call _ _ _ _ _ _ _ _ _ _ _ _ _ _ _ _ _ _ _ _ _ _ _ _ _ _ ?b1 ?b2 ?b3 ?b4 ?b5 ?b6 ?c0 ?c1 ?c2 ?d5 ?d6 ?_); (case c0 => assumption); (case b1 => k_asm); (case b2 => k_asm); (case b3 => k_asm); (case b4 => k_asm); (case b5 => k_asm); (case b6 => rfl); (case c1 => k_dflt (exact (gray_lamps _).1)); (case c2 => k_dflt (exact (gray_lamps _).2)); (case d5 => ktr_room); (case d6 => ktr_units); (intro D' t1' t2' t3' h' tk' hg' F' N' R1'); (k_dflt (k_lt R1')); (try dsimp only); (try k_sweep))
  k_with "m call ref" => (k_here; (with_reducible show wpAny _ _ (call (Value.ref 116) _) _ _ _); k_dflt (refine' lit_call _ _ _ _ _ _ _ _ _ _ _ _ _ _ _ _ _ _ _ _ _ _ _ _ _ _ ?b1 ?b2 ?b3 ?b4 ?b5 ?b6 ?c1 ?c2 ?c3 ?c4 ?d5 ?d6 ?_); (case b1 => k_asm); (case b2 => k_asm); (case b3 => k_asm); (case b4 => k_asm); (case b5 => k_asm); (case b6 => rfl); (case c1 => exact Int.lt_of_lt_of_le (by decide) (sxt_small _).1); (case c2 => exact Int.lt_of_lt_of_le (sxt_small _).2 (by decide)); (case c3 => omega); (case c4 => omega); (case d5 => ktr_room); (case d6 => ktr_units); (intro h' tk' F' N'); (try dsimp only); (try k_sweep))
  k_with "m call ref" => (k_here; (with_reducible show wpAny _ _ (call (Value.ref 88) _) _ _ _); k_dflt (refine idm_W _ _ _ _ _ _ _ _ _ _ _ _ _ _ _ _ _ _ _ _ _ _ _ _ (by k_asm) (by k_asm) (by k_asm) (by k_asm) (by k_asm) rfl (by assumption) (by assumption) (by repeat (first | exact split_app | apply split_cons)) (by first | assumption | exact tab_new (by assumption) (And.right (by assumption)) | exact tab_new (by assumption) (And.right (And.right (by assumption))) | exact tab_new (by assumption) (And.right (And.right (And.right (by assumption)))) | exact tab_new (by assumption) (And.right (And.right (And.right (And.right (by assumption))))) | exact tab_new (by assumption) (And.right (And.right (And.right (And.right (And.right (by assumption)))))) | exact tab_new (by assumption) (And.right (And.right (And.right (And.right (And.right (And.right (by assumption))))))) | exact tab_new (by assumption) (And.right (And.right (And.right (And.right (And.right (And.right (And.right (by assumption)))))))) | exact tab_new (by assumption) (And.right (And.right (And.right (And.right (And.right (And.right (And.right (And.right (by assumption))))))))) | exact tab_new (by assumption) (And.right (And.right (And.right (And.right (And.right (And.right (And.right (And.right (And.right (by assumption))))))))))) (by first | assumption | omega) (by first | assumption | omega) (by first | assumption | omega) (by first | assumption | omega) (by omega) (by ktr_room) (by ktr_units) ?_); (intro D' t1' t2' T'' h' tk' hW' hA' R1' R2' F' N'); (try simp only [List.cons_append] at N'); (k_dflt (k_lt R2')); (try dsimp only); (try k_sweep))
  k_with "m ite" => first | (with_reducible refine ite_pos (by with_reducible assumption) ?_) | (with_reducible refine ite_bf (by with_reducible assumption) ?_)
  k_with "m call type:int" => (k_here; (with_reducible show wpAny _ _ (call (Value.type "int") [Value.float _ _]) _ _ _); k_dflt (refine int_dec (sxt_dec _) ?_))
  k_with "m pyIter ref" => (k_here; refine Still.out ?_)
  k_with "m exec For Name Call cons nil" => (k_here; k_dflt (refine For_T (wpAny_tokQ ?_)))
  k_with "m execs cons" => (k_here; (fail_if_success (fail_if_success k_gentoks)); refine gen_tok ?_; intro tk' htk')
  k_with "m execs nil" => (k_here; (fail_if_success (fail_if_success k_gentoks)); refine gen_tok ?_; intro tk' htk')
  k_with "m exec Assign" => (k_here; (fail_if_success (with_reducible show wpAny _ _ _ (fun _ s' => TokLe _ s' → _) _ _)); refine wpAny_tokQ ?_)
  k_with "m exec If" => (k_here; (fail_if_success (with_reducible show wpAny _ _ _ (fun _ s' => TokLe _ s' → _) _ _)); refine wpAny_tokQ ?_)
  k_with "m exec Expr" => (k_here; (fail_if_success (with_reducible show wpAny _ _ _ (fun _ s' => TokLe _ s' → _) _ _)); refine wpAny_tokQ ?_)
  w_top off
  revert X; k_fill; intro X
  have hf1 : 1 ≤ f := by omega
  have hf2 : f ≤ 5 := by omega
  have hk1 : 0 ≤ k := by omega
  have hk2 : k ≤ 3 := by omega
  obtain ⟨hS, hW, hT1, hT2, hK⟩ := id hP
  dsimp only at hS hW hT1 hT2 hK
  have hT3 : RestOff (tups ++ T₀) sA := fun p hp => (List.mem_append.mp hp).elim (hT1 p) (hT2 p)
  have hrl : refs.length = i := by have := hS.length; simpa using this
  dsimp only [kstB] at F
  obtain ⟨n', hn1, hn2, hn3⟩ : ∃ n' : Nat, (i : Int) + 8 * (5 * (i : Int) + 1 + ds.getD (i : Int).toNat 0).fmod 3 = (n' : Int) ∧ n' < 24 ∧ n' % 8 = i := by
    obtain ⟨hq1, hq2⟩ := fmod3 (5 * (i : Int) + 1 + ds.getD (i : Int).toNat 0)
    exact ⟨((i : Int) + 8 * (5 * (i : Int) + 1 + ds.getD (i : Int).toNat 0).fmod 3).toNat, by omega, by omega, by omega⟩
  conv in (execs (forIn _) _) => arg 1; whnf
  conv in (lawOf _).2 => whnf
  conv in (lawOf _).2 => whnf
  k_steps
  refine Still.put ?_
  refine' jloop f k (trip f k n') rfl rfl ?hE rfl (by assumption) (by assumption) (by assumption) rfl rfl ?jturn ?jdone
  case hE => passes_own
  case jturn =>
    intro I₂ j tp tr u₂ it₂ t₂ h₂ tk₂ hj ho₂ F N
    dsimp only [kstB] at F
    change Fr h₀ L h₂ _ at F
    change News h₀ L h₂ _ at N
    k_steps
    · refine j_fin ⟨_, _, _, _⟩ (by assumption) (by assumption) ho₂ (by rfl) (by rfl) ?_ (pw_lit hj (by assumption))
      intro z h1 h2 h3
      simp only [List.contains_cons, List.contains_nil, Bool.or_false, beq_eq_false_iff_ne, ne_eq] at h3
      simp [h1, h2, h3]
    · refine j_fin ⟨_, _, _, _⟩ (by assumption) (by assumption) ho₂ (by rfl) (by rfl) ?_ (pw_dark hj (by assumption))
      intro z h1 h2 h3
      simp only [List.contains_cons, List.contains_nil, Bool.or_false, beq_eq_false_iff_ne, ne_eq] at h3
      simp [h1, h2, h3]
  case jdone =>
    intro tp tr u₂ h₂ tk₂ hle₂ F N
    dsimp only [kstB] at F
    change Fr h₀ L h₂ _ at F
    change News h₀ L h₂ _ at N
    rename IsT 120 _ _ => hT9
    have hne := txt_ne hT9
    have hlen := isT_len hT9
    obtain ⟨e0, e1, e2, e3, e4, e5, e6, e7, e8, e9⟩ := end_facts hn2 hf hk
    replace N := news_sub N (sub_cons (.head _) (sub_tail (sub_tail (sub_tail (sub_tail sub_refl)))))
    have hW2 := tabw_turn N hW (by assumption : _ ∧ _ ∧ _ ∧ _ ∧ _ ∧ _ ∧ AllLt _ (tups ++ T₀)).2.2.2.2.2.2 hI4
    k_steps
    · exfalso
      exact absurd (e9.trans (by rw [hn3])) (by assumption : _ ≠ _)
    · refine law_fin (by assumption) ⟨by assumption, by assumption, by assumption, by repeat (first | exact List.Mem.head _ | apply List.Mem.tail), by repeat (first | exact List.Mem.head _ | apply List.Mem.tail), by repeat (first | exact List.Mem.head _ | apply List.Mem.tail), by repeat (first | exact List.Mem.head _ | apply List.Mem.tail), by repeat (first | exact sub_refl | apply sub_tail), by exact fun p hp => List.Mem.tail _ (List.mem_append_left _ hp), by repeat (first | exact sub_right | apply sub_tail)⟩
        (List.push_toArray _ _) hS hK ?_ ?_ (e0.trans (by rw [hn3])) hI1 hI2 (by omega) (by omega) hI3 hT1
        (List.forall_mem_cons.mpr ⟨by rfl, List.forall_mem_cons.mpr ⟨by rfl, List.forall_mem_cons.mpr ⟨by rfl, List.forall_mem_cons.mpr ⟨by rfl, fun _ h => nomatch h⟩⟩⟩⟩) ?_
      · dsimp only [TokLe] at *; exact tok_l3 (by assumption) (by omega) (by omega)
      · dsimp only [TokLe] at *; exact tok_l2 (by assumption) (by omega) (by omega)
      · intro z h1 h2
        simp only [List.forall_mem_cons, List.not_mem_nil, false_implies, implies_true, and_true] at h1
        simp only [List.contains_cons, List.contains_nil, Bool.or_false, Bool.or_eq_false_iff, beq_eq_false_iff_ne, ne_eq] at h2
        simp [h1, h2]
    · exfalso
      rename (_ && _) = false => hb
      rw [txt_len hT9, e5, e6, hn1] at hb
      simp at hb
end
section
/-- how a sort goes by a plain order; none where it asks what is barred -/
noncomputable def kasEv {α : Type} (lt ok : Nat → Nat → Bool) : KasT α → Option α
  | .ret a => some a
  | .ask i j k => if ok i j = true then kasEv lt ok (k (lt i j)) else none
theorem kas_ev {α : Type} {cmp : Nat → Nat → (Bool → Shared → Prop) → Shared → Prop} {lt ok : Nat → Nat → Bool} {Q : α → Shared → Prop} {s : Shared} (hc : ∀ i j C, ok i j = true → C (lt i j) s → cmp i j C s) : ∀ (t : KasT α) (a : α), kasEv lt ok t = some a → Q a s → t.kasWp cmp Q s
  | .ret b, a, h, hq => by
    have e : b = a := Option.some.inj h
    rw [e]; exact hq
  | .ask i j k, a, h, hq => by
    have h' : (if ok i j = true then kasEv lt ok (k (lt i j)) else none) = some a := h
    by_cases ho : ok i j = true
    · rw [if_pos ho] at h'
      exact hc i j _ ho (kas_ev hc (k (lt i j)) a h' hq)
    · rw [if_neg ho] at h'; cases h'
noncomputable def ltT (b c : Bool × Bool × Bool) : Bool :=
  if (Float64.cmp (lvl b) (lvl c) == some .eq) = true then (if (Float64.cmp (shr b) (shr c) == some .eq) = true then (if (sxt b == sxt c) = true then false else decide (sxt b < sxt c)) else Float64.cmp (shr b) (shr c) == some .lt) else Float64.cmp (lvl b) (lvl c) == some .lt
theorem lvl_refl (b : Bool × Bool × Bool) : (Float64.cmp (lvl b) (lvl b) == some .eq) = true := by
  obtain ⟨b0, b1, b2⟩ := b
  cases b0 <;> cases b1 <;> cases b2 <;> decide +kernel
theorem shr_refl (b : Bool × Bool × Bool) : (Float64.cmp (shr b) (shr b) == some .eq) = true := by
  obtain ⟨b0, b1, b2⟩ := b
  cases b0 <;> cases b1 <;> cases b2 <;> decide +kernel
theorem cmp_same {x y : UInt64} (hx : (Float64.cmp x x == some .eq) = true) (h : (x == y && !Float64.isNaN x) = true) : (Float64.cmp x y == some .eq) = true := by
  have e : x = y := eq_of_beq (Bool.and_eq_true_iff.mp h).1
  rw [← e]; exact hx
section
variable {prog : Program} {w : World} {A : Around} {E : Value → Shared → Prop} {s : Shared}
theorem tup_lt {K : Frag} {x y : Addr} {b c : Bool × Bool × Bool} {t1 t2 t3 u1 u2 u3 : Tok} {Q : Bool → Shared → Prop} (X : K.In s.heap) (e : nsIn K cStatics sharingNotToldKey = some none)
    (hx : s.heap.get? x = some (hsvObj b t1 t2 t3)) (hy : s.heap.get? y = some (hsvObj c u1 u2 u3)) (z1 : (t1 == 0 || u1 == 0) = false) (z2 : (t2 == 0 || u2 == 0) = false) (h1 : t1 ≠ u1) (h2 : t2 ≠ u2) (h : Q (ltT b c) s) :
    wpAny (model prog w) A (keyLt' (tuples' true) (.ref x) (.ref y)) Q E s := by
  refine kat_lt hx rfl hy rfl ?_
  show KatLex prog w A true false Q [(.float (lvl b) t1, .float (lvl c) u1), (.float (shr b) t2, .float (shr c) u2), (.int (sxt b) t3, .int (sxt c) u3)] 0 s
  unfold ltT at h
  refine kat_cons (eqAt_float X e z1 (fun q => absurd q h1) (cmp_same (lvl_refl b)) prog w _ _ (kat_go (fun q => kat_yes ?_) (fun q => kat_no (oneLt_float _ ?_))))
  · rw [if_pos q] at h
    refine kat_cons (eqAt_float X e z2 (fun q => absurd q h2) (cmp_same (shr_refl b)) prog w _ _ (kat_go (fun q => kat_yes ?_) (fun q => kat_no (oneLt_float _ ?_))))
    · rw [if_pos q] at h
      refine kat_cons (SeqAt.EqAt.int_int _ _ _ _ prog w _ _ (kat_go (fun q => kat_yes (kat_nil ?_)) (fun q => kat_no ?_)))
      · rw [if_pos q] at h; exact h
      · rw [if_neg (by rw [q]; exact Bool.false_ne_true)] at h
        exact kat_one _ _ (wpAny_mono (wpAny_lt_int h) (fun _ _ q => q) fun _ _ q => q)
    · rw [if_neg (by rw [q]; exact Bool.false_ne_true)] at h; exact h
  · rw [if_neg (by rw [q]; exact Bool.false_ne_true)] at h; exact h
end
theorem SeenAre.tups {h : Heap} {tups : List (Addr × Obj)} (hN : ∀ p ∈ tups, h.get? p.1 = some p.2) {vs : List Value} {bs : List (Bool × Bool × Bool)} {ts : List (Nat × Nat)} (hS : SeenAre tups vs bs ts) : ∃ fs, KatTups h vs fs ∧ fs.length = vs.length ∧ ∀ v ∈ fs, ∃ x t, v = .float x t := by
  induction hS with
  | nil => exact ⟨[], KatTups.nil, rfl, fun _ h => nomatch h⟩
  | cons hm _ ih =>
    obtain ⟨fs, h1, h2, h3⟩ := ih
    exact ⟨_ :: fs, KatTups.cons (hN _ hm) rfl rfl rfl h1, by simp [h2], List.forall_mem_cons.mpr ⟨⟨_, _, rfl⟩, h3⟩⟩
theorem SeenAre.get {tups : List (Addr × Obj)} {vs : List Value} {bs : List (Bool × Bool × Bool)} {ts : List (Nat × Nat)} (hS : SeenAre tups vs bs ts) : ∀ i : Nat, i < vs.length → ∃ a t3, vs.getD i .none = .ref a ∧ (a, hsvObj (bs.getD i (false, false, false)) (ts.getD i (0, 0)).1 (ts.getD i (0, 0)).2 t3) ∈ tups := by
  induction hS with
  | nil => intro i h; exact absurd h (Nat.not_lt_zero _)
  | cons hm _ ih =>
    intro i h
    cases i with
    | zero => exact ⟨_, _, rfl, hm⟩
    | succ i =>
      obtain ⟨a, t3, h1, h2⟩ := ih i (by simpa using h)
      exact ⟨a, t3, h1, h2⟩
theorem SeenAre.len2 {tups : List (Addr × Obj)} {vs : List Value} {bs : List (Bool × Bool × Bool)} {ts : List (Nat × Nat)} (hS : SeenAre tups vs bs ts) : ts.length = vs.length := by
  induction hS with
  | nil => rfl
  | cons _ _ ih => simp [ih]
theorem TokSep.below {tk : Nat} : ∀ {l : List (Nat × Nat)}, TokSep tk l → ∀ p ∈ l, (0 < p.1 ∧ p.1 < tk) ∧ (0 < p.2 ∧ p.2 < tk)
  | [], _ => fun _ h => nomatch h
  | q :: r, ⟨lo, h1, h2, h3⟩ => List.forall_mem_cons.mpr ⟨⟨⟨Nat.lt_of_lt_of_le (Nat.succ_pos _) h1.1, h1.2⟩, ⟨Nat.lt_of_lt_of_le (Nat.succ_pos _) h2.1, h2.2⟩⟩, fun p hp => by
      have hb := TokSep.below h3 p hp
      exact ⟨⟨hb.1.1, Nat.lt_of_lt_of_le hb.1.2 (Nat.le_of_lt (Nat.lt_of_le_of_lt (Nat.le_succ lo) (Nat.lt_of_le_of_lt h1.1 h1.2)))⟩, ⟨hb.2.1, Nat.lt_of_lt_of_le hb.2.2 (Nat.le_of_lt (Nat.lt_of_le_of_lt (Nat.le_succ lo) (Nat.lt_of_le_of_lt h1.1 h1.2)))⟩⟩⟩
theorem TokSep.pair {tk : Nat} : ∀ {l : List (Nat × Nat)}, TokSep tk l → l.Pairwise fun p q => p.1 ≠ q.1 ∧ p.2 ≠ q.2
  | [], _ => .nil
  | q :: r, ⟨lo, h1, h2, h3⟩ => .cons (fun p hp => by
      have hb := TokSep.below h3 p hp
      obtain ⟨⟨_, b1⟩, ⟨_, b2⟩⟩ := hb
      have c1 := h1.1
      have c2 := h2.1
      exact ⟨by omega, by omega⟩) (TokSep.pair h3)
theorem tok_apart {tk : Nat} {ts : List (Nat × Nat)} (h : TokSep tk ts.reverse) {i j : Nat} (hi : i < ts.length) (hj : j < ts.length) (hij : i ≠ j) : (ts.getD i (0, 0)).1 ≠ (ts.getD j (0, 0)).1 ∧ (ts.getD i (0, 0)).2 ≠ (ts.getD j (0, 0)).2 := by
  have hp := List.pairwise_reverse.mp (TokSep.pair h)
  have e1 : ts.getD i (0, 0) = ts[i] := by simp [hi]
  have e2 : ts.getD j (0, 0) = ts[j] := by simp [hj]
  rw [e1, e2]
  rcases Nat.lt_or_gt_of_ne hij with q | q
  · have := List.pairwise_iff_getElem.mp hp i j hi hj q
    exact ⟨fun e => this.1 e.symm, fun e => this.2 e.symm⟩
  · have := List.pairwise_iff_getElem.mp hp j i hj hi q
    exact ⟨fun e => this.1 e, fun e => this.2 e⟩
theorem tok_nz {tk : Nat} {ts : List (Nat × Nat)} (h : TokSep tk ts.reverse) {i : Nat} (hi : i < ts.length) : 0 < (ts.getD i (0, 0)).1 ∧ 0 < (ts.getD i (0, 0)).2 := by
  have e1 : ts.getD i (0, 0) = ts[i] := by simp [hi]
  rw [e1]
  have := TokSep.below h ts[i] (by simp)
  exact ⟨this.1.1, this.2.1⟩
/-- black, white, the six hues -/
noncomputable def order8 : List (Bool × Bool × Bool) := [(false, false, false), (true, true, true), (true, false, false), (true, true, false), (false, true, false), (false, true, true), (false, false, true), (true, false, true)]
noncomputable def sortB (f k : Int) : Bool := match kasEv (fun i j => ltT (trip f k i) (trip f k j)) (fun i j => decide (i < 8) && decide (j < 8) && decide (i ≠ j)) (kas_sort 8) with
  | some p => decide (p.toList.map (trip f k) = order8) && p.toList.all (fun i => decide (i < 8))
  | none => false
theorem sort_all : ([1, 3, 5].all fun f => [0, 1, 2, 3].all fun k => sortB f k) = true := by decide +kernel
theorem sort_facts {f k : Int} (hf : f = 1 ∨ f = 3 ∨ f = 5) (hk : k = 0 ∨ k = 1 ∨ k = 2 ∨ k = 3) : ∃ p : Array Nat, kasEv (fun i j => ltT (trip f k i) (trip f k j)) (fun i j => decide (i < 8) && decide (j < 8) && decide (i ≠ j)) (kas_sort 8) = some p ∧ p.toList.map (trip f k) = order8 ∧ ∀ i ∈ p.toList, i < 8 := by
  have h2 := List.all_eq_true.mp sort_all f (by simpa using hf)
  have h3 := List.all_eq_true.mp h2 k (by simpa using hk)
  unfold sortB at h3
  split at h3
  · rename_i p hp
    rw [Bool.and_eq_true, decide_eq_true_eq, List.all_eq_true] at h3
    exact ⟨p, hp, h3.1, fun i hi => of_decide_eq_true (h3.2 i hi)⟩
  · cases h3
/-- the sorted colours -/
inductive SortAre (tups : List (Addr × Obj)) : List Value → List (Bool × Bool × Bool) → Prop
  | nil : SortAre tups [] []
  | cons {a : Addr} {b : Bool × Bool × Bool} {t1 t2 : Nat} {t3 : Tok} {vs : List Value} {bs : List (Bool × Bool × Bool)} : (a, hsvObj b t1 t2 t3) ∈ tups → 0 < t1 → 0 < t2 → SortAre tups vs bs → SortAre tups (.ref a :: vs) (b :: bs)
theorem sort_are {tups : List (Addr × Obj)} {vs : List Value} {f k : Int} {ts : List (Nat × Nat)} {tk : Nat} (hS : SeenAre tups vs ((List.range 8).map (trip f k)) ts) (hK : TokSep tk ts.reverse) (hl : vs.length = 8) : ∀ is : List Nat, (∀ i ∈ is, i < 8) → SortAre tups (is.map fun i => vs.getD i .none) (is.map (trip f k))
  | [], _ => .nil
  | i :: r, h => by
    have hi := h i (.head _)
    obtain ⟨a, t3, h1, h2⟩ := hS.get i (by omega)
    have e : ((List.range 8).map (trip f k)).getD i (false, false, false) = trip f k i := by simp [List.getD, List.getElem?_map, List.getElem?_range hi]
    rw [e] at h2
    have hz := tok_nz hK (i := i) (by rw [hS.len2]; omega)
    rw [List.map_cons, List.map_cons, h1]
    exact .cons h2 hz.1 hz.2 (sort_are hS hK hl r fun j hj => h j (.tail _ hj))
theorem nz_or {t u : Nat} (h : 0 < t) (h' : 0 < u) : ((t : Tok) == 0 || (u : Tok) == 0) = false := by
  rw [Bool.or_eq_false_iff]
  exact ⟨beq_eq_false_iff_ne.mpr (by omega), beq_eq_false_iff_ne.mpr (by omega)⟩
theorem seen_sorted {prog : Program} {w : World} {A : Around} {E : Value → Shared → Prop} {s : Shared} {h₀ : Heap} {L sA : Addr} {m : Str → Option Value} {K : Frag} {refs : List Value} {cap tk : Nat} {tups : List (Addr × Obj)} {f k : Int} {ts : List (Nat × Nat)} {Q : Value → Shared → Prop}
    (F : Fr h₀ L s.heap m) (N : News h₀ L s.heap ((sA, W.listOf refs.toArray cap) :: tups)) (X : K.In h₀) (e : nsIn K cStatics sharingNotToldKey = some none) (hS : SeenAre tups refs ((List.range 8).map (trip f k)) ts) (hK : TokSep tk ts.reverse)
    (hf : f = 1 ∨ f = 3 ∨ f = 5) (hk : k = 0 ∨ k = 1 ∨ k = 2 ∨ k = 3)
    (h : ∀ (D : Addr) (out : List Value) (c : Nat) (h' : Heap), SortAre tups out order8 → Fr h₀ L h' m → News h₀ L h' ((D, W.listOf out.toArray c) :: (sA, W.listOf refs.toArray cap) :: tups) → RestLt ((sA, W.listOf refs.toArray cap) :: tups) D → Q (.ref D) { s with heap := h' }) :
    wpAny (model prog w) A (call (.builtin "sorted") [.ref sA]) Q E s := by
  have hl : refs.length = 8 := by have := hS.length; simpa using this
  have hn := (N _ (.head _)).1
  refine kat_sorted F N (vs := refs) ⟨_, hn, rfl, cap, rfl⟩ (by omega) (by omega) fun D e1 h' F' N' hlt => ?_
  have hN : ∀ p ∈ tups, h'.get? p.1 = some p.2 := fun p hp => (N' p (.tail _ (.tail _ hp))).1
  have X' := X.keeps F'.keep
  obtain ⟨fs, k1, k2, k3⟩ := hS.tups hN
  refine kat_kind (T := .type "float") k1 (by omega) (fun v hv => ?_) rfl ?_
  · obtain ⟨x, t, rfl⟩ := k3 v hv
    exact Looks.of_pure rfl
  show (kas_sort refs.length).kasWp (kas_ask prog w A.in1.in1 (tuples' true) refs) _ _
  rw [hl]
  obtain ⟨p, hp, hp1, hp2⟩ := sort_facts hf hk
  refine kas_ev (fun i j C ho hC => ?_) _ p hp ?_
  · simp only [Bool.and_eq_true, decide_eq_true_eq] at ho
    obtain ⟨⟨hi, hj⟩, hij⟩ := ho
    have i8 : i < refs.length := by omega
    have j8 : j < refs.length := by omega
    obtain ⟨a, t3, ha, hm⟩ := hS.get i i8
    obtain ⟨b, u3, hb, hm2⟩ := hS.get j j8
    have e1 : ((List.range 8).map (trip f k)).getD i (false, false, false) = trip f k i := by simp [List.getD, List.getElem?_map, List.getElem?_range hi]
    have e2 : ((List.range 8).map (trip f k)).getD j (false, false, false) = trip f k j := by simp [List.getD, List.getElem?_map, List.getElem?_range hj]
    rw [e1] at hm
    rw [e2] at hm2
    have z1 := tok_nz hK (i := i) (by rw [hS.len2]; omega)
    have z2 := tok_nz hK (i := j) (by rw [hS.len2]; omega)
    have z3 := tok_apart hK (i := i) (j := j) (by rw [hS.len2]; omega) (by rw [hS.len2]; omega) hij
    unfold kas_ask
    rw [ha, hb]
    exact tup_lt X' e (hN _ hm) (hN _ hm2) (nz_or z1.1 z2.1) (nz_or z1.2 z2.2) z3.1 z3.2 hC
  · refine KasFin.intro (g := fun o => (D, o) :: (sA, W.listOf refs.toArray cap) :: tups) F' N' (UpdF.head fun p hp => Nat.ne_of_lt (hlt p hp)) fun h2 c F2 N2 => h D _ c h2 (hp1 ▸ sort_are hS hK hl p.toList hp2) F2 N2 hlt
end
section
noncomputable def tup3 (x y : UInt64) (z : Int) (t1 t2 t3 : Tok) : Obj := { cls := .type "tuple", data := .seq #[.float x t1, .float y t2, .int z t3] }
/-- colours in a list: level, share, sixths -/
inductive ColAre (l : List (Addr × Obj)) : List Value → List (UInt64 × UInt64 × Int) → Prop
  | nil : ColAre l [] []
  | cons {a : Addr} {x y : UInt64} {z : Int} {t1 t2 : Nat} {t3 : Tok} {vs : List Value} {cs : List (UInt64 × UInt64 × Int)} : (a, tup3 x y z t1 t2 t3) ∈ l → 0 < t1 → 0 < t2 → ColAre l vs cs → ColAre l (.ref a :: vs) ((x, y, z) :: cs)
theorem ColAre.length {l : List (Addr × Obj)} {vs : List Value} {cs : List (UInt64 × UInt64 × Int)} (h : ColAre l vs cs) : vs.length = cs.length := by
  induction h with
  | nil => rfl
  | cons _ _ _ _ ih => simp [ih]
theorem ColAre.mono {l l' : List (Addr × Obj)} {vs : List Value} {cs : List (UInt64 × UInt64 × Int)} (h : ColAre l vs cs) (hs : ∀ p ∈ l, p ∈ l') : ColAre l' vs cs := by
  induction h with
  | nil => exact .nil
  | cons hm h1 h2 _ ih => exact .cons (hs _ hm) h1 h2 ih
theorem ColAre.snoc {l : List (Addr × Obj)} {vs : List Value} {cs : List (UInt64 × UInt64 × Int)} {a : Addr} {x y : UInt64} {z : Int} {t1 t2 : Nat} {t3 : Tok} (h : ColAre l vs cs) (hm : (a, tup3 x y z t1 t2 t3) ∈ l) (h1 : 0 < t1) (h2 : 0 < t2) : ColAre l (vs ++ [.ref a]) (cs ++ [(x, y, z)]) := by
  induction h with
  | nil => exact .cons hm h1 h2 .nil
  | cons hm' h1' h2' _ ih => exact .cons hm' h1' h2' ih
theorem ColAre.append {l : List (Addr × Obj)} {vs ws : List Value} {cs ds : List (UInt64 × UInt64 × Int)} (h : ColAre l vs cs) (h' : ColAre l ws ds) : ColAre l (vs ++ ws) (cs ++ ds) := by
  induction h with
  | nil => exact h'
  | cons hm h1 h2 _ ih => exact .cons hm h1 h2 ih
theorem SortAre.cols {l : List (Addr × Obj)} {vs : List Value} {bs : List (Bool × Bool × Bool)} (h : SortAre l vs bs) : ColAre l vs (bs.map fun b => (lvl b, shr b, sxt b)) := by
  induction h with
  | nil => exact .nil
  | cons hm h1 h2 _ ih => exact .cons hm h1 h2 ih
noncomputable def sameCol : List (UInt64 × UInt64 × Int) → List (UInt64 × UInt64 × Int) → Bool
  | [], [] => true
  | (x, y, z) :: r, (x', y', z') :: r' => (Float64.cmp x x' == some .eq) && (Float64.cmp y y' == some .eq) && (z == z') && sameCol r r'
  | _, _ => false
noncomputable def hues6 (n : Nat) : List (UInt64 × UInt64 × Int) := (List.range n).map fun (j : Nat) => (4607182418800017408, 4607182418800017408, (j : Int))
theorem hues_snoc (n : Nat) : hues6 (n + 1) = hues6 n ++ [(4607182418800017408, 4607182418800017408, (n : Int))] := by
  unfold hues6; rw [List.range_succ, List.map_append, List.map_singleton]
theorem cols_same : sameCol (order8.map fun b => (lvl b, shr b, sxt b)) ([(0, 0, 0), (4607182418800017408, 0, 0)] ++ hues6 6) = true := by decide +kernel
section
variable {prog : Program} {w : World} {A : Around} {E : Value → Shared → Prop} {s : Shared} {K : Frag}
theorem tup3_eq {a c : Addr} {x y x' y' : UInt64} {z z' : Int} {t1 t2 t3 u1 u2 u3 : Tok} (X : K.In s.heap) (e : nsIn K cStatics sharingNotToldKey = some none) (ha : s.heap.get? a = some (tup3 x y z t1 t2 t3)) (hc : s.heap.get? c = some (tup3 x' y' z' u1 u2 u3))
    (z1 : (t1 == 0 || u1 == 0) = false) (z2 : (t2 == 0 || u2 == 0) = false) (h1 : (Float64.cmp x x' == some .eq) = true) (h2 : (Float64.cmp y y' == some .eq) = true) (h3 : (z == z') = true) (hu : A.units < cLine) : SeqAt.EqAt A s (.ref a) (.ref c) true := by
  by_cases hac : a = c
  · subst hac; exact SeqAt.EqAt.same _
  · have r := SeqAt.RcAt.tuples (A := A) (e := fun _ => true) (show s.heap.IsTuple a #[.float x t1, .float y t2, .int z t3] from ⟨_, ha, rfl, 0, rfl⟩) (show s.heap.IsTuple c #[.float x' u1, .float y' u2, .int z' u3] from ⟨_, hc, rfl, 0, rfl⟩) hu (fun j j1 j2 => by
      match j, j1 with
      | 0, _ => have := eqAt_float (A := A.in1) X e z1 (fun _ => h1) (fun _ => h1); rw [h1] at this; exact this
      | 1, _ => have := eqAt_float (A := A.in1) X e z2 (fun _ => h2) (fun _ => h2); rw [h2] at this; exact this
      | 2, _ => have := SeqAt.EqAt.int_int (A := A.in1) (s := s) z t3 z' u3; rw [h3] at this; exact this
      | j + 3, q => exact absurd q (by simp))
    exact SeqAt.EqAt.of_refs hac r
theorem cols_eqAt {l l' : List (Addr × Obj)} (X : K.In s.heap) (e : nsIn K cStatics sharingNotToldKey = some none) (hN : ∀ p ∈ l, s.heap.get? p.1 = some p.2) (hN' : ∀ p ∈ l', s.heap.get? p.1 = some p.2) (hu : A.units < cLine) :
    ∀ (xs ys : List Value) (cs ds : List (UInt64 × UInt64 × Int)), ColAre l xs cs → ColAre l' ys ds → sameCol cs ds = true → xs.length = ys.length ∧ ∀ j (h1 : j < xs.length) (h2 : j < ys.length), SeqAt.EqAt A s xs[j] ys[j] true
  | _, _, _, _, .nil, .nil, _ => ⟨rfl, fun _ h _ => absurd h (Nat.not_lt_zero _)⟩
  | _, _, _, _, .nil, .cons _ _ _ _, h => nomatch h
  | _, _, _, _, .cons _ _ _ _, .nil, h => nomatch h
  | _, _, _, _, .cons hm a1 a2 r, .cons hm' b1 b2 r', h => by
    simp only [sameCol, Bool.and_eq_true] at h
    obtain ⟨⟨⟨h1, h2⟩, h3⟩, h4⟩ := h
    obtain ⟨k1, k2⟩ := cols_eqAt X e hN hN' hu _ _ _ _ r r' h4
    refine ⟨by simp [k1], fun j j1 j2 => ?_⟩
    cases j with
    | zero => exact tup3_eq X e (hN _ hm) (hN' _ hm') (nz_or a1 b1) (nz_or a2 b2) h1 h2 h3 hu
    | succ j => exact k2 j (by simpa using j1) (by simpa using j2)
theorem cols_eq {l l' : List (Addr × Obj)} {D R : Addr} {xs ys : List Value} {cs ds : List (UInt64 × UInt64 × Int)} {Q : Value → Shared → Prop} (X : K.In s.heap) (e : nsIn K cStatics sharingNotToldKey = some none) (hN : ∀ p ∈ l, s.heap.get? p.1 = some p.2) (hN' : ∀ p ∈ l', s.heap.get? p.1 = some p.2)
    (hD : s.heap.IsList D xs.toArray) (hR : s.heap.IsList R ys.toArray) (hc : ColAre l xs cs) (hd : ColAre l' ys ds) (hs : sameCol cs ds = true) (hu : A.units < cLine) (hu1 : A.in1.units < cLine) (h : Q (.bool true) s) :
    wpAny (model prog w) A (compareOp .Eq (.ref D) (.ref R)) Q E s := by
  obtain ⟨k1, k2⟩ := cols_eqAt (A := A.in1) X e hN hN' hu1 xs ys cs ds hc hd hs
  refine SeqAt.eq_listAt (e := fun _ => true) hD hR (by simpa using k1) hu (fun j j1 j2 => k2 j (by simpa using j1) (by simpa using j2)) ?_
  have e1 : (List.range xs.toArray.size).all (fun _ => true) = true := by simp
  rw [e1]; exact h
end
end
section
theorem tab_start {sA dA : Nat} {o1 o2 : Obj} {x y : Obj} (hx : x = tabObj #[]) (hy : y = tabObj #[]) (h1 : sA ≠ 62) (h2 : sA ≠ 69) (h3 : dA ≠ 62) (h4 : dA ≠ 69) : TabW [(69, y), (62, x)] [(sA, o1), (dA, o2)] := by
  subst hx hy
  refine ⟨[(62, tabObj #[])], [(69, tabObj #[])], .inl rfl, .inl rfl, ?_, ?_, ?_, ?_, ?_⟩
  · simp [Ap]
  · simp [Ap]; exact ⟨fun e => h1 e.symm, fun e => h3 e.symm⟩
  · simp [Ap]; exact ⟨fun e => h2 e.symm, fun e => h4 e.symm⟩
  · simp
  · simp
theorem TabSt.grown {P : Addr} {ln : Nat} {qual : Str} {l : List (Addr × Obj)} (h : TabSt P ln qual l) : ∃ ps, (P, tabObj ps) ∈ l := by
  rcases h with rfl | ⟨c, oc, vs, t, rfl, _⟩
  · exact ⟨_, .head _⟩
  · exact ⟨_, .head _⟩
theorem TabW.grown {T keep : List (Addr × Obj)} (h : TabW T keep) : (∃ ps, (62, tabObj ps) ∈ T) ∧ ∃ ps, (69, tabObj ps) ∈ T := by
  obtain ⟨l1, l2, h1, h2, _, _, _, h6, h7⟩ := h
  obtain ⟨p1, q1⟩ := h1.grown
  obtain ⟨p2, q2⟩ := h2.grown
  exact ⟨⟨p1, h6 _ q1⟩, ⟨p2, h7 _ q2⟩⟩
theorem law2_loop {w : World} {p : Program} {loose : List Str} {mean : ExcName → Option Value} {mg mb : Str → Option Value} (cd : Value) (fa : Addr) (h₀ : Heap) (L : Addr) (m₀ : Str → Option Value) (s : Shared) (Q : Flow → Shared → Prop) (E : Value → Shared → Prop) (f k : Int) (tf tm : Tok) (dA sA : Addr) (dvs : List Value) (ds : List Int) (r : Addr) (t₀ u₀ v₀ : Tok) (px : Pos) (rest : List (Addr × Obj))
    (B : Below callerA h₀ [] h₀) (X : (hd.heap_39 w.params).In h₀) (T : Top p loose mean mg mb h₀) (C1 : CodeHd h₀ 66 62) (C2 : CodeHd h₀ 73 69)
    (F : Fr h₀ L s.heap m₀) (N : News h₀ L s.heap rest) (n1 : (sA, W.listOf #[] 0) ∈ rest) (n2 : (dA, LCg.lst dvs) ∈ rest) (n3 : (62, tabObj #[]) ∈ rest) (n4 : (69, tabObj #[]) ∈ rest)
    (hf : f = 1 ∨ f = 3 ∨ f = 5) (hk : k = 0 ∨ k = 1 ∨ k = 2 ∨ k = 3) (hI : IntsAre dvs ds) (hds : ds.length = 10) (hds2 : ¬ @Eq Nat dA sA) (g1 : ¬ @Eq Nat sA 62) (g2 : ¬ @Eq Nat sA 69) (g3 : ¬ @Eq Nat dA 62) (g4 : ¬ @Eq Nat dA 69)
    (hE : PassesOwn (model Challenge.rw_rl0055_02.row.prog w) (callerA.deeper (envOfC (Str.ofString "law") (lawOf Challenge.pw_rl0055_02).2 L fa cd)) (envOfC (Str.ofString "law") (lawOf Challenge.pw_rl0055_02).2 L fa cd) E)
    (hr : IsRange s.heap r 0 8 1 t₀ u₀ v₀) (k1 : m₀ (Str.ofString "factor") = some (.int f tf)) (k2 : m₀ (Str.ofString "more") = some (.int k tm)) (k3 : m₀ (Str.ofString "drawn") = some (.ref dA)) (k4 : m₀ (Str.ofString "seen") = some (.ref sA))
    (done : ∀ (refs : List Value) (cap : Nat) (tups : List (Addr × Obj)) (ts : List (Nat × Nat)) (u : Str → Option Value) (h : Heap) (tk : Nat), SeenAre tups refs ((List.range 8).map (trip f k)) ts → TokSep tk ts.reverse → (∃ ps, (62, tabObj ps) ∈ tups) → (∃ ps, (69, tabObj ps) ∈ tups) → Fr h₀ L h (kstB (fun z => if LawNames.contains z then u z else m₀ z) (LawPs f k tf tm dA sA)) → News h₀ L h ((sA, W.listOf refs.toArray cap) :: tups) → Q .next { s with heap := h, toks := tk }) :
    wpAny (model Challenge.rw_rl0055_02.row.prog w) (callerA.deeper (envOfC (Str.ofString "law") (lawOf Challenge.pw_rl0055_02).2 L fa cd)) (pyIter (.ref r)) (fun it s₂ => LoopT Challenge.rw_rl0055_02.row.prog w (callerA.deeper (envOfC (Str.ofString "law") (lawOf Challenge.pw_rl0055_02).2 L fa cd)) (envOfC (Str.ofString "law") (lawOf Challenge.pw_rl0055_02).2 L fa cd) (Str.ofString "k") px (forIn (lawOf Challenge.pw_rl0055_02).1) Q E it s₂) E s := by
  refine krange (σ := LawSt) 8 (fun c => (sA, W.listOf c.refs.toArray c.cap) :: (dA, LCg.lst dvs) :: (c.tups ++ c.T)) (fun _ => LawPs f k tf tm dA sA) LawNames (LawP f k dA sA dvs) ⟨[], 0, [], [(69, tabObj #[]), (62, tabObj #[])], []⟩
    (by rfl) (by rfl) hE rfl hr (by decide) (by decide) F (news_sub N (sub_cons n1 (sub_cons n2 (sub_cons n4 (sub_cons n3 fun _ h => nomatch h)))))
    (List.forall_mem_cons.mpr ⟨k1, List.forall_mem_cons.mpr ⟨k2, List.forall_mem_cons.mpr ⟨k3, List.forall_mem_cons.mpr ⟨k4, fun _ h => nomatch h⟩⟩⟩⟩)
    ⟨.nil, tab_start rfl rfl g1 g2 g3 g4, fun _ h => (nomatch h), List.forall_mem_cons.mpr ⟨fun e => g2 e.symm, List.forall_mem_cons.mpr ⟨fun e => g1 e.symm, fun _ h => nomatch h⟩⟩, trivial⟩
    (fun i tk tk' c hle h => ⟨h.1, h.2.1, h.2.2.1, h.2.2.2.1, h.2.2.2.2.mono hle⟩) ?_ ?_
  · rintro I i ⟨refs, cap, tups, T₀, ts⟩ u it t h tk hi ho hP F N
    refine wpAny_mono (law2_turn cd fa h₀ L m₀ s Q f k tf tm dA sA dvs ds B X T C1 C2 hf hk hI hds hds2 I i refs cap tups T₀ ts u it t h tk hi (fun e => ho _ (.head _) e) (fun e => ho _ (.tail _ (.head _)) e) (fun p hp => ho p (.tail _ (.tail _ (List.mem_append_left _ hp)))) (fun p hp => ho p (.tail _ (.tail _ (List.mem_append_right _ hp)))) hP F N) (fun _ _ q => q) fun _ _ q => q.elim
  · rintro ⟨refs, cap, tups, T₀, ts⟩ u h tk hP F N
    obtain ⟨h1, h2, _, _, h5⟩ := hP
    obtain ⟨⟨p1, q1⟩, ⟨p2, q2⟩⟩ := h2.grown
    exact done refs cap (tups ++ T₀) ts u h tk (h1.mono sub_left) h5 ⟨p1, List.mem_append_right _ q1⟩ ⟨p2, List.mem_append_right _ q2⟩ F (news_sub N (sub_cons (.head _) fun p hp => .tail _ (.tail _ hp)))
end
section
theorem parse_lit {w : World} {p : Program} {loose : List Str} {mean : ExcName → Option Value} {mg mb : Str → Option Value} (dp un : Nat) (gd : Option (List Code)) (cn : Str) (cs : Scope) (a : Addr) (ccd : Value) (cl : List (Str × Addr)) (outer : List Env) (A₀ : Around) (base h₀ : Heap) (L : Addr) (m : Str → Option Value) (s : Shared) (Q E : Value → Shared → Prop) (nw : List (Addr × Obj)) (x : Str) (tx : Tok) (B : Below A₀ base outer h₀) (F : Fr h₀ L s.heap m) (X : (hd.heap_39 w.params).In h₀) (N : News h₀ L s.heap nw) (T : Top p loose mean mg mb h₀) (hk : cs.kind = .function)
    (hx : x.length ≤ 1000000) (hx5 : 5 ≤ x.length) (hx1 : (Txt.slice x none (some 3) != Str.ofString "257") = false) (hx2 : (Txt.slice x (some 3) (some 5) != Str.ofString " \"") = false) (hq : (⟨(pq (x.cps.toList.drop 5)).toArray⟩ : Str) = Str.ofString "x")
    (hdp : dp + 1 < recursionLimit) (hun : un + 8 < cLine)
    (ret : ∀ (t1 : Tok) (h' : Heap) (tk' : Nat), Fr h₀ L h' m → News h₀ L h' nw → Q (.str (Str.ofString "x") t1) { s with heap := h', toks := tk' }) :
    wpAny (model Challenge.rw_rl0055_02.row.prog w) (ktrTop dp un gd cn cs L a ccd cl outer) (call (.ref 46) [.str x tx]) Q E s := by
  rw [← hq] at ret
  exact parse_call dp un gd cn cs a ccd cl outer A₀ base h₀ L m s Q E nw x tx B F X N T hk hx hx5 hx1 hx2 hdp hun ret
end
section
theorem col_turn {h₀ : Heap} {L I C D a : Addr} {m : Str → Option Value} {s₁ : Shared} {oI oC oD : Obj} {ys : List Value} {nw base : List (Addr × Obj)} {i tk tk' : Nat} {t1 t2 : Nat} {t3 : Tok} {h' : Heap} (hP : 0 < tk ∧ ColAre nw ys (hues6 i) ∧ ∀ p ∈ base, p ∈ nw) (off : LCg.Off3 I C D nw)
    (F : Fr h₀ L h' m) (N : News h₀ L h' ((a, tup3 4607182418800017408 4607182418800017408 (i : Int) t1 t2 t3) :: (I, oI) :: (C, oC) :: (D, oD) :: nw)) (ha : @LT.lt Nat _ I a ∧ @LT.lt Nat _ C a ∧ @LT.lt Nat _ D a) (h0 : 0 < tk') (h1 : 0 < t1) (h2 : 0 < t2) :
    CrEnd h₀ L m s₁ I oI C oC D oD (fun tk' y nw' => 0 < tk' ∧ ColAre nw' (ys ++ [y]) (hues6 (i + 1)) ∧ ∀ p ∈ base, p ∈ nw') (.ref a) { s₁ with heap := h', toks := tk' } :=
  ⟨h', tk', (a, tup3 4607182418800017408 4607182418800017408 (i : Int) t1 t2 t3) :: nw, rfl, F, news_sub N (sub_cons (.tail _ (.head _)) (sub_cons (.tail _ (.tail _ (.head _))) (sub_cons (.tail _ (.tail _ (.tail _ (.head _)))) (sub_cons (.head _) fun p hp => .tail _ (.tail _ (.tail _ (.tail _ hp))))))),
    ⟨⟨Nat.ne_of_gt ha.1, Nat.ne_of_gt ha.2.1, Nat.ne_of_gt ha.2.2⟩, off⟩, h0, by rw [hues_snoc]; exact (hP.2.1.mono fun p hp => .tail _ hp).snoc (.head _) h1 h2, fun p hp => .tail _ (hP.2.2 p hp)⟩
theorem tok_pos {tk : Nat} {ts : List (Nat × Nat)} (h : TokSep tk ts.reverse) (hne : ts ≠ []) : 0 < tk := by
  match hts : ts.reverse, h with
  | [], _ => exact absurd (List.reverse_eq_nil_iff.mp hts) hne
  | p :: r, h => have := (TokSep.below h p (.head _)).1; omega
noncomputable def tailOf : List Stmt → List Stmt
  | [] => []
  | .For _ _ _ _ _ :: r => r
  | _ :: r => tailOf r
theorem law2_tail {w : World} {p : Program} {loose : List Str} {mean : ExcName → Option Value} {mg mb : Str → Option Value} (cd : Value) (fa : Addr) (h₀ : Heap) (L : Addr) (m₀ u : Str → Option Value) (s : Shared) (Q : Flow → Shared → Prop) (E : Value → Shared → Prop) (f k : Int) (tf tm : Tok) (dA sA : Addr)
    (B : Below callerA h₀ [] h₀) (X : (hd.heap_39 w.params).In h₀) (T : Top p loose mean mg mb h₀) (hf : f = 1 ∨ f = 3 ∨ f = 5) (hk : k = 0 ∨ k = 1 ∨ k = 2 ∨ k = 3)
    (refs : List Value) (cap : Nat) (tups : List (Addr × Obj)) (ts : List (Nat × Nat)) (h : Heap) (tk : Nat) (hS : SeenAre tups refs ((List.range 8).map (trip f k)) ts) (hK : TokSep tk ts.reverse) (g1 : ∃ ps, (62, tabObj ps) ∈ tups) (g2 : ∃ ps, (69, tabObj ps) ∈ tups) (F : Fr h₀ L h (kstB (fun z => if LawNames.contains z then u z else m₀ z) (LawPs f k tf tm dA sA))) (N : News h₀ L h ((sA, W.listOf refs.toArray cap) :: tups))
    (ret : ∀ (h' : Heap) (tk' : Nat), ∀ m', Fr h₀ L h' m' → GrownAt 62 h' → GrownAt 69 h' → Q (.ret (.bool true)) { s with heap := h', toks := tk' }) :
    wpAny (model Challenge.rw_rl0055_02.row.prog w) (callerA.deeper (envOfC (Str.ofString "law") (lawOf Challenge.pw_rl0055_02).2 L fa cd)) (execs (tailOf (lawOf Challenge.pw_rl0055_02).1) (envOfC (Str.ofString "law") (lawOf Challenge.pw_rl0055_02).2 L fa cd)) Q E { s with heap := h, toks := tk } := by
  k_with_none
  k_with "m all" => first | (refine List.forall_mem_cons.mpr ⟨?ka1, ?ka2⟩; (case ka1 => exact neN (by omega)); (case ka2 => k_all)) | exact restLt_ne (by assumption) (by omega) | exact (by assumption : RestOff _ _) | exact restLt_ne (rest_of_allLt (by assumption)) (by omega) | exact restLt_ne (rest_of_allLt (And.right (by assumption))) (by omega) | exact restLt_ne (rest_of_allLt (And.right (And.right (by assumption)))) (by omega)
  k_with "m UnrEnd" => (refine unr_cons (by assumption) (by assumption) (by k_all) ?_)
  k_with "m compareOp Eq ref ref" => (k_here; refine Still.out ?_)
  k_with "m call builtin:sorted" => (k_here; (with_reducible show wpAny _ _ (call (Value.builtin "sorted") [Value.ref _]) _ _ _); k_dflt (refine' seen_sorted ?F ?N ?X ?e ?S ?K ?f ?k ?_; (case F => k_asm); (case N => k_asm); (case X => k_asm); (case S => assumption); (case K => assumption); (case f => assumption); (case k => assumption); (case e => exact rfl)); intro D' out' c' h' hO' F' N' R1'; (k_dflt (k_lt R1')); (try k_sweep))
  k_with "m eval ListComp" => (k_here; k_dflt (refine ListComp_cr (by k_asm) (by with_unfolding_all rfl) (by decide) (by rfl) (by decide) (by rfl) ?_))
  k_with "m execs cons" => (k_here; (fail_if_success (fail_if_success k_gentoks)); refine gen_tok ?_; intro tk' htk')
  k_with "m execs nil" => (k_here; (fail_if_success (fail_if_success k_gentoks)); refine gen_tok ?_; intro tk' htk')
  k_with "m binaryOp Add ref ref" => (k_here; refine Still.out ?_)
  w_top off
  revert X; k_fill; intro X
  have hpos : 0 < tk := tok_pos hK (fun e => by have h1 := hS.len2; have h2 := hS.length; rw [e] at h1; simp at h1 h2; omega)
  dsimp only [kstB] at F
  conv in (execs (tailOf _) _) => arg 1; whnf
  conv in (lawOf _).2 => whnf
  conv in (lawOf _).2 => whnf
  k_steps
  refine ⟨6, fun i tk ys nw => 0 < tk ∧ ColAre nw ys (hues6 i) ∧ ∀ p ∈ _, p ∈ nw, _, _, _, _, _, _, rfl, rfl, by assumption, by assumption, by assumption, by decide, by decide, by decide, ⟨?_, .nil, fun _ h => h⟩, (fun i tk tk' ys nw hle h => ⟨Nat.lt_of_lt_of_le h.1 hle, h.2⟩), ?turn, ?cdone⟩
  · dsimp only [TokLe] at *; omega
  case turn =>
    intro I C D oI oC i t m₂ ys nw h tk hi hP hoC hmx F N off ne
    have hp0 := hP.1
    k_steps
    exact col_turn hP off (by assumption) (by assumption) ⟨by omega, by omega, by omega⟩ (by dsimp only; omega) (by omega) (by omega)
  case cdone =>
    intro D ys nw h2 tk2 hP F N hoff
    obtain ⟨h0, hC, hb⟩ := hP
    have hlen : ys.length = 6 := hC.length
    have N2 := news_sub N (sub_cons (.head _) (sub_cons (.tail _ (hb _ (.head _))) (sub_cons (.tail _ (hb _ (.tail _ (.tail _ (.tail _ (.head _)))))) (sub_tail sub_refl))))
    have hR1 : ColAre nw _ [(0, 0, 0), (4607182418800017408, 0, 0)] := .cons (t1 := tk) (t2 := tk + 1) (t3 := tk + 1 + 1) (hb _ (.tail _ (.tail _ (.head _)))) (by omega) (by omega) (.cons (t1 := tk + 1 + 1 + 1) (t2 := tk + 1 + 1 + 1 + 1) (t3 := tk + 1 + 1 + 1 + 1 + 1) (hb _ (.tail _ (.head _))) (by omega) (by omega) .nil)
    have hR2 := hR1.append hC
    rename SortAre _ _ _ => hO
    have hL := hO.cols.mono (l' := nw) fun p hp => hb p (.tail _ (.tail _ (.tail _ (.tail _ (.tail _ hp)))))
    k_steps
    refine Still.put ?_
    refine kmk_add_lit (by assumption) N2 ⟨_, (N2 _ (.tail _ (.head _))).1, rfl, 0, rfl⟩ ⟨_, (N2 _ (.head _)).1, rfl, _, rfl⟩ rfl (fun R h3 F3 N3 hlt => ?_) ?hz
    case hz => simp [hlen, sizeLine_eq]
    k_steps
    refine Still.put ?_
    refine cols_eq (l := nw) (l' := nw) (X.keeps F3.keep) rfl (fun p hp => (N3 p (.tail _ (.tail _ (.tail _ (.tail _ hp))))).1) (fun p hp => (N3 p (.tail _ (.tail _ (.tail _ (.tail _ hp))))).1) ⟨_, (N3 _ (.tail _ (.tail _ (.tail _ (.head _))))).1, rfl, _, rfl⟩ ⟨_, (N3 _ (.head _)).1, rfl, 0, rfl⟩ hL hR2 cols_same ?u1 ?u2 ?_
    case u1 => ktr_units
    case u2 => ktr_units
    k_steps
    have hbt : ∀ p ∈ tups, p ∈ nw := fun p hp => hb p (.tail _ (.tail _ (.tail _ (.tail _ (.tail _ hp)))))
    exact ret _ _ _ (by assumption) (g1.elim fun ps q => ⟨ps, (N3 _ (.tail _ (.tail _ (.tail _ (.tail _ (hbt _ q)))))).1⟩) (g2.elim fun ps q => ⟨ps, (N3 _ (.tail _ (.tail _ (.tail _ (.tail _ (hbt _ q)))))).1⟩)
end
section
theorem fmod4 (x : Int) : x.fmod 4 = 0 ∨ x.fmod 4 = 1 ∨ x.fmod 4 = 2 ∨ x.fmod 4 = 3 := by
  rw [Int.fmod_eq_emod_of_nonneg _ (by decide)]; omega
theorem fmod3s (x : Int) : 2 * x.fmod 3 + 1 = 1 ∨ 2 * x.fmod 3 + 1 = 3 ∨ 2 * x.fmod 3 + 1 = 5 := by
  rw [Int.fmod_eq_emod_of_nonneg _ (by decide)]; omega
theorem law_main : PySem.Challenge.rw_rl0055_02.Holds := hd (by
  k_with_none
  k_with "m all" => first | (refine List.forall_mem_cons.mpr ⟨?ka1, ?ka2⟩; (case ka1 => exact neN (by omega)); (case ka2 => k_all)) | exact restLt_ne (by assumption) (by omega) | exact (by assumption : RestOff _ _) | exact restLt_ne (rest_of_allLt (by assumption)) (by omega) | exact restLt_ne (rest_of_allLt (And.right (by assumption))) (by omega) | exact restLt_ne (rest_of_allLt (And.right (And.right (by assumption)))) (by omega)
  k_with "m UnrEnd" => (refine unr_cons (by assumption) (by assumption) (by k_all) ?_)
  k_with "m call builtin:sum" => (k_here; (with_reducible show wpAny _ _ (call (Value.builtin "sum") [Value.ref _]) _ _ _); k_dflt (refine' sum_pick ?k0 ?k1 ?k2 ?k3 ?k4 ?_; (case k0 => with_unfolding_all rfl); (case k1 => k_asm); (case k2 => k_asm); (case k3 => first | exact .head _ | k_mem); (case k4 => assumption)); intro h' tk' t' F' N')
  k_with "m call ref" => (k_here; (with_reducible show wpAny _ _ (call (Value.ref 102) _) _ _ _); k_dflt (refine' refused_call _ _ _ _ _ _ _ _ _ _ _ _ _ _ _ _ _ ?b1 ?b2 ?b3 ?b4 ?b5 ?b6 ?d5 ?d6 (fun h' tk' F' N' => ?_)); (case b1 => k_asm); (case b2 => k_asm); (case b3 => k_asm); (case b4 => k_asm); (case b5 => k_asm); (case b6 => rfl); (case d5 => ktr_room); (case d6 => ktr_units); (try dsimp only); (try k_sweep))
  k_with "m call ref" => (k_here; (with_reducible show wpAny _ _ (call (Value.ref 46) [Value.str (Str.ofString "257 \"x\"") _]) _ _ _); k_dflt (refine' parse_lit _ _ _ _ _ _ _ _ _ _ _ _ _ _ _ _ _ _ _ _ ?b1 ?b2 ?b3 ?b4 ?b5 ?b6 ?c1 ?c2 ?c3 ?c4 ?c5 ?d5 ?d6 (fun t' h' tk' F' N' => ?_)); (case b1 => k_asm); (case b2 => k_asm); (case b3 => k_asm); (case b4 => k_asm); (case b5 => k_asm); (case b6 => rfl); (case c1 => decide +kernel); (case c2 => decide +kernel); (case c3 => decide +kernel); (case c4 => decide +kernel); (case c5 => decide +kernel); (case d5 => ktr_room); (case d6 => ktr_units); (try dsimp only); (try k_sweep))
  k_with "m call ref" => (k_here; (with_reducible show wpAny _ _ (call (Value.ref 46) [Value.str (Str.ofString "257 \"x") _]) _ _ _); k_dflt (refine' parse_lit _ _ _ _ _ _ _ _ _ _ _ _ _ _ _ _ _ _ _ _ ?b1 ?b2 ?b3 ?b4 ?b5 ?b6 ?c1 ?c2 ?c3 ?c4 ?c5 ?d5 ?d6 (fun t' h' tk' F' N' => ?_)); (case b1 => k_asm); (case b2 => k_asm); (case b3 => k_asm); (case b4 => k_asm); (case b5 => k_asm); (case b6 => rfl); (case c1 => decide +kernel); (case c2 => decide +kernel); (case c3 => decide +kernel); (case c4 => decide +kernel); (case c5 => decide +kernel); (case d5 => ktr_room); (case d6 => ktr_units); (try dsimp only); (try k_sweep))
  k_with "m exec For Name Call cons nil" => (k_here; k_dflt (refine For_T ?_))
  k_with "m pyIter ref" => (k_here; (with_reducible show wpAny _ _ (pyIter (Value.ref _)) (fun it s₂ => LoopT _ _ _ _ _ _ _ _ _ it s₂) _ _); refine Still.out ?_)
  k_with "m call builtin:sorted" => (k_here; refine Still.out ?_)
  w_top off
  k_go0
  all_goals try k_fold
  k_steps
  refine Still.put ?_
  refine' law2_loop _ _ _ _ _ _ _ _ _ _ _ _ _ _ _ _ _ _ _ _ _ _ ?B ?X ?T ?C1 ?C2 ?F ?N ?n1 ?n2 ?n3 ?n4 ?hf ?hk ?hI ?hds ?hds2 ?g1 ?g2 ?g3 ?g4 ?hE ?hr ?k1 ?k2 ?k3 ?k4 ?done
  case F => assumption
  case N => assumption
  case B => assumption
  case X => assumption
  case T => assumption
  case C1 => assumption
  case C2 => assumption
  case k1 => exact rfl
  case k2 => exact rfl
  case k3 => exact rfl
  case k4 => exact rfl
  case n1 => repeat (first | exact List.Mem.head _ | apply List.Mem.tail)
  case n2 => repeat (first | exact List.Mem.head _ | apply List.Mem.tail)
  case n3 => repeat (first | exact List.Mem.head _ | apply List.Mem.tail)
  case n4 => repeat (first | exact List.Mem.head _ | apply List.Mem.tail)
  case hf => exact fmod3s _
  case hk => exact fmod4 _
  case hI => assumption
  case hds => rfl
  case hds2 => omega
  case g1 => omega
  case g2 => omega
  case g3 => omega
  case g4 => omega
  case hE => passes_own
  case hr => assumption
  case done =>
    intro refs cap tups ts u h tk hS hK g1 g2 F N
    refine' law2_tail _ _ _ _ _ _ _ _ _ _ _ _ _ _ _ ?B ?X ?T (fmod3s _) (fmod4 _) refs cap tups ts h tk hS hK g1 g2 F N ?ret
    case B => assumption
    case X => assumption
    case T => assumption
    case ret =>
      intro h' tk' m' F' q1 q2
      clear hS hK N F
      refine ⟨?_, q2, q1, trivial⟩
      exact goodW_bool F' (by assumption) (fun _ => rfl) (by with_unfolding_all rfl))
end
end Mine
theorem PySem.Challenge.cw_rl0055_02_holds : PySem.Challenge.rw_rl0055_02.Holds := by
  exact Mine.law_main
