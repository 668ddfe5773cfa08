import PyProof.Rows.All
import Wide.All
import OpenK.AllK
import Wide.FinOn
import PySem.Challenge.RW_pg0199_01
set_option Elab.async false
set_option maxRecDepth 100000
set_option maxHeartbeats 8000000
set_option linter.all false
-- HeadY
section
open PySem PySem.W PyProof.Rows
namespace Mine
noncomputable def viewX : Program := { PySem.Challenge.pw_pg0199_01 with main := { PySem.Challenge.pw_pg0199_01.main with body := (PySem.Challenge.pw_pg0199_01.main.body.drop 1).take 7 ++ ((PySem.Challenge.pw_pg0199_01.main.body.drop 9).take 5 ++ ((PySem.Challenge.pw_pg0199_01.main.body.drop 15).take 2 ++ PySem.Challenge.pw_pg0199_01.main.body.drop 18)) } }
theorem hdOpen (H : Hook) {d : DefRec} {kwd : List (Str × PySem.Expr)} (hdef : defOf viewX (OpenLaw.row PySem.Challenge.rw_pg0199_01).name = some (d, kwd)) (hp : (OpenLaw.row PySem.Challenge.rw_pg0199_01).prog.theDef (OpenLaw.row PySem.Challenge.rw_pg0199_01).name = some (d.params, d.body, d.scope)) (hk : kwWritten? d.params.kwonlyargs d.params.kw_defaults = some kwd)
    (hl : LeftO (OpenLaw.row PySem.Challenge.rw_pg0199_01).prog viewX [] (fun s => xlAt viewX [] s && recOk (RowW.records (OpenRow.toRowW (OpenLaw.row PySem.Challenge.rw_pg0199_01))) s) H.obs H.val 1496) (hw : (OpenLaw.row PySem.Challenge.rw_pg0199_01).toRowW.promised)
    (hc : WalkO viewX [] (XL viewX []) H.says (OpenLaw.row PySem.Challenge.rw_pg0199_01).toRowW d kwd fun f vs => PySem.call f vs) : (OpenLaw.row PySem.Challenge.rw_pg0199_01).Holds :=
  holds_open (q := viewX) (loose := []) (Xt := fun s => xlAt viewX [] s && recOk (RowW.records (OpenRow.toRowW (OpenLaw.row PySem.Challenge.rw_pg0199_01))) s) (XP := XL viewX []) (Yf := H.obs) (Ya := H.val) (YP := H.says) (N := 1496) hl H.of H.keeps (fun s e => xl_of s (Bool.and_eq_true_iff.mp e).1) XL.keeps hdef hp hk (fun s e => recFacts_of (Bool.and_eq_true_iff.mp e).2) (by rfl) (by decide +kernel) (by decide +kernel) ⟨rfl, rfl, rfl, rfl, rfl, by decide +kernel⟩ hw hc
local macro_rules | `(tactic| o_law) => `(tactic| refine holds_law (by decide +kernel) fun said => ?_)
local macro_rules | `(tactic| o_head (kmHook $K $A $P $T)) => `(tactic| (refine hdOpen (kmHook $K $A $P [37, 30, 100]) (by rfl) (by rfl) (by rfl) ?hl ?hw ?hc; (case hl => (intro w; kernel_rfl))))
open_top hdX for PySem.Challenge.rw_pg0199_01
end Mine
end
section
open PySem PySem.W PyProof.Rows PySem.Calls
namespace Mine
local macro_rules | `(tactic| walk_at $s:str) => `(tactic| k_extra $s)
local macro_rules | `(tactic| walk_at "ite") => `(tactic| k_dflt (first
  | (refine Eq.mpr (if_pos ?zqi) ?_; (case zqi => (simp only [beq_iff_eq, bne_iff_ne, ne_eq, decide_eq_true_eq]; omega)))
  | (refine Eq.mpr (if_neg ?zqi) ?_; (case zqi => (simp only [beq_iff_eq, bne_iff_ne, ne_eq, decide_eq_true_eq]; omega)))))
local macro_rules | `(tactic| k_all) => `(tactic| (intro p9 hp9; have h9 := (by assumption : ∀ p ∈ _, @LT.lt Nat _ 37 (Prod.fst p)) p9 hp9; refine neN ?_; (try dsimp only); omega))
local macro_rules | `(tactic| k_all) => `(tactic| (intro p9 hp9; have h9 := (by assumption : ∀ p ∈ _, @LT.lt Nat _ (Prod.fst p) _) p9 hp9; refine neN ?_; (try dsimp only); omega))
local macro_rules | `(tactic| k_all) => `(tactic| assumption)
local macro_rules | `(tactic| k_lt $h:ident) => `(tactic| (replace $h := allLt_of $h; (try simp only [AllLt, and_true] at $h:ident); (repeat (have h8 := And.left $h; replace $h := And.right $h))))
local macro_rules | `(tactic| omega) => `(tactic| first
  | with_reducible (first
    | assumption
    | exact Nat.ne_of_gt (by assumption)
    | exact Nat.ne_of_lt (by assumption)
    | exact Int.natCast_nonneg _
    | exact Nat.succ_ne_self _
    | exact Int.le_of_lt (by assumption))
  | decide +kernel
  | (law_clear; lia)
  | fail)
-- BaseX
section
open PySem PySem.W PyProof.Rows PySem.Calls
/-- the names that the law's top may bind, as the laid tables leave them -/
noncomputable abbrev looseG : List Str := looseW viewX [] ++ (recsOf viewX).map (·.name) ++ (litsOf viewX).map (·.1) ++ (clssOf viewX (looseW viewX [])).map (·.name)
noncomputable abbrev Led := List (Addr × Obj)
noncomputable abbrev PRG : Program := PySem.Challenge.rw_pg0199_01.row.prog
/-- a contract of a def of the top: called with `vs` over the ledger `news` it comes back with `r` over the ledger `news'` -/
noncomputable def Ok (w : World) (f : Addr) (vs : List Value) (dn cu : Nat) (news : Led) (R : Value → Led → Prop) : Prop :=
  ∀ (mean : ExcName → Option Value) (mg mb : Str → Option Value) (dp un : Nat) (gd : Option (List Code)) (cn : Str) (cs : Scope) (a : Addr) (ccd : Value) (cl : List (Str × Addr)) (outer : List Env) (A₀ : Around) (base h₀ : Heap) (L : Addr) (m : Str → Option Value) (s : Shared) (Q E : Value → Shared → Prop),
    Below A₀ base outer h₀ → Fr h₀ L s.heap m → (hdX.heap_1 w.params).In h₀ → News h₀ L s.heap news → Top topProg looseG mean mg mb h₀ → cs.kind = .function → dp + dn < recursionLimit → un + cu < cLine →
    (∀ r news' h' tk', R r news' → Fr h₀ L h' m → News h₀ L h' news' → Q r { s with heap := h', toks := tk' }) →
    wpAny (model PySem.Challenge.rw_pg0199_01.row.prog w) (ktrTop dp un gd cn cs L a ccd cl outer) (call (.ref f) vs) Q E s
theorem Ok.use {w : World} {f : Addr} {vs : List Value} {dn cu : Nat} {news : Led} {R : Value → Led → Prop} (C : Ok w f vs dn cu news R)
    {mean : ExcName → Option Value} {mg mb : Str → Option Value} {dp un : Nat} {gd : Option (List Code)} {cn : Str} {cs : Scope} {a : Addr} {ccd : Value} {cl : List (Str × Addr)} {outer : List Env} {A₀ : Around} {base h₀ : Heap} {L : Addr} {m : Str → Option Value} {s : Shared} {Q E : Value → Shared → Prop}
    (B : Below A₀ base outer h₀) (F : Fr h₀ L s.heap m) (X : (hdX.heap_1 w.params).In h₀) (N : News h₀ L s.heap news) (T : Top topProg looseG mean mg mb h₀) (hk : cs.kind = .function) (hd : dp + dn < recursionLimit) (hu : un + cu < cLine)
    (h : ∀ r news' h' tk', R r news' → Fr h₀ L h' m → News h₀ L h' news' → Q r { s with heap := h', toks := tk' }) :
    wpAny (model PySem.Challenge.rw_pg0199_01.row.prog w) (ktrTop dp un gd cn cs L a ccd cl outer) (call (.ref f) vs) Q E s := C _ _ _ _ _ _ _ _ _ _ _ _ _ _ _ _ _ _ _ _ B F X N T hk hd hu h
theorem zA {a n j k m : Nat} (h : a + n < m) (hk : Nat.ble (j + k) n = true) : a + j + k < m := by
  have := Nat.le_of_ble_eq_true hk
  omega
theorem zB {a n k m : Nat} (h : a + n < m) (hk : Nat.ble k n = true) : a + k < m := by
  have := Nat.le_of_ble_eq_true hk
  omega
theorem gcd_fmod (x y : Int) : Int.gcd y (Int.fmod x y) = Int.gcd x y := by
  have h : Int.fmod x y = x - y * Int.fdiv x y := by have := Int.mul_fdiv_add_fmod x y; omega
  rw [h, Int.gcd_comm x y]
  have := Int.gcd_sub_mul_left_right y x (Int.fdiv x y)
  simpa using this
theorem fmod_lt_abs (x y : Int) (h : y ≠ 0) : (Int.fmod x y).natAbs < y.natAbs := by
  rcases Int.lt_trichotomy y 0 with h1 | h1 | h1
  · have e := Int.neg_fmod_neg x y
    have a := Int.fmod_lt_of_pos (-x) (show 0 < -y by omega)
    have b := Int.fmod_nonneg_of_pos (-x) (show 0 < -y by omega)
    omega
  · exact absurd h1 h
  · have a := Int.fmod_lt_of_pos x h1
    have b := Int.fmod_nonneg_of_pos x h1
    omega
end
-- MeasX
section
open PySem PySem.W PyProof.Rows PySem.Calls
theorem measure_ok : ∀ (w : World) (news : Led) (x y : Int) (tx ty : Tok), Ok w 112 [.int x tx, .int y ty] 1 8 news (fun r n => n = news ∧ ∃ t, r = .int (Int.gcd x y) t) := by
  k_with_none
  unfold Ok
  w_top off
  k_fill
  intro w news x y tx ty mean mg mb dp un gd cn cs a ccd cl outer A₀ base h₀ L m s Q E B F X N T hk hd hu hret
  k_with "exec While Compare cons nil" =>
    k_here
    rename Fr _ _ _ _ => lF'
    rename News _ _ _ _ => lN'
    with_unfolding_all refine' ksw_while (σ := Int × Tok × Int × Tok) (fun _ => news) (fun c => [(Str.ofString "x", .int c.1 c.2.1), (Str.ofString "y", .int c.2.2.1 c.2.2.2)]) (fun _ => True) [] (fun c => Int.gcd c.1 c.2.2.1 = Int.gcd x y) (fun c => c.2.2.1.natAbs) (x, tx, y, ty) lF' lN' trivial ?h1 rfl ?_
    case h1 => exact List.forall_mem_cons.mpr ⟨rfl, List.forall_mem_cons.mpr ⟨rfl, List.forall_mem_nil _⟩⟩
    intro c u h tk hf hp lF lN
    dsimp only [kstB] at lF
  refine wpAny_call ?_
  k_dflt ktr_enter
  k_steps
  · rename News _ _ _ _ => nE'
    refine ksw_end ⟨c.2.2.1, _, Int.fmod c.1 c.2.2.1, _⟩ (by assumption) nE' (by kst_in) trivial (by kst_all) (by ksw_same) ?_ ?_
    · dsimp only
      rw [gcd_fmod]; assumption
    · exact fmod_lt_abs _ _ (by assumption)
  · have hy : c.2.2.1 = 0 := by assumption
    have hp' := hp
    rw [hy, Int.gcd_zero_right] at hp'
    have e : (if c.fst < 0 then -c.fst else c.fst) = (Int.gcd x y : Int) := by rw [← hp']; split <;> omega
    exact hret _ _ _ _ ⟨rfl, _, congrArg (fun i => Value.int i _) e⟩ (by assumption) (by assumption)
end
-- DivA
section
open PySem PySem.W PyProof.Rows PySem.Calls
theorem bits_le {x : Int} (h0 : -(2 ^ 60) < x) (h1 : x < 2 ^ 60) : (Builtin.Int.intBits x : Int) ≤ 60 := by
  unfold Builtin.Int.intBits
  split
  · decide
  · rename_i hx
    have hx' : x.natAbs ≠ 0 := by
      intro e; apply hx; simp only [beq_iff_eq]; omega
    have := (Nat.log2_lt hx' (k := 60)).mpr (by omega)
    omega
theorem lt_new {h₀ h : Heap} {L : Addr} {news : Led} (N : News h₀ L h news) : AllLt h.objs.size news := allLt_of fun p hp => Heap.lt_size (N p hp).1
noncomputable abbrev tup2 (a b : Int) (t1 t2 : Tok) : Obj := { cls := .type "tuple", data := .seq #[.int a t1, .int b t2] }
theorem div2n1n_ok : ∀ (w : World) (news : Led) (x b n : Int) (tx tb tn : Tok), 0 ≤ x → x < 2 ^ 60 → 0 < b → b < 2 ^ 30 → 0 ≤ n → Ok w 21 [.int x tx, .int b tb, .int n tn] 1 8 news (fun r ne => ∃ D t1 t2, r = .ref D ∧ ne = (D, tup2 (Int.fdiv x b) (Int.fmod x b) t1 t2) :: news ∧ AllLt D news) := by
  k_with_none
  unfold Ok
  w_top off
  k_fill
  intro w news x b n tx tb tn hx0 hx1 hb hb1 hn mean mg mb dp un gd cn cs a ccd cl outer A₀ base h₀ L m s Q E B F X N T hk hd hu hret
  have hbl := bits_le (show -(2^60) < x by omega) hx1
  refine wpAny_call ?_
  k_dflt ktr_enter
  k_steps
  exact hret _ _ _ _ ⟨_, _, _, rfl, rfl, lt_new (by assumption)⟩ (by assumption) (by assumption)
end
-- DigP
section
open PySem PySem.W PyProof.Rows
noncomputable def evalD (b : Int) : List Int → Int
  | [] => 0
  | d :: r => d + b * evalD b r
noncomputable def DigSpec (n : Int) (ns ns' : List Int) (lo hi : Nat) (x : Int) : Prop :=
  ∃ ds, ns' = ns.take lo ++ ds ++ ns.drop hi ∧ ds.length = hi - lo ∧ evalD (2 ^ n.toNat) ds = x ∧ ∀ d ∈ ds, 0 ≤ d ∧ d < 2 ^ 60
theorem evalD_append (b : Int) (l r : List Int) : evalD b (l ++ r) = evalD b l + b ^ l.length * evalD b r := by
  induction l with
  | nil => simp [evalD]
  | cons d l ih =>
    simp only [List.cons_append, evalD, ih, List.length_cons, Int.pow_succ, Int.mul_add]
    rw [Int.mul_comm (b ^ l.length) b, Int.mul_assoc, Int.add_assoc]
theorem and_high (n k : Nat) : n &&& (n / 2 ^ k * 2 ^ k) = n / 2 ^ k * 2 ^ k := by
  apply Nat.eq_of_testBit_eq
  intro i
  rw [Nat.testBit_and, Nat.testBit_mul_two_pow, Nat.testBit_div_two_pow]
  by_cases h : k ≤ i
  · have e : i - k + k = i := Nat.sub_add_cancel h
    simp [h, e]
  · simp [h]
theorem low_bits (x : Int) (k : Nat) (h : 0 ≤ x) : Builtin.bitXor x (x.fdiv (2 ^ k) * 2 ^ k) = x.fmod (2 ^ k) := by
  obtain ⟨n, rfl⟩ := Int.eq_ofNat_of_zero_le h
  rw [bitXor_and]
  have e2 : ((2 : Int) ^ k) = ((2 ^ k : Nat) : Int) := by simp
  have e1 : (n : Int).fdiv (2 ^ k) = ((n / 2 ^ k : Nat) : Int) := by rw [e2]; exact Int.ofNat_fdiv n (2 ^ k) |>.symm
  have e3 : (n : Int).fmod (2 ^ k) = ((n % 2 ^ k : Nat) : Int) := by rw [e2]; exact Int.ofNat_fmod n (2 ^ k) |>.symm
  rw [e1, e3, e2]
  have e4 : Builtin.bitAnd (n : Int) (((n / 2 ^ k : Nat) : Int) * ((2 ^ k : Nat) : Int)) = ((n / 2 ^ k * 2 ^ k : Nat) : Int) := by
    rw [← Int.natCast_mul]
    show ((n &&& (n / 2 ^ k * 2 ^ k) : Nat) : Int) = _
    rw [and_high]
  rw [e4, ← Int.natCast_mul]
  have := Nat.div_add_mod n (2 ^ k)
  rw [Nat.mul_comm] at this
  omega
theorem toNat_succ {lo : Int} (h : 0 ≤ lo) : (lo + 1).toNat = lo.toNat + 1 := by
  rw [Int.toNat_add h (by decide)]; rfl
theorem DigSpec.base {n : Int} {ns : List Int} {lo x : Int} (h0 : 0 ≤ lo) (h1 : lo < ns.length) (hx : 0 ≤ x) (hx1 : x < 2 ^ 60) : DigSpec n ns (ns.set lo.toNat x) lo.toNat (lo + 1).toNat x := by
  have e := toNat_succ h0
  refine ⟨[x], ?_, by rw [e, Nat.add_sub_cancel_left]; rfl, by simp [evalD], fun d hd => by rw [List.mem_singleton.mp hd]; exact ⟨hx, hx1⟩⟩
  rw [e, List.set_eq_take_append_cons_drop, if_pos ((Int.toNat_lt h0).mpr h1)]
  simp
theorem len3 {l h k : Nat} (h1 : l ≤ h) (h2 : h ≤ k) : l + (h - l) + (k - h) = k := by
  rw [Nat.add_sub_of_le h1, Nat.add_sub_of_le h2]
theorem DigSpec.len {n : Int} {ns ns' : List Int} {lo hi : Nat} {x : Int} (h : DigSpec n ns ns' lo hi x) (h1 : lo ≤ hi) (h2 : hi ≤ ns.length) : ns'.length = ns.length := by
  obtain ⟨ds, rfl, hl, _⟩ := h
  rw [List.length_append, List.length_append, List.length_take, List.length_drop, hl, Nat.min_eq_left (Nat.le_trans h1 h2), len3 h1 h2]
theorem split3 {l m h : Nat} (a : l ≤ m) (b : m ≤ h) : m - l + (h - m) = h - l := by omega
theorem toNat_mul_sub {n lo mid : Int} (hn : 0 < n) (h0 : 0 ≤ lo) (h1 : lo < mid) : n.toNat * (mid.toNat - lo.toNat) = ((mid - lo) * n).toNat := by
  obtain ⟨j, rfl⟩ := Int.eq_ofNat_of_zero_le (Int.le_of_lt hn)
  obtain ⟨l, rfl⟩ := Int.eq_ofNat_of_zero_le h0
  obtain ⟨m, rfl⟩ := Int.eq_ofNat_of_zero_le (Int.le_of_lt (Int.lt_of_le_of_lt h0 h1))
  rw [← Int.ofNat_sub (Int.ofNat_le.mp (Int.le_of_lt h1)), ← Int.natCast_mul, Int.toNat_natCast, Int.toNat_natCast, Int.toNat_natCast, Int.toNat_natCast, Nat.mul_comm]
theorem join_nat {ns ds1 ds2 : List Int} {l m h : Nat} (h1 : l ≤ m) (h2 : m ≤ h) (h3 : h ≤ ns.length) (l1 : ds1.length = m - l) :
    List.take m (List.take l ns ++ ds1 ++ List.drop m ns) ++ ds2 ++ List.drop h (List.take l ns ++ ds1 ++ List.drop m ns) = List.take l ns ++ (ds1 ++ ds2) ++ List.drop h ns := by
  have t1 : (List.take l ns ++ ds1).length = m := by
    rw [List.length_append, List.length_take, l1, Nat.min_eq_left (Nat.le_trans h1 (Nat.le_trans h2 h3)), Nat.add_sub_of_le h1]
  rw [List.take_append_of_le_length (Nat.le_of_eq t1.symm), List.take_of_length_le (Nat.le_of_eq t1), List.drop_append, t1, List.drop_eq_nil_of_le (Nat.le_trans (Nat.le_of_eq t1) h2), List.nil_append, List.drop_drop, Nat.add_sub_of_le h2, List.append_assoc, List.append_assoc]
  simp only [List.append_assoc]
theorem toNat_mono {a b : Int} (h : a < b) : a.toNat ≤ b.toNat := Int.toNat_le_toNat (Int.le_of_lt h)
theorem DigSpec.join {n : Int} {ns ns1 ns2 : List Int} {lo mid hi : Int} {x : Int} (hn : 0 < n) (h0 : 0 ≤ lo) (h1 : lo < mid) (h2 : mid < hi) (h3 : hi ≤ ns.length) (_hx : 0 ≤ x)
    (a : DigSpec n ns ns1 lo.toNat mid.toNat (x.fmod (2 ^ ((mid - lo) * n).toNat))) (b : DigSpec n ns1 ns2 mid.toNat hi.toNat (x.fdiv (2 ^ ((mid - lo) * n).toNat))) :
    DigSpec n ns ns2 lo.toNat hi.toNat x := by
  obtain ⟨ds1, rfl, l1, v1, r1⟩ := a
  obtain ⟨ds2, rfl, l2, v2, r2⟩ := b
  refine ⟨ds1 ++ ds2, join_nat (toNat_mono h1) (toNat_mono h2) (Int.toNat_le.mpr h3) l1, ?_, ?_, ?_⟩
  · rw [List.length_append, l1, l2, split3 (toNat_mono h1) (toNat_mono h2)]
  · rw [evalD_append, v1, v2, l1, ← Int.pow_mul, toNat_mul_sub hn h0 h1, Int.add_comm]
    exact Int.mul_fdiv_add_fmod x _
  · intro d hd
    exact (List.mem_append.mp hd).elim (r1 d) (r2 d)
theorem fm_range {x : Int} {k : Nat} (h : 0 ≤ x) (h1 : x < 2 ^ 60) : (0 ≤ x.fmod (2 ^ k) ∧ x.fmod (2 ^ k) < 2 ^ 60) ∧ 0 ≤ x.fdiv (2 ^ k) ∧ x.fdiv (2 ^ k) < 2 ^ 60 := by
  obtain ⟨n, rfl⟩ := Int.eq_ofNat_of_zero_le h
  have e2 : ((2 : Int) ^ k) = ((2 ^ k : Nat) : Int) := by simp
  have e1 : (n : Int).fdiv (2 ^ k) = ((n / 2 ^ k : Nat) : Int) := by rw [e2]; exact Int.ofNat_fdiv n (2 ^ k) |>.symm
  have e3 : (n : Int).fmod (2 ^ k) = ((n % 2 ^ k : Nat) : Int) := by rw [e2]; exact Int.ofNat_fmod n (2 ^ k) |>.symm
  rw [e1, e3]
  have a := Nat.mod_le n (2 ^ k)
  have b := Nat.div_le_self n (2 ^ k)
  generalize n % 2 ^ k = r at *
  generalize n / 2 ^ k = q at *
  omega
theorem DigSpec.whole {n : Int} {ns ns' : List Int} {hi : Nat} {x : Int} (h : DigSpec n ns ns' 0 hi x) (h1 : ns.length = hi) : evalD (2 ^ n.toNat) ns' = x ∧ (∀ d ∈ ns', 0 ≤ d ∧ d < 2 ^ 60) ∧ ns'.length = hi := by
  obtain ⟨ds, rfl, hl, hv, hr⟩ := h
  have e : List.drop hi ns = [] := List.drop_eq_nil_of_le (Nat.le_of_eq h1)
  rw [e]
  simp only [List.take_zero, List.nil_append, List.append_nil]
  exact ⟨hv, hr, hl⟩
theorem evalD_zero {b : Int} : ∀ {ds : List Int}, (∀ d ∈ ds, d = 0) → evalD b ds = 0
  | [], _ => rfl
  | d :: r, h => by rw [evalD, h d (.head _), evalD_zero fun d hd => h d (.tail _ hd)]; simp
theorem rep_zero {k : Nat} : ∀ d ∈ (List.replicate k [(0 : Int)]).flatten, d = 0 := by
  intro d hd
  obtain ⟨l, hl, hd⟩ := List.mem_flatten.mp hd
  rw [(List.mem_replicate.mp hl).2] at hd
  exact List.mem_singleton.mp hd
theorem cnt_pos {b n : Int} (hb : 1 ≤ b) (hn : 0 < n) : 1 ≤ Int.fdiv (b + n - 1) n := by
  rw [Int.fdiv_eq_ediv_of_nonneg _ (Int.le_of_lt hn)]
  exact Int.le_ediv_of_mul_le hn (by omega)
theorem bits_pos {x : Int} (h : x ≠ 0) : 1 ≤ (Builtin.Int.intBits x : Int) := by
  unfold Builtin.Int.intBits
  rw [if_neg (by simpa using h)]
  omega
end
-- NestT
section
open PySem PySem.W PyProof.Rows PySem.Calls PySem.Spec
/-- the table of the code that a def of the top makes: not yet made, or made -/
inductive Tab (P : Addr) (ln col : Int) (q : Str) : Led → Prop
  | none : Tab P ln col q [(P, tabObj #[])]
  | some {c' : Addr} {oc : Obj} {vs : Array Value} {t : Tok} : oc.data = .fields vs → vs[1]? = some (.str q t) → 37 < c' → Tab P ln col q [(c', oc), (P, tabObj #[rawInt ln, rawInt col, .ref c'])]
theorem Tab.at {P : Addr} {ln col : Int} {q : Str} {T : Led} (h : Tab P ln col q T) : ∃ o, (P, o) ∈ T := by
  cases h with
  | none => exact ⟨_, .head _⟩
  | some => exact ⟨_, .tail _ (.head _)⟩
theorem Tab.hi {P : Addr} {ln col : Int} {q : Str} {T : Led} (h : Tab P ln col q T) : ∀ p ∈ T, p.1 = P ∨ 37 < p.1 := by
  cases h with
  | none => intro p hp; rw [List.mem_singleton.mp hp]; exact .inl rfl
  | some _ _ hc =>
    intro p hp
    rcases List.mem_cons.mp hp with rfl | hp
    · exact .inr hc
    · rw [List.mem_singleton.mp hp]; exact .inl rfl
theorem Tab.off {P : Addr} {ln col : Int} {q : Str} {T : Led} (h : Tab P ln col q T) (k : Addr) (hk : k ≠ P) (hk1 : k ≤ 37) : ∀ p ∈ T, p.1 ≠ k := by
  intro p hp e
  rcases h.hi p hp with h | h
  · exact hk (e.symm.trans h)
  · rw [e] at h; exact absurd h (Nat.not_lt.mpr hk1)
theorem updF_of {d : Addr} {o : Obj} {post : Led} (h2 : ∀ p ∈ post, p.1 ≠ d) : ∀ {pre : Led}, (∀ p ∈ pre, p.1 ≠ d) → UpdF d o (pre ++ (d, o) :: post) (fun o' => pre ++ (d, o') :: post)
  | [], _ => .head h2
  | p :: _, h1 => .tail (h1 p (.head _)) (updF_of h2 fun q hq => h1 q (.tail _ hq))
section
variable {prog : Program} {w : World} {A : Around} {E : Value → Shared → Prop} {s : Shared} {h₀ : Heap} {L a c P : Addr} {m mg mb : Str → Option Value} {cn : Str} {cs : Scope} {ccd : Value} {cl : List (Str × Addr)} {own rest T : Led}
  {p : Program} {loose : List Str} {mean : ExcName → Option Value} {name qual : Str} {params : Arguments} {body : List Stmt} {scope : Scope} {pos : Pos} {firstLine : Nat} {clos : List (Str × Addr)}
theorem nestBoth {Q : Value → Shared → Prop} (F : Fr h₀ L s.heap m) (N : News h₀ L s.heap (own ++ (T ++ rest))) (Tp : Top p loose mean mg mb h₀) (C : CodeHd h₀ c P) (hcd : ccd = .ref c) {q : Str} (hT : Tab P pos.line pos.col q T) (hqq : qual = q) (hown : ∀ p ∈ own, p.1 ≠ P) (hrest : ∀ p ∈ rest, p.1 ≠ P)
    (hlow : ∃ o, (37, o) ∈ T ++ rest) (hsep : ∀ p ∈ T, ∀ r ∈ own, p.1 < r.1) (hcl : closureFor scope (envX cn cs L a ccd cl) = pure clos)
    (h : ∀ f c' oc vs t ctv doc h' tk T', Tab P pos.line pos.col q T' → (c', oc) ∈ T' → oc.data = .fields vs → vs[1]? = some (.str qual t) → Fr h₀ L h' m →
      News h₀ L h' ((f, fnMade name qual params body scope clos doc ((mg "__name__").getD .none) c' ctv) :: (own ++ (T' ++ rest))) → (∀ q ∈ own, @LT.lt Nat _ q.1 f) → (∀ q ∈ T' ++ rest, @LT.lt Nat _ q.1 f) → (∀ p ∈ T', ∀ r ∈ own, p.1 ≠ r.1) → Q (.ref f) { s with heap := h', toks := tk }) :
    wpAny (model prog w) A (makeFunction name qual params (.stmts body) scope (envX cn cs L a ccd cl) [] [] [] pos firstLine) Q E s := by
  obtain ⟨o37, h37⟩ := hlow
  subst hqq
  cases hT with
  | none =>
    refine nest_K (ps := #[]) F N Tp C hcd (updF_of (post := rest) hrest hown) True.intro rfl hcl fun f c' oc vs t ctv doc h' tk F' N' hd hv hlt hcf => ?_
    have h37' : 37 < c' := hlt (37, o37) (List.mem_append_right _ h37)
    refine h f c' oc vs t ctv doc h' tk _ (.some hd hv h37') (.head _) hd hv F' (fun q hq => N' q ?_) (fun q hq => Nat.lt_trans (hlt q (List.mem_append_left _ hq)) hcf) (fun q hq => ?_) ?_
    · rcases List.mem_cons.mp hq with rfl | hq
      · exact .head _
      · refine .tail _ ?_
        rcases List.mem_append.mp hq with hq | hq
        · exact .tail _ (List.mem_append_left _ hq)
        · rcases List.mem_cons.mp hq with rfl | hq
          · exact .head _
          · exact .tail _ (List.mem_append_right _ hq)
    · rcases List.mem_cons.mp hq with rfl | hq
      · exact hcf
      · rcases List.mem_cons.mp hq with rfl | hq
        · exact Nat.lt_trans (hlt (P, tabObj #[]) (List.mem_append_right _ (.head _))) hcf
        · exact Nat.lt_trans (hlt q (List.mem_append_right _ (.tail _ hq))) hcf
    · intro p hp r hr
      rcases List.mem_cons.mp hp with rfl | hp
      · exact Nat.ne_of_gt (hlt r (List.mem_append_left _ hr))
      · rw [List.mem_singleton.mp hp]; exact (hown r hr).symm
  | some hd hv hc =>
    rename_i c' oc vs t
    refine nestHit_K (ps := #[rawInt pos.line, rawInt pos.col, .ref c']) (c' := c') F N Tp C hcd (List.mem_append_right _ (.tail _ (.head _))) (by simp [TriplesOk, rawInt]) (by simp [codeAmong, rawInt]) hcl fun f ctv doc h' tk F' N' hlt => ?_
    exact h f c' oc vs t ctv doc h' tk _ (.some hd hv hc) (.head _) hd hv F' N' (fun q hq => hlt q (List.mem_append_left _ hq)) (fun q hq => hlt q (List.mem_append_right _ hq)) fun p hp r hr => Nat.ne_of_lt (hsep p hp r hr)
theorem sep_of {T news own : Led} {d B : Addr} {o : Obj} (h1 : ∀ p ∈ T, ∀ q ∈ own, p.1 ≠ q.1) (h2 : ∀ p ∈ news, p.1 < B) (hm : (d, o) ∈ own) (hd : B ≤ d) : ∀ p ∈ T ++ news, p.1 ≠ d := fun p hp => by
  rcases List.mem_append.mp hp with hp | hp
  · exact h1 p hp _ hm
  · exact Nat.ne_of_lt (Nat.lt_of_lt_of_le (h2 p hp) hd)
theorem front {h₀ h : Heap} {L : Addr} {pre post : Led} {d : Addr × Obj} (N : News h₀ L h (pre ++ d :: post)) : News h₀ L h (d :: (pre ++ post)) := fun p hp => N p (by
  rcases List.mem_cons.mp hp with h | h
  · exact h ▸ List.mem_append_right _ (.head _)
  · rcases List.mem_append.mp h with h | h
    · exact List.mem_append_left _ h
    · exact List.mem_append_right _ (.tail _ h))
end
end
-- InnA
section
open PySem PySem.W PyProof.Rows PySem.Calls
theorem cnt_bound {b n : Int} (hb : 0 ≤ b) (hb1 : b ≤ 60) (hn : 0 < n) : 0 ≤ Int.fdiv (b + n - 1) n ∧ Int.fdiv (b + n - 1) n ≤ 60 := by
  have e := Int.mul_fdiv_add_fmod (b + n - 1) n
  have a1 := Int.fmod_lt_of_pos (b + n - 1) hn
  have a2 := Int.fmod_nonneg_of_pos (b + n - 1) hn
  constructor
  · exact Int.fdiv_nonneg (by omega) (by omega)
  · apply Int.le_of_not_gt
    intro hgt
    have h2 : 61 * n ≤ n * Int.fdiv (b + n - 1) n := by
      rw [Int.mul_comm]; exact Int.mul_le_mul_of_nonneg_left (by omega) (by omega)
    omega
noncomputable def InnerOk (w : World) (f : Addr) (fo : Obj) (D k1 k2 k3 c' : Addr) (q : Str) (n : Int) (j : Nat) : Prop :=
  ∀ (news : Led) (o1 o2 o3 oc : Obj) (vs' : Array Value) (t' tn : Tok) (us : List Value) (ns : List Int) (e : Nat) (x lo hi : Int) (tx t1 t2 : Tok), (f, fo) ∈ news → (c', oc) ∈ news → oc.data = .fields vs' → vs'[1]? = some (.str q t') → (k1, o1) ∈ news → o1.data = .cell (some (.int n tn)) → (k2, o2) ∈ news → o2.data = .cell (some (.ref D)) → (k3, o3) ∈ news → o3.data = .cell (some (.ref f)) → (∀ p ∈ news, p.1 ≠ D) → IntsAre us ns → 0 ≤ lo → lo < hi → hi ≤ ns.length → ns.length ≤ 60 → hi - lo ≤ j → 0 ≤ x → x < 2 ^ 60 →
    Ok w f [.int x tx, .int lo t1, .int hi t2] j (8 * j) ((D, W.listOf us.toArray e) :: news) (fun r ne => r = .none ∧ ∃ us' ns' e', ne = (D, W.listOf us'.toArray e') :: news ∧ IntsAre us' ns' ∧ DigSpec n ns ns' lo.toNat hi.toNat x)
noncomputable def pick3 {α β γ : Type} {a : α} {b : β} {c : γ} {P : α → β → γ → Prop} (_ : P a b c) : α × β × γ := (a, b, c)
noncomputable def nestOf (p : Program) (i k : Nat) : Option (Arguments × List Stmt × Scope) := match p.main.body[i]? with
  | some (.FunctionDef _ _ b _ _ _ _ _ _ _) => (match b[k]? with
    | some (.FunctionDef _ a b _ _ _ sc _ _ _) => some (a, b, sc)
    | _ => none)
  | _ => none
noncomputable def inLit : Arguments × List Stmt × Scope := pick3 (P := fun a b c => nestOf PySem.Challenge.pw_pg0199_01 4 1 = some (a, b, c)) rfl
theorem mid_facts {lo hi n : Int} (hn : 0 < n) (hn1 : n ≤ 60) (h0 : 0 ≤ lo) (h : lo + 1 < hi) (h2 : hi ≤ 60) :
    lo < Int.fdiv (lo + hi) (2 ^ Int.toNat 1) ∧ Int.fdiv (lo + hi) (2 ^ Int.toNat 1) < hi ∧ 0 ≤ (Int.fdiv (lo + hi) (2 ^ Int.toNat 1) - lo) * n ∧ (Int.fdiv (lo + hi) (2 ^ Int.toNat 1) - lo) * n ≤ 3600 := by
  have e : Int.fdiv (lo + hi) (2 ^ Int.toNat 1) = (lo + hi) / 2 := Int.fdiv_eq_ediv_of_nonneg _ (by decide)
  rw [e]
  have a : lo < (lo + hi) / 2 := by omega
  have b : (lo + hi) / 2 < hi := by omega
  refine ⟨a, b, Int.mul_nonneg (by omega) (by omega), ?_⟩
  have c := Int.mul_le_mul (show (lo + hi) / 2 - lo ≤ 60 by omega) hn1 (by omega) (by decide)
  omega
theorem inner_step (w : World) (f D k1 k2 k3 c' : Addr) (q : Str) (n : Int) (doc pm ctv : Value) (hn : 0 < n) (hn1 : n ≤ 60) (j : Nat) (IH : InnerOk w f (fnMade "inner" q inLit.1 inLit.2.1 inLit.2.2 [("n", k1), ("inner", k3), ("a_digits", k2)] doc pm c' ctv) D k1 k2 k3 c' q n j) : 
   InnerOk w f (fnMade "inner" q inLit.1 inLit.2.1 inLit.2.2 [("n", k1), ("inner", k3), ("a_digits", k2)] doc pm c' ctv) D k1 k2 k3 c' q n (j + 1) := by
  k_with_none
  dsimp only [inLit, pick3] at IH ⊢
  unfold InnerOk Ok
  w_top off
  k_fill
  intro news o1 o2 o3 oc vs' t' tn us ns e x lo hi tx t1 t2 mf mc dc dq m1 d1 m2 d2 m3 d3 hneD hI hlo hlh hhi hlen hj hx0 hx1 mean mg mb dp un gd cn cs a ccd cl outer A₀ base h₀ L m s Q E B F X N T hk hd hu hret
  refine wpAny_call ?_
  k_dflt (refine' code_nest ?k1 ?k2 ?k3 ?k4 ?k5 ?kA ?kF ?kK ?k6 ?k7 ?k8 ?k9 ?kB ?_ ?c2 ?c3 ?c4 ?c5)
  (case kA => exact rfl)
  (case kF => exact rfl)
  (case kK => assumption)
  (case k1 => k_asm)
  (case k2 => k_asm)
  (case k3 => k_asm)
  (case k4 => k_asm)
  (case k5 => k_asm)
  (case k6 => exact List.mem_cons_of_mem _ mf)
  (case k7 => exact codeRec_news (by k_asm) (List.mem_cons_of_mem _ mc) dc dq)
  (case k8 => ktr_room)
  (case k9 => exact BindsTo.of_eq rfl)
  (case c5 => decide)
  (case kB => exact locs rfl)
  (case c2 => exact rfl)
  (case c3 => exact rfl)
  (case c4 => exact rfl)
  k_whole
  intro g' L' h' FG' F' N' B' X' T'
  (try dsimp only)
  (try k_fold)
  rename Frag.In _ _ => X1
  have hcd := codeHd_of_K (c := 34) (P := 30) X1 (by kernel_rfl)
  k_with "eval Name" =>
    k_here
    (with_reducible show wpAny _ _ (eval (Expr.Name (Str.ofString "a_digits") _) _) _ _ _)
    rename News _ _ _ _ => lN
    k_dflt (refine' nameX_F lN (c := k2) (o := o2) ?zqc ?zqm d2 ?_ ?zqa ?zqb; (case zqa => rfl); (case zqb => rfl); (case zqc => rfl); (case zqm => repeat (first | exact m2 | refine List.mem_cons_of_mem _ ?_)))
  k_with "eval Name" =>
    k_here
    (with_reducible show wpAny _ _ (eval (Expr.Name (Str.ofString "inner") _) _) _ _ _)
    rename News _ _ _ _ => lN
    k_dflt (refine' nameX_F lN (c := k3) (o := o3) ?zqc ?zqm d3 ?_ ?zqa ?zqb; (case zqa => rfl); (case zqb => rfl); (case zqc => rfl); (case zqm => repeat (first | exact m3 | refine List.mem_cons_of_mem _ ?_)))
  k_with "eval Name" =>
    k_here
    (with_reducible show wpAny _ _ (eval (Expr.Name (Str.ofString "n") _) _) _ _ _)
    rename News _ _ _ _ => lN
    k_dflt (refine' nameX_F lN (c := k1) (o := o1) ?zqc ?zqm d1 ?_ ?zqa ?zqb; (case zqa => rfl); (case zqb => rfl); (case zqc => rfl); (case zqm => repeat (first | exact m1 | refine List.mem_cons_of_mem _ ?_)))
  k_with "callWith ref" =>
    k_here
    rename News _ _ _ _ => lN
    k_dflt (refine' callWith_F (FnAt.of lN ?zqm) ?_; (case zqm => repeat (first | exact mf | refine List.mem_cons_of_mem _ ?_)); k_whole)
  k_with "FnAt" =>
    rename News _ _ _ _ => lN
    k_dflt (refine' FnAt.of lN ?zqm; (case zqm => repeat (first | exact mf | refine List.mem_cons_of_mem _ ?_)))
  k_with "call ref" =>
    k_here
    k_dflt (refine' Ok.use (IH news o1 o2 o3 oc vs' t' tn _ _ _ _ _ _ _ _ _ mf mc dc dq m1 d1 m2 d2 m3 d3 hneD ?zqI ?zq0 ?zq1 ?zq2 ?zq3 ?zq4 ?zq5 ?zq6) ?zqB ?zqF ?zqX ?zqN ?zqT ?zqk ?zqd ?zqu ?_; (case zqB => k_asm); (case zqF => k_asm); (case zqX => k_asm); (case zqN => k_asm); (case zqT => k_asm); (case zqk => exact rfl); (case zqd => first | exact zA hd rfl | exact zB hd rfl | ktr_room); (case zqu => first | exact zA hu rfl | exact zB hu rfl | ktr_units); (case zqI => assumption); (case zq0 => omega); (case zq1 => omega); (case zq2 => omega); (case zq3 => omega); (case zq4 => omega); (case zq5 => first | exact hfr.2.1 | (rw [hlb]; exact hfr.1.1)); (case zq6 => first | exact hfr.2.2 | (rw [hlb]; exact hfr.1.2)))
    intro r1 news1 h1 tk1 hR F1 N1
    obtain ⟨hr1, us1, ns1, e1, hne1, hI1, hS1⟩ := hR
    subst hr1
    subst hne1
    have hl1 := DigSpec.len hS1 (by omega) (by omega)
    (try dsimp only)
    (try k_fold)
  by_cases hlt : lo + 1 = hi
  · k_steps
    subst hlt
    exact hret _ _ _ _ ⟨rfl, _, _, _, rfl, by assumption, DigSpec.base hlo (by omega) hx0 hx1⟩ (by assumption) (by assumption)
  · have hm9 := mid_facts (lo := lo) (hi := hi) hn hn1 hlo (by omega) (by omega)
    have hfr := fm_range (k := ((Int.fdiv (lo + hi) (2 ^ Int.toNat 1) - lo) * n).toNat) hx0 hx1
    have hlb := low_bits x (((Int.fdiv (lo + hi) (2 ^ Int.toNat 1) - lo) * n).toNat) hx0
    k_steps
    rename DigSpec _ _ _ _ _ (Builtin.bitXor _ _) => hSa
    rw [hlb] at hSa
    have hS := DigSpec.join hn hlo hm9.1 hm9.2.1 hhi hx0 hSa (by assumption)
    exact hret _ _ _ _ ⟨rfl, _, _, _, rfl, by assumption, hS⟩ (by assumption) (by assumption)
theorem inner_ok (w : World) (f D k1 k2 k3 c' : Addr) (q : Str) (n : Int) (doc pm ctv : Value) (hn : 0 < n) (hn1 : n ≤ 60) : ∀ j : Nat,
   InnerOk w f (fnMade "inner" q inLit.1 inLit.2.1 inLit.2.2 [("n", k1), ("inner", k3), ("a_digits", k2)] doc pm c' ctv) D k1 k2 k3 c' q n j
  | 0 => fun _ _ _ _ _ _ _ _ _ _ _ _ _ _ _ _ _ _ _ _ _ _ _ _ _ _ _ _ _ h1 h2 _ _ h3 => by
    exfalso; omega
  | j + 1 => inner_step w f D k1 k2 k3 c' q n doc pm ctv hn hn1 j (inner_ok w f D k1 k2 k3 c' q n doc pm ctv hn hn1 j)
end
-- I2dA
section
open PySem PySem.W PyProof.Rows PySem.Calls
theorem leN {a b : Nat} (h : a ≤ b) : a ≤ b := h
noncomputable def qI2D : Str := (Str.ofString "_int2digits" ++ ".<locals>.") ++ Str.ofString "inner"
theorem inner_at {w : World} {f D k1 k2 k3 c' : Addr} {q : Str} {n : Int} {doc pm ctv : Value} {l9 : Addr × Obj} {o1 o2 o3 oc : Obj} {vs' : Array Value} {t' tn : Tok} {us : List Value} {ns : List Int} {e : Nat} {x hi : Int} {tx t1 t2 : Tok} {T news : Led} (hn : 0 < n) (hn1 : n ≤ 60)
    (mc : (c', oc) ∈ T) (dc : oc.data = .fields vs') (dq : vs'[1]? = some (.str q t')) (d1 : o1.data = .cell (some (.int n tn))) (d2 : o2.data = .cell (some (.ref D))) (d3 : o3.data = .cell (some (.ref f)))
    (hD1 : f ≠ D) (hD2 : l9.1 ≠ D) (hD3 : k3 ≠ D) (hD4 : k2 ≠ D) (hD5 : k1 ≠ D) (hD : ∀ p ∈ T ++ news, p.1 ≠ D) (hI : IntsAre us ns) (hl : 0 < hi) (hh : (ns.length : Int) = hi) (hlen : ns.length ≤ 60) (hx0 : 0 ≤ x) (hx1 : x < 2 ^ 60) :
    Ok w f [.int x tx, .int 0 t1, .int hi t2] 60 480 ((D, W.listOf us.toArray e) :: (f, fnMade "inner" q inLit.1 inLit.2.1 inLit.2.2 [("n", k1), ("inner", k3), ("a_digits", k2)] doc pm c' ctv) :: l9 :: (k3, o3) :: (k2, o2) :: (k1, o1) :: (T ++ news))
      (fun r ne => ∃ us' ns' e', r = .none ∧ ne = (D, W.listOf us'.toArray e') :: (f, fnMade "inner" q inLit.1 inLit.2.1 inLit.2.2 [("n", k1), ("inner", k3), ("a_digits", k2)] doc pm c' ctv) :: l9 :: (k3, o3) :: (k2, o2) :: (k1, o1) :: (T ++ news) ∧ IntsAre us' ns' ∧ evalD (2 ^ n.toNat) ns' = x ∧ (∀ d ∈ ns', 0 ≤ d ∧ d < 2 ^ 60) ∧ ns'.length ≤ 60) := by
  have h := inner_ok w f D k1 k2 k3 c' q n doc pm ctv hn hn1 60 ((f, fnMade "inner" q inLit.1 inLit.2.1 inLit.2.2 [("n", k1), ("inner", k3), ("a_digits", k2)] doc pm c' ctv) :: l9 :: (k3, o3) :: (k2, o2) :: (k1, o1) :: (T ++ news)) o1 o2 o3 oc vs' t' tn us ns e x 0 hi tx t1 t2
    (.head _) (.tail _ (.tail _ (.tail _ (.tail _ (.tail _ (List.mem_append_left _ mc)))))) dc dq (.tail _ (.tail _ (.tail _ (.tail _ (.head _))))) d1 (.tail _ (.tail _ (.tail _ (.head _)))) d2 (.tail _ (.tail _ (.head _))) d3
    (List.forall_mem_cons.mpr ⟨hD1, List.forall_mem_cons.mpr ⟨hD2, List.forall_mem_cons.mpr ⟨hD3, List.forall_mem_cons.mpr ⟨hD4, List.forall_mem_cons.mpr ⟨hD5, hD⟩⟩⟩⟩⟩) hI (Int.le_refl _) hl (Int.le_of_eq hh.symm) hlen (by omega) hx0 hx1
  intro mean mg mb dp un gd cn cs a ccd cl outer A₀ base h₀ L m s Q E B F X N Tp hk hd hu hret
  refine h mean mg mb dp un gd cn cs a ccd cl outer A₀ base h₀ L m s Q E B F X N Tp hk hd hu fun r ne h' tk' hR F' N' => ?_
  obtain ⟨hr, us', ns', e', hne, hI', hS⟩ := hR
  have hS' := DigSpec.whole (hi := hi.toNat) hS (by omega)
  exact hret r ne h' tk' ⟨us', ns', e', hr, hne, hI', hS'.1, hS'.2.1, by omega⟩ F' N'
theorem i2d_ok : ∀ (w : World) (T news : Led) (x n : Int) (tx tn : Tok), 0 ≤ x → x < 2 ^ 60 → 0 < n → n ≤ 60 → Tab 30 32 4 qI2D T → (∀ p ∈ T, p.1 ≠ 37) → (∃ o, (37, o) ∈ news) → (∀ p ∈ news, p.1 ≠ 30) →
    Ok w 35 [.int x tx, .int n tn] 100 800 (T ++ news) (fun r ne => ∃ D us ds e T', r = .ref D ∧ ne = (D, W.listOf us.toArray e) :: (T' ++ news) ∧ Tab 30 32 4 qI2D T' ∧ (∀ p ∈ T', p.1 ≠ 37) ∧ IntsAre us ds ∧ evalD (2 ^ n.toNat) ds = x ∧ (∀ d ∈ ds, 0 ≤ d ∧ d < 2 ^ 60) ∧ ds.length ≤ 60 ∧ (∀ p ∈ T' ++ news, p.1 ≠ D) ∧ 37 < D) := by
  k_with_none
  unfold Ok
  w_top off
  k_fill
  intro w T news x n tx tn hx0 hx1 hn hn1 hT hT37 h37 hn30 mean mg mb dp un gd cn cs a ccd cl outer A₀ base h₀ L m s Q E B F X N Tp hk hd hu hret
  have hbl := bits_le (show -(2^60) < x by omega) hx1
  have hcn := cnt_bound (Int.natCast_nonneg _) hbl hn
  k_with "exec FunctionDef" =>
    k_here
    k_dflt (refine' nestDef_K ?zd0 ?zk0 ?za0 ?_; (case zd0 => exact rfl); (case zk0 => exact rfl); (case za0 => exact rfl))
    rename Fr _ _ _ _ => lF
    rename News _ _ _ _ => lN
    k_dflt (refine' nestBoth (own := [_, _, _, _, _]) (T := T) (rest := news) (q := qI2D) lF lN ?zT ?zC ?zcd hT ?zq ?zown hn30 ?zlow ?zsep ?zcl ?_; (case zT => k_asm); (case zC => kn_code); (case zcd => exact rfl); (case zq => exact rfl); (case zcl => exact rfl))
    (case zown => (repeat' (first | exact List.forall_mem_nil _ | (refine List.forall_mem_cons.mpr ⟨?_, ?_⟩))); all_goals (refine neN ?_; (try dsimp only); omega))
    (case zlow => exact h37.imp fun o h => List.mem_append_right _ h)
    (case zsep => (intro p9 hp9; have h9 : @LT.lt Nat _ p9.1 _ := hnl p9 (List.mem_append_left _ hp9); (repeat' (first | exact List.forall_mem_nil _ | (refine List.forall_mem_cons.mpr ⟨?_, ?_⟩))); all_goals (refine ltN ?_; (try dsimp only); omega)))
    intro f1 c1 oc1 vs1 t1 ctv1 doc1 h1 tk1 T1 hT1 mc1 hd1 hv1 F1 N1 lo1 lt1 hsep1
    simp only [List.cons_append, List.nil_append] at N1
    simp only [List.forall_mem_cons, List.not_mem_nil, false_implies, implies_true, and_true] at lo1
    have hnl2 : ∀ p ∈ news, @LT.lt Nat _ p.1 _ := fun p hp => hnl p (List.mem_append_right _ hp)
    have hz1 := sep_of hsep1 hnl2 (List.Mem.head _) (by refine leN ?_; omega)
    have hz3 := sep_of hsep1 hnl2 (List.Mem.tail _ (List.Mem.tail _ (List.Mem.head _))) (by refine leN ?_; omega)
    (try k_sweep)
  refine wpAny_call ?_
  k_dflt (refine' code_defC ?k1 ?k2 ?k3 ?k4 ?k5 ?kA ?kF ?kK ?k6 ?k7 ?k8 ?k9 ?kB ?kD ?_ ?c2 ?c3 ?c4; (case kA => exact rfl); (case kF => exact rfl); (case kK => assumption); (case k1 => k_asm); (case k2 => k_asm); (case k3 => k_asm); (case k4 => k_asm); (case k5 => k_asm); (case k6 => k_is); (case k7 => k_is); (case k8 => ktr_room); (case k9 => exact BindsTo.of_eq rfl); (case kB => exact rfl); (case kD => decide +kernel); (case c2 => exact rfl); (case c3 => exact rfl); (case c4 => exact rfl); k_whole; intro g' L' h' tk' cells' FG' F' N' Y' B' X' T' l1; k_cells Y'; (try simp only [List.cons_append, List.nil_append] at N'); (try dsimp only); (try k_fold))
  rename ∀ p ∈ T ++ news, _ => hnl
  rename Frag.In _ _ => X1
  have hL30 : @LT.lt Nat _ 30 _ := let ⟨o, ho⟩ := hT.at; hnl _ (List.mem_append_left _ ho)
  have hL37 : @LT.lt Nat _ 37 _ := let ⟨o, ho⟩ := h37; hnl _ (List.mem_append_right _ ho)
  have hcd := codeHd_of_K (c := 34) (P := 30) X1 (by kernel_rfl)
  k_steps
  · rename News _ _ _ _ => lN
    have lN2 := front (pre := [_]) lN
    simp only [List.cons_append, List.nil_append] at lN2
    have hbp := cnt_pos (bits_pos (x := x) (by assumption)) hn
    refine' Ok.use (inner_at hn hn1 mc1 hd1 hv1 ?zd1 ?zd2 ?zd3 ?zn1 ?zn2 ?zn3 ?zn4 ?zn5 hz1 ?zI ?zlt ?zh ?zle hx0 hx1) ?zB ?zF ?zX lN2 ?zT ?zk ?zd ?zu ?_
    (case zd1 => assumption)
    (case zd2 => assumption)
    (case zd3 => assumption)
    (case zB => k_asm)
    (case zF => k_asm)
    (case zX => k_asm)
    (case zT => k_asm)
    (case zk => exact rfl)
    (case zd => ktr_room)
    (case zu => ktr_units)
    (case zI => assumption)
    (case zn1 => (refine neN ?_; omega))
    (case zn2 => (refine neN ?_; (try dsimp only); omega))
    (case zn3 => (refine neN ?_; omega))
    (case zn4 => (refine neN ?_; omega))
    (case zn5 => (refine neN ?_; omega))
    (case zlt => omega)
    (case zh => omega)
    (case zle => omega)
    intro r1 news1 h2 tk2 hR F2 N2
    obtain ⟨us1, ns1, e1, hr1, hne1, hI1, hv, hr, hln⟩ := hR
    subst hr1
    subst hne1
    dsimp only
    k_steps
    refine hret _ _ _ _ ⟨_, us1, ns1, e1, T1, rfl, rfl, hT1, hT1.off 37 (by decide) (by decide), hI1, hv, hr, hln, hz1, ?_⟩ (by assumption) (cb_drop (by assumption) ?_)
    · refine ltN ?_; omega
    · intro p hp
      rcases List.mem_cons.mp hp with rfl | hp
      · exact List.Mem.head _
      · exact List.mem_append_right [_, _, _, _, _, _] hp
  · have hx : x = 0 := by assumption
    rename IntsAre _ _ => hI1
    have hz := rep_zero (k := (Int.fdiv (↑(Builtin.Int.intBits x) + n - 1) n).toNat)
    rename News _ _ _ _ => kN
    refine hret _ _ _ _ ⟨_, _, _, 0, T1, rfl, rfl, hT1, hT1.off 37 (by decide) (by decide), hI1, (evalD_zero hz).trans hx.symm, fun d hd => by rw [hz d hd]; decide, ?_, hz1, ?_⟩ (by assumption) (cb_drop kN ?_)
    · omega
    · refine ltN ?_; omega
    · intro p hp
      rcases List.mem_cons.mp hp with rfl | hp
      · exact List.Mem.tail _ (List.Mem.head _)
      · exact List.mem_append_right [_, _, _, _, _, _] hp
end
-- DigQ
section
open PySem PySem.W PyProof.Rows
noncomputable def slice (ds : List Int) (lo hi : Int) : List Int := (ds.drop lo.toNat).take (hi - lo).toNat
theorem evalD_nonneg {b : Int} (hb : 0 ≤ b) : ∀ {ds : List Int}, (∀ d ∈ ds, 0 ≤ d) → 0 ≤ evalD b ds
  | [], _ => Int.le_refl _
  | d :: r, h => Int.add_nonneg (h d (.head _)) (Int.mul_nonneg hb (evalD_nonneg hb fun d hd => h d (.tail _ hd)))
theorem slice_one {b lo : Int} {ds : List Int} (h0 : 0 ≤ lo) (h1 : lo < ds.length) : evalD b (slice ds lo (lo + 1)) = ds.getD lo.toNat 0 := by
  have hl : lo.toNat < ds.length := (Int.toNat_lt h0).mpr h1
  rw [slice, Int.add_comm, Int.add_sub_cancel]
  show evalD b (List.take 1 (List.drop lo.toNat ds)) = _
  rw [List.drop_eq_getElem_cons hl, List.take_succ_cons, List.take_zero]
  simp [evalD, List.getD_eq_getElem?_getD, List.getElem?_eq_getElem hl]
theorem slice_join {n lo mid hi : Int} {ds : List Int} (hn : 0 < n) (h0 : 0 ≤ lo) (h1 : lo < mid) (h2 : mid < hi) (h3 : hi ≤ ds.length) :
    evalD (2 ^ n.toNat) (slice ds mid hi) * 2 ^ ((mid - lo) * n).toNat + evalD (2 ^ n.toNat) (slice ds lo mid) = evalD (2 ^ n.toNat) (slice ds lo hi) := by
  obtain ⟨l, rfl⟩ := Int.eq_ofNat_of_zero_le h0
  obtain ⟨m, rfl⟩ := Int.eq_ofNat_of_zero_le (Int.le_of_lt (Int.lt_of_le_of_lt h0 h1))
  obtain ⟨h, rfl⟩ := Int.eq_ofNat_of_zero_le (Int.le_of_lt (Int.lt_of_le_of_lt h0 (Int.lt_trans h1 h2)))
  have a1 := Int.ofNat_le.mp (Int.le_of_lt h1)
  have a2 := Int.ofNat_le.mp (Int.le_of_lt h2)
  have a3 := Int.ofNat_le.mp h3
  rw [← toNat_mul_sub hn h0 h1]
  unfold slice
  rw [← Int.ofNat_sub a1, ← Int.ofNat_sub a2, ← Int.ofNat_sub (Nat.le_trans a1 a2)]
  simp only [Int.toNat_natCast]
  have e3 : List.drop m ds = List.drop (m - l) (List.drop l ds) := by
    rw [List.drop_drop, Nat.add_sub_of_le a1]
  have e4 : (List.take (m - l) (List.drop l ds)).length = m - l := by
    rw [List.length_take, List.length_drop, Nat.min_eq_left (Nat.sub_le_sub_right (Nat.le_trans a2 a3) l)]
  rw [← split3 a1 a2, List.take_add, ← e3, evalD_append, e4, ← Int.pow_mul, Int.mul_comm, Int.add_comm]
theorem slice_range {n lo hi : Int} {ds : List Int} (hd : ∀ d ∈ ds, 0 ≤ d) (hv : evalD (2 ^ n.toNat) ds < 2 ^ 60) : 0 ≤ evalD (2 ^ n.toNat) (slice ds lo hi) ∧ evalD (2 ^ n.toNat) (slice ds lo hi) < 2 ^ 60 := by
  have hb : (0 : Int) < 2 ^ n.toNat := Int.pow_pos (by decide)
  have hb0 := Int.le_of_lt hb
  have hm : ∀ d ∈ slice ds lo hi, 0 ≤ d := fun d h => hd d (List.mem_of_mem_drop (List.mem_of_mem_take h))
  have a := evalD_nonneg hb0 hm
  refine ⟨a, Int.lt_of_le_of_lt ?_ hv⟩
  have e : ds = ds.take lo.toNat ++ (slice ds lo hi ++ (ds.drop lo.toNat).drop (hi - lo).toNat) := by
    unfold slice; rw [List.take_append_drop, List.take_append_drop]
  have p1 : 0 ≤ evalD (2 ^ n.toNat) (ds.take lo.toNat) := evalD_nonneg hb0 fun d h => hd d (List.mem_of_mem_take h)
  have p2 : 0 ≤ evalD (2 ^ n.toNat) ((ds.drop lo.toNat).drop (hi - lo).toNat) := evalD_nonneg hb0 fun d h => hd d (List.mem_of_mem_drop (List.mem_of_mem_drop h))
  have key : evalD (2 ^ n.toNat) ds = evalD (2 ^ n.toNat) (ds.take lo.toNat) + (2 ^ n.toNat) ^ (ds.take lo.toNat).length * (evalD (2 ^ n.toNat) (slice ds lo hi) + (2 ^ n.toNat) ^ (slice ds lo hi).length * evalD (2 ^ n.toNat) ((ds.drop lo.toNat).drop (hi - lo).toNat)) := by
    rw [← evalD_append, ← evalD_append, ← e]
  rw [key]
  have q1 : (0 : Int) < (2 ^ n.toNat) ^ (ds.take lo.toNat).length := Int.pow_pos hb
  have q2 : 0 ≤ (2 ^ n.toNat : Int) ^ (slice ds lo hi).length * evalD (2 ^ n.toNat) ((ds.drop lo.toNat).drop (hi - lo).toNat) := Int.mul_nonneg (Int.le_of_lt (Int.pow_pos hb)) p2
  have q3 := Int.mul_le_mul_of_nonneg_right (show (1 : Int) ≤ _ from q1) (Int.add_nonneg a q2)
  rw [Int.one_mul] at q3
  exact Int.le_trans (Int.le_trans (Int.le_add_of_nonneg_right q2) q3) (Int.le_add_of_nonneg_left p1)
theorem slice_all {ds : List Int} {hi : Int} (h : (ds.length : Int) = hi) : slice ds 0 hi = ds := by
  subst h
  unfold slice
  rw [Int.sub_zero, Int.toNat_natCast]
  exact List.take_of_length_le (Nat.le_refl _)
end
-- InnC
section
open PySem PySem.W PyProof.Rows PySem.Calls
noncomputable def inLit2 : Arguments × List Stmt × Scope := pick3 (P := fun a b c => nestOf PySem.Challenge.pw_pg0199_01 5 0 = some (a, b, c)) rfl
noncomputable def Inner2Ok (w : World) (f : Addr) (fo : Obj) (k1 k2 k3 c' : Addr) (q : Str) (n : Int) (j : Nat) : Prop :=
  ∀ (news : Led) (o1 o2 o3 oc : Obj) (vs' : Array Value) (t' tn : Tok) (D : Addr) (us : List Value) (ds : List Int) (e : Nat) (lo hi : Int) (t1 t2 : Tok), (f, fo) ∈ news → (c', oc) ∈ news → oc.data = .fields vs' → vs'[1]? = some (.str q t') → (k1, o1) ∈ news → o1.data = .cell (some (.int n tn)) → (k2, o2) ∈ news → o2.data = .cell (some (.ref D)) → (k3, o3) ∈ news → o3.data = .cell (some (.ref f)) → (D, W.listOf us.toArray e) ∈ news → IntsAre us ds → 0 ≤ lo → lo < hi → hi ≤ ds.length → ds.length ≤ 60 → (∀ d ∈ ds, 0 ≤ d) → evalD (2 ^ n.toNat) ds < 2 ^ 60 → hi - lo ≤ j →
    Ok w f [.int lo t1, .int hi t2] j (8 * j) news (fun r ne => ne = news ∧ ∃ t, r = .int (evalD (2 ^ n.toNat) (slice ds lo hi)) t)
theorem inner2_step (w : World) (f k1 k2 k3 c' : Addr) (q : Str) (n : Int) (doc pm ctv : Value) (hn : 0 < n) (hn1 : n ≤ 60) (j : Nat) (IH : Inner2Ok w f (fnMade "inner" q inLit2.1 inLit2.2.1 inLit2.2.2 [("n", k1), ("inner", k3), ("digits", k2)] doc pm c' ctv) k1 k2 k3 c' q n j) :
   Inner2Ok w f (fnMade "inner" q inLit2.1 inLit2.2.1 inLit2.2.2 [("n", k1), ("inner", k3), ("digits", k2)] doc pm c' ctv) k1 k2 k3 c' q n (j + 1) := by
  k_with_none
  dsimp only [inLit2, pick3] at IH ⊢
  unfold Inner2Ok Ok
  w_top off
  k_fill
  intro news o1 o2 o3 oc vs' t' tn D us ds e lo hi t1 t2 mf mc dc dq m1 d1 m2 d2 m3 d3 mD hI hlo hlh hhi hlen hd0 hev hj mean mg mb dp un gd cn cs a ccd cl outer A₀ base h₀ L m s Q E B F X N T hk hd hu hret
  refine wpAny_call ?_
  k_dflt (refine' code_nest ?k1 ?k2 ?k3 ?k4 ?k5 ?kA ?kF ?kK ?k6 ?k7 ?k8 ?k9 ?kB ?_ ?c2 ?c3 ?c4 ?c5)
  (case kA => exact rfl)
  (case kF => exact rfl)
  (case kK => assumption)
  (case k1 => k_asm)
  (case k2 => k_asm)
  (case k3 => k_asm)
  (case k4 => k_asm)
  (case k5 => k_asm)
  (case k6 => exact mf)
  (case k7 => exact codeRec_news (by k_asm) mc dc dq)
  (case k8 => ktr_room)
  (case k9 => exact BindsTo.of_eq rfl)
  (case c5 => decide)
  (case kB => exact locs rfl)
  (case c2 => exact rfl)
  (case c3 => exact rfl)
  (case c4 => exact rfl)
  k_whole
  intro g' L' h' FG' F' N' B' X' T'
  (try dsimp only)
  (try k_fold)
  rename Frag.In _ _ => X1
  have hcd := codeHd_of_K (c := 41) (P := 37) X1 (by kernel_rfl)
  k_with "eval Name" =>
    k_here
    rename News _ _ _ _ => lN
    k_dflt (first
      | ((with_reducible show wpAny _ _ (eval (Expr.Name (Str.ofString "digits") _) _) _ _ _); refine' nameX_F lN (c := k2) (o := o2) ?zqc m2 d2 ?_ ?zqa ?zqb; (case zqa => rfl); (case zqb => rfl); (case zqc => rfl))
      | ((with_reducible show wpAny _ _ (eval (Expr.Name (Str.ofString "inner") _) _) _ _ _); refine' nameX_F lN (c := k3) (o := o3) ?zqc m3 d3 ?_ ?zqa ?zqb; (case zqa => rfl); (case zqb => rfl); (case zqc => rfl))
      | ((with_reducible show wpAny _ _ (eval (Expr.Name (Str.ofString "n") _) _) _ _ _); refine' nameX_F lN (c := k1) (o := o1) ?zqc m1 d1 ?_ ?zqa ?zqb; (case zqa => rfl); (case zqb => rfl); (case zqc => rfl)))
  k_with "callWith ref" =>
    k_here
    rename News _ _ _ _ => lN
    k_dflt (refine' callWith_F (FnAt.of lN mf) ?_; k_whole)
  k_with "FnAt" =>
    rename News _ _ _ _ => lN
    k_dflt (exact FnAt.of lN mf)
  k_with "subscriptTail" =>
    k_here
    (with_reducible show wpAny _ _ (subscriptTail _ _ (Value.ref _) (Value.int _ _)) _ _ _)
    rename News _ _ _ _ => lN
    k_dflt (refine' ksa_sub lN mD hI hlo ?zq1 ?zq2 ?_ ?zq3; (case zq1 => omega); (case zq2 => omega); (case zq3 => with_unfolding_all rfl); k_whole)
    intro t9
  k_with "call ref" =>
    k_here
    k_dflt (refine' Ok.use (IH news o1 o2 o3 oc vs' t' tn D us ds e _ _ _ _ mf mc dc dq m1 d1 m2 d2 m3 d3 mD hI ?zq0 ?zq1 ?zq2 hlen hd0 hev ?zq4) ?zqB ?zqF ?zqX ?zqN ?zqT ?zqk ?zqd ?zqu ?_; (case zqB => k_asm); (case zqF => k_asm); (case zqX => k_asm); (case zqN => k_asm); (case zqT => k_asm); (case zqk => exact rfl); (case zqd => first | exact zA hd rfl | exact zB hd rfl | ktr_room); (case zqu => first | exact zA hu rfl | exact zB hu rfl | ktr_units); (case zq0 => omega); (case zq1 => omega); (case zq2 => omega); (case zq4 => omega))
    intro r1 news1 h1 tk1 hR F1 N1
    obtain ⟨hne1, t9, hr1⟩ := hR
    subst hr1
    rw [hne1] at N1
    clear hne1
    (try dsimp only)
    (try k_fold)
  by_cases hlt : lo + 1 = hi
  · k_steps
    subst hlt
    exact hret _ _ _ _ ⟨rfl, _, congrArg (fun i => Value.int i _) (slice_one hlo (by omega)).symm⟩ (by assumption) (by assumption)
  · have hm9 := mid_facts (lo := lo) (hi := hi) hn hn1 hlo (by omega) (by omega)
    have hr1 := slice_range (n := n) (lo := Int.fdiv (lo + hi) (2 ^ Int.toNat 1)) (hi := hi) hd0 hev
    k_steps
    exact hret _ _ _ _ ⟨rfl, _, congrArg (fun i => Value.int i _) (slice_join hn hlo hm9.1 hm9.2.1 hhi)⟩ (by assumption) (by assumption)
theorem inner2_ok (w : World) (f k1 k2 k3 c' : Addr) (q : Str) (n : Int) (doc pm ctv : Value) (hn : 0 < n) (hn1 : n ≤ 60) : ∀ j : Nat,
   Inner2Ok w f (fnMade "inner" q inLit2.1 inLit2.2.1 inLit2.2.2 [("n", k1), ("inner", k3), ("digits", k2)] doc pm c' ctv) k1 k2 k3 c' q n j
  | 0 => by unfold Inner2Ok; intros; exfalso; omega
  | j + 1 => inner2_step w f k1 k2 k3 c' q n doc pm ctv hn hn1 j (inner2_ok w f k1 k2 k3 c' q n doc pm ctv hn hn1 j)
end
-- D2iA
section
open PySem PySem.W PyProof.Rows PySem.Calls
noncomputable def qD2I : Str := (Str.ofString "_digits2int" ++ ".<locals>.") ++ Str.ofString "inner"
theorem inner2_at {w : World} {f D k1 k2 k3 c' : Addr} {q : Str} {n : Int} {doc pm ctv : Value} {o1 o2 o3 oc : Obj} {vs' : Array Value} {t' tn : Tok} {us : List Value} {ds : List Int} {e : Nat} {hi : Int} {t1 t2 : Tok} {T news : Led} (hn : 0 < n) (hn1 : n ≤ 60)
    (mc : (c', oc) ∈ T) (dc : oc.data = .fields vs') (dq : vs'[1]? = some (.str q t')) (d1 : o1.data = .cell (some (.int n tn))) (d2 : o2.data = .cell (some (.ref D))) (d3 : o3.data = .cell (some (.ref f)))
    (mD : (D, W.listOf us.toArray e) ∈ news) (hI : IntsAre us ds) (hl : 0 < hi) (hh : (ds.length : Int) = hi) (hlen : ds.length ≤ 60) (hd0 : ∀ d ∈ ds, 0 ≤ d) (hev : evalD (2 ^ n.toNat) ds < 2 ^ 60) :
    Ok w f [.int 0 t1, .int hi t2] 60 480 ((f, fnMade "inner" q inLit2.1 inLit2.2.1 inLit2.2.2 [("n", k1), ("inner", k3), ("digits", k2)] doc pm c' ctv) :: (k3, o3) :: (k1, o1) :: (k2, o2) :: (T ++ news))
      (fun r ne => ne = (f, fnMade "inner" q inLit2.1 inLit2.2.1 inLit2.2.2 [("n", k1), ("inner", k3), ("digits", k2)] doc pm c' ctv) :: (k3, o3) :: (k1, o1) :: (k2, o2) :: (T ++ news) ∧ ∃ t, r = .int (evalD (2 ^ n.toNat) ds) t) := by
  have h := inner2_ok w f k1 k2 k3 c' q n doc pm ctv hn hn1 60 ((f, fnMade "inner" q inLit2.1 inLit2.2.1 inLit2.2.2 [("n", k1), ("inner", k3), ("digits", k2)] doc pm c' ctv) :: (k3, o3) :: (k1, o1) :: (k2, o2) :: (T ++ news)) o1 o2 o3 oc vs' t' tn D us ds e 0 hi t1 t2
    (.head _) (.tail _ (.tail _ (.tail _ (.tail _ (List.mem_append_left _ mc))))) dc dq (.tail _ (.tail _ (.head _))) d1 (.tail _ (.tail _ (.tail _ (.head _)))) d2 (.tail _ (.head _)) d3 (.tail _ (.tail _ (.tail _ (.tail _ (List.mem_append_right _ mD)))))
    hI (Int.le_refl _) hl (Int.le_of_eq hh.symm) hlen hd0 hev (by omega)
  rw [slice_all hh] at h
  exact h
theorem d2i_ok : ∀ (w : World) (T news : Led) (n : Int) (tn : Tok) (D : Addr) (us : List Value) (ds : List Int) (e : Nat), 0 < n → n ≤ 60 → Tab 37 47 4 qD2I T → (∀ p ∈ news, p.1 ≠ 37) → (D, W.listOf us.toArray e) ∈ news → IntsAre us ds → ds.length ≤ 60 → (∀ d ∈ ds, 0 ≤ d) → evalD (2 ^ n.toNat) ds < 2 ^ 60 →
    Ok w 42 [.ref D, .int n tn] 100 800 (T ++ news) (fun r ne => ∃ t T', r = .int (evalD (2 ^ n.toNat) ds) t ∧ ne = T' ++ news ∧ Tab 37 47 4 qD2I T') := by
  k_with_none
  unfold Ok
  w_top off
  k_fill
  intro w T news n tn D us ds e hn hn1 hT hn37 mD hI hlen hd0 hev mean mg mb dp un gd cn cs a ccd cl outer A₀ base h₀ L m s Q E B F X N Tp hk hd hu hret
  k_with "exec FunctionDef" =>
    k_here
    k_dflt (refine' nestDef_K ?zd0 ?zk0 ?za0 ?_; (case zd0 => exact rfl); (case zk0 => exact rfl); (case za0 => exact rfl))
    rename Fr _ _ _ _ => lF
    rename News _ _ _ _ => lN
    k_dflt (refine' nestBoth (own := [_, _, _]) (T := T) (rest := news) (q := qD2I) lF lN ?zT ?zC ?zcd hT ?zq ?zown hn37 ?zlow ?zsep ?zcl ?_; (case zT => k_asm); (case zC => kn_code); (case zcd => exact rfl); (case zq => exact rfl); (case zcl => exact rfl))
    (case zown => (repeat' (first | exact List.forall_mem_nil _ | (refine List.forall_mem_cons.mpr ⟨?_, ?_⟩))); all_goals (refine neN ?_; (try dsimp only); omega))
    (case zlow => exact hT.at.imp fun o h => List.mem_append_left _ h)
    (case zsep => (intro p9 hp9; have h9 : @LT.lt Nat _ p9.1 _ := hnl p9 (List.mem_append_left _ hp9); (repeat' (first | exact List.forall_mem_nil _ | (refine List.forall_mem_cons.mpr ⟨?_, ?_⟩))); all_goals (refine ltN ?_; (try dsimp only); omega)))
    intro f1 c1 oc1 vs1 t1 ctv1 doc1 h1 tk1 T1 hT1 mc1 hd1 hv1 F1 N1 lo1 lt1 hsep1
    simp only [List.cons_append, List.nil_append] at N1
    simp only [List.forall_mem_cons, List.not_mem_nil, false_implies, implies_true, and_true] at lo1
    have hnl2 : ∀ p ∈ news, @LT.lt Nat _ p.1 _ := fun p hp => hnl p (List.mem_append_right _ hp)
    have hz1 := sep_of hsep1 hnl2 (List.Mem.head _) (by refine leN ?_; omega)
    (try k_sweep)
  k_with "truthy ref" =>
    k_here
    rename News _ _ _ _ => lN
    k_dflt (refine' truthy_ints_fit (PySem.IsL.isList (n := e) (lN (D, W.listOf us.toArray e) ?zqm).1) hI (by omega) ?_; (case zqm => exact List.mem_append_right [_, _, _, _] (List.mem_append_right _ mD)))
  k_with "call builtin:len" =>
    k_here
    rename News _ _ _ _ => lN
    k_dflt (refine' len_ints_fit (PySem.IsL.isList (n := e) (lN (D, W.listOf us.toArray e) ?zqm).1) hI (by omega) ?_; (case zqm => exact List.mem_append_right [_, _, _, _] (List.mem_append_right _ mD)))
  refine wpAny_call ?_
  k_dflt (refine' code_defC ?k1 ?k2 ?k3 ?k4 ?k5 ?kA ?kF ?kK ?k6 ?k7 ?k8 ?k9 ?kB ?kD ?_ ?c2 ?c3 ?c4; (case kA => exact rfl); (case kF => exact rfl); (case kK => assumption); (case k1 => k_asm); (case k2 => k_asm); (case k3 => k_asm); (case k4 => k_asm); (case k5 => k_asm); (case k6 => k_is); (case k7 => k_is); (case k8 => ktr_room); (case k9 => exact BindsTo.of_eq rfl); (case kB => exact rfl); (case kD => decide +kernel); (case c2 => exact rfl); (case c3 => exact rfl); (case c4 => exact rfl); k_whole; intro g' L' h' tk' cells' FG' F' N' Y' B' X' T' l1; k_cells Y'; (try simp only [List.cons_append, List.nil_append] at N'); (try dsimp only); (try k_fold))
  rename ∀ p ∈ T ++ news, _ => hnl
  rename Frag.In _ _ => X1
  have hL37 : @LT.lt Nat _ 37 _ := let ⟨o, ho⟩ := hT.at; hnl _ (List.mem_append_left _ ho)
  have hcd := codeHd_of_K (c := 41) (P := 37) X1 (by kernel_rfl)
  k_steps
  · rename News _ _ _ _ => lN
    refine' Ok.use (inner2_at hn hn1 mc1 hd1 hv1 ?zd1 ?zd2 ?zd3 mD hI ?zlt rfl hlen hd0 hev) ?zB ?zF ?zX lN ?zT ?zk ?zd ?zu ?_
    (case zd1 => assumption)
    (case zd2 => assumption)
    (case zd3 => assumption)
    (case zB => k_asm)
    (case zF => k_asm)
    (case zX => k_asm)
    (case zT => k_asm)
    (case zk => exact rfl)
    (case zd => ktr_room)
    (case zu => ktr_units)
    (case zlt => omega)
    intro r1 news1 h2 tk2 hR F2 N2
    obtain ⟨hne1, t9, hr1⟩ := hR
    subst hr1
    rw [hne1] at N2
    dsimp only
    k_steps
    exact hret _ _ _ _ ⟨_, T1, rfl, rfl, hT1⟩ (by assumption) (cb_drop (by assumption) fun p hp => List.mem_append_right [_, _, _, _] hp)
  · have hz : ds = [] := List.eq_nil_of_length_eq_zero (by omega)
    subst hz
    exact hret _ _ _ _ ⟨_, T1, rfl, rfl, hT1⟩ (by assumption) (cb_drop (by assumption) fun p hp => List.mem_append_right [_, _, _, _] hp)
end
-- LoopG
section
open PySem PySem.W PyProof.Rows PySem.Calls
/-- the end of a turn of a for: the new state, its ledger, the iterator as the turn found it -/
noncomputable def ForEnd {σ : Type} (h₀ : Heap) (L : Addr) (s₁ : Shared) (Led : σ → List (Addr × Obj)) (ps : σ → List (Str × Value)) (x : Str) (stored : List Str) (m₀ : Str → Option Value) (I : Addr) (it : Obj) (Inv : σ → Prop) (s₂ : Shared) : Prop :=
  ∃ (c' : σ) (h' : Heap) (tk : Nat) (m' : Str → Option Value) (news' : List (Addr × Obj)), s₂ = { s₁ with heap := h', toks := tk } ∧ Fr h₀ L h' m' ∧ News h₀ L h' news' ∧ (I, it) ∈ news' ∧ (∀ p ∈ Led c', p ∈ news') ∧ (∀ p ∈ Led c', p.1 ≠ I) ∧ (∀ p ∈ ps c', m' p.1 = some p.2) ∧ (∀ z, z ≠ x → (∀ p ∈ ps c', z ≠ p.1) → stored.contains z = false → m' z = m₀ z) ∧ Inv c'
noncomputable def ForPost {σ : Type} (h₀ : Heap) (L : Addr) (s₁ : Shared) (Led : σ → List (Addr × Obj)) (ps : σ → List (Str × Value)) (x : Str) (stored : List Str) (m₀ : Str → Option Value) (I : Addr) (it : Obj) (Inv : σ → Prop) (Q : Flow → Shared → Prop) (f : Flow) (s₂ : Shared) : Prop :=
  match f with
  | .ret v => Q (.ret v) s₂
  | .brk => Q .next s₂
  | _ => ForEnd h₀ L s₁ Led ps x stored m₀ I it Inv s₂
theorem ForEnd.intro {σ : Type} {h₀ : Heap} {L : Addr} {s₁ : Shared} {Led : σ → List (Addr × Obj)} {ps : σ → List (Str × Value)} {x : Str} {stored : List Str} {m₀ : Str → Option Value} {I : Addr} {it : Obj} {Inv : σ → Prop} {h' : Heap} {tk : Nat} {m' : Str → Option Value} {news' : List (Addr × Obj)} (c' : σ)
    (F : Fr h₀ L h' m') (N : News h₀ L h' news') (hI : (I, it) ∈ news') (hL : ∀ p ∈ Led c', p ∈ news') (ho : ∀ p ∈ Led c', p.1 ≠ I) (hp : ∀ p ∈ ps c', m' p.1 = some p.2) (hz : ∀ z, z ≠ x → (∀ p ∈ ps c', z ≠ p.1) → stored.contains z = false → m' z = m₀ z) (hInv : Inv c') :
    ForEnd h₀ L s₁ Led ps x stored m₀ I it Inv { s₁ with heap := h', toks := tk } := ⟨c', h', tk, m', news', rfl, F, N, hI, hL, ho, hp, hz, hInv⟩
section
variable {prog : Program} {w : World} {A : Around} {E : Value → Shared → Prop} {s : Shared} {env : Env} {h₀ : Heap} {x : Str} {body : List Stmt} {Q : Flow → Shared → Prop}
theorem forL {σ : Type} {I : Addr} {fp : List Addr} {n : Nat} {P : Nat → Value → Prop} {St : Nat → Heap → Prop} {m₀ : Str → Option Value} (W : Walks prog w A I fp [I] n P St)
    (Led : σ → List (Addr × Obj)) (ps : σ → List (Str × Value)) (stored : List Str) (Inv : Nat → σ → Prop) (c₀ : σ) (hI : h₀.get? I = none) (hfp : ∀ b ∈ fp, b = I ∨ ∃ o, ∀ c, (b, o) ∈ Led c) (hLI : env.locals ∉ fp) (hst : St 0 s.heap) (hlv : ∀ i h, St i h → ∃ o, h.get? I = some o)
    (F : Fr h₀ env.locals s.heap m₀) (N : News h₀ env.locals s.heap (Led c₀)) (hoff : ∀ p ∈ Led c₀, p.1 ≠ I) (hk : ∀ p ∈ ps c₀, m₀ p.1 = some p.2) (h0 : Inv 0 c₀)
    (turn : ∀ (i : Nat) (v : Value) (c : σ) (it : Obj) (u : Str → Option Value) (h : Heap) (tk : Nat), i < n → P i v → Inv i c → St (i + 1) h → (∀ p ∈ Led c, p.1 ≠ I) → Fr h₀ env.locals h (fun y => if y = x then some v else kstB (fun z => if stored.contains z then u z else m₀ z) (ps c) y) → News h₀ env.locals h ((I, it) :: Led c) →
      wpAny (model prog w) A (execs body env) (ForPost h₀ env.locals { s with heap := h, toks := tk } Led ps x stored m₀ I it (Inv (i + 1)) Q) E { s with heap := h, toks := tk })
    (done : ∀ (c : σ) (u : Str → Option Value) (h : Heap) (tk : Nat), Inv n c → Fr h₀ env.locals h (fun y => if y = x then u y else kstB (fun z => if stored.contains z then u z else m₀ z) (ps c) y) → News h₀ env.locals h (Led c) → Q .next { s with heap := h, toks := tk }) :
    LoopAtV prog w A h₀ env x body Q E (.ref I) s := by
  let J : Nat → (Str → Option Value) → List (Addr × Obj) → Prop := fun i m nx => ∃ c, nx = Led c ∧ (∀ p ∈ ps c, m p.1 = some p.2) ∧ (∀ z, z ≠ x → (∀ p ∈ ps c, z ≠ p.1) → stored.contains z = false → m z = m₀ z) ∧ Inv i c
  refine ⟨I, fp, [I], n, P, St, m₀, Led c₀, J, rfl, W, hLI, fun b hb => by rw [List.mem_singleton.mp hb]; exact hI, fun p hp hm => hoff p hp (List.mem_singleton.mp hm), hst, F, N, ⟨c₀, rfl, hk, fun _ _ _ _ => rfl, h0⟩, ?_, ?_⟩
  · rintro i v m₁ news₁ s₁ own ⟨h, tk, rfl⟩ hin hP ⟨c, rfl, h1, h2, hInv⟩ hoff₁ hsub hget hall hst₁ F₁ N₁
    have hIfp : I ∈ fp := W.sub I (List.mem_singleton.mpr rfl)
    have hoffc : ∀ p ∈ Led c, p.1 ≠ I := fun p hp e => hoff₁ p hp (List.mem_singleton.mpr e)
    obtain ⟨it, hit⟩ := hlv _ _ hst₁
    have hmI := hall I hIfp hI it hit
    have N₂ : News h₀ env.locals h ((I, it) :: Led c) := fun p hp => by
      rcases List.mem_cons.mp hp with rfl | hp
      · exact N₁ _ (List.mem_append_left _ hmI)
      · exact N₁ p (List.mem_append_right _ hp)
    have ownIn : ∀ p ∈ own, p = (I, it) ∨ ∀ c', p ∈ Led c' := fun p hp => by
      obtain ⟨b, ob⟩ := p
      rcases hfp b (hsub _ hp) with e | ⟨o, ho⟩
      · left
        have e : b = I := e
        have g := hget _ hp
        have g' : h.get? b = some ob := g
        rw [e, hit] at g'
        rw [e, Option.some.inj g']
      · right
        intro c'
        have g : h.get? b = some ob := hget _ hp
        have g2 := (N₁ _ (List.mem_append_right own (ho c))).1
        have g3 : h.get? b = some o := g2
        rw [g] at g3
        rw [Option.some.inj g3]
        exact ho c'
    refine wpAny_mono (turn i v c it m₁ h tk hin hP hInv hst₁ hoffc (kst_fr h1 h2 F₁) N₂) (fun f s₂ p => ?_) fun _ _ e => e
    have fin : ForEnd h₀ env.locals { s with heap := h, toks := tk } Led ps x stored m₀ I it (Inv (i + 1)) s₂ → LoopStepU h₀ env.locals [I] own (J (i + 1)) { s with heap := h, toks := tk } .next s₂ := by
      rintro ⟨c', h', tk', m', news', e, F', N', hI', hL', hoff', hps, hz, hInv'⟩
      refine ⟨rfl, h', tk', m', Led c', e, F', fun p hp => ?_, fun p hp hm => hoff' p hp (List.mem_singleton.mp hm), c', rfl, hps, hz, hInv'⟩
      rcases List.mem_append.mp hp with hp | hp
      · rcases ownIn p hp with e | e
        · rw [e]; exact N' _ hI'
        · exact N' _ (hL' p (e c'))
      · exact N' _ (hL' p hp)
    cases f with
    | ret v => exact .ret p
    | brk => exact .brk p
    | next => exact .next (fin p)
    | cont => exact .cont (fin p)
  · rintro h' tk m' news' F' N' _ ⟨c, rfl, h1, h2, hInv⟩
    exact done c m' h' tk hInv (kst_frOut h1 h2 F') N'
theorem forRange {σ : Type} {r : Addr} {a₀ b₀ : Int} {t₀ u₀ v₀ : Tok} {n : Nat} {m₀ : Str → Option Value} (Led : σ → List (Addr × Obj)) (ps : σ → List (Str × Value)) (stored : List Str) (Inv : Nat → σ → Prop) (c₀ : σ)
    (hh : A.handled = none) (hr : IsRange s.heap r a₀ b₀ 1 t₀ u₀ v₀) (hsmall : Builtin.Range.small a₀ b₀ 1 = true) (hn : Builtin.Range.rangeSize a₀ b₀ 1 = (n : Int))
    (F : Fr h₀ env.locals s.heap m₀) (N : News h₀ env.locals s.heap (Led c₀)) (hk : ∀ p ∈ ps c₀, m₀ p.1 = some p.2) (h0 : Inv 0 c₀)
    (turn : ∀ (i : Nat) (tok : Tok) (c : σ) (I : Addr) (it : Obj) (u : Str → Option Value) (h : Heap) (tk : Nat), i < n → Inv i c → it.cls = .type "range_iterator" → (∀ p ∈ Led c₀, @LT.lt Nat _ p.1 I) → (∀ p ∈ Led c, p.1 ≠ I) → Fr h₀ env.locals h (fun y => if y = x then some (.int (a₀ + (i : Int)) tok) else kstB (fun z => if stored.contains z then u z else m₀ z) (ps c) y) → News h₀ env.locals h ((I, it) :: Led c) →
      wpAny (model prog w) A (execs body env) (ForPost h₀ env.locals { s with heap := h, toks := tk } Led ps x stored m₀ I it (Inv (i + 1)) Q) E { s with heap := h, toks := tk })
    (done : ∀ (c : σ) (u : Str → Option Value) (h : Heap) (tk : Nat), Inv n c → Fr h₀ env.locals h (fun y => if y = x then u y else kstB (fun z => if stored.contains z then u z else m₀ z) (ps c) y) → News h₀ env.locals h (Led c) → Q .next { s with heap := h, toks := tk }) :
    wpAny (model prog w) A (pyIter (.ref r)) (fun it s₂ => LoopAtV prog w A h₀ env x body Q E it s₂) E s := by
  refine wpAny_pyIter_range hr hsmall ?_
  have W := Walks.range (prog := prog) (w := w) hh s.heap.objs.size a₀ 1 n
  have hlt : ∀ p ∈ Led c₀, @LT.lt Nat _ p.1 s.heap.objs.size := fun p hp => Heap.lt_size (N p hp).1
  refine forL (I := s.heap.objs.size) (s := { s with heap := s.heap.push _ }) W Led ps stored Inv c₀ (next_is_new F) (fun b hb => .inl (List.mem_singleton.mp hb)) (fun hm => ?_) ?_ (fun i h hs => ⟨_, hs⟩) (F.push _) (fun p hp => ⟨Heap.get?_push_of_some _ (N p hp).1, (N p hp).2⟩) (fun p hp => Nat.ne_of_lt (hlt p hp)) hk h0 ?_ ?_
  · exact absurd F.ns.lt ((List.mem_singleton.mp hm) ▸ Nat.lt_irrefl _)
  · show IsRangeIter _ _ (a₀ + ((0 : Nat) : Int) * 1) ((n : Int) - ((0 : Nat) : Int)) 1
    rw [hn]
    have e1 : a₀ + ((0 : Nat) : Int) * 1 = a₀ := by omega
    have e2 : (n : Int) - ((0 : Nat) : Int) = n := by omega
    rw [e1, e2]
    exact Heap.get?_push_size _ rfl
  · rintro i v c it u h tk hi ⟨tok, rfl⟩ hInv hst₁ hoff F₁ N₁
    have e1 : a₀ + (i : Int) * 1 = a₀ + (i : Int) := by omega
    rw [e1] at F₁
    have g := (N₁ _ (.head _)).1
    rw [show h.get? s.heap.objs.size = _ from hst₁] at g
    have hc : it.cls = .type "range_iterator" := congrArg Obj.cls (Option.some.inj g).symm
    exact turn i tok c s.heap.objs.size it u h tk hi hInv hc hlt hoff F₁ N₁
  · exact done
theorem forRev {σ : Type} {ax I : Addr} {lo : Obj} {vs : List Value} {n : Nat} {m₀ : Str → Option Value} (Led : σ → List (Addr × Obj)) (ps : σ → List (Str × Value)) (stored : List Str) (Inv : Nat → σ → Prop) (c₀ : σ)
    (hh : A.handled = none) (hm : ∀ c, (ax, lo) ∈ Led c) (hc : lo.cls = .type "list") (hd : lo.data = .seq vs.toArray n)
    (F : Fr h₀ env.locals s.heap m₀) (N : News h₀ env.locals s.heap ((I, revObj ax ((vs.length : Int) - 1)) :: Led c₀)) (hoff : ∀ p ∈ Led c₀, p.1 ≠ I) (hk : ∀ p ∈ ps c₀, m₀ p.1 = some p.2) (h0 : Inv 0 c₀)
    (turn : ∀ (i : Nat) (v : Value) (c : σ) (it : Obj) (u : Str → Option Value) (h : Heap) (tk : Nat), i < vs.length → vs[vs.length - 1 - i]? = some v → Inv i c → (∀ p ∈ Led c, p.1 ≠ I) → Fr h₀ env.locals h (fun y => if y = x then some v else kstB (fun z => if stored.contains z then u z else m₀ z) (ps c) y) → News h₀ env.locals h ((I, it) :: Led c) →
      wpAny (model prog w) A (execs body env) (ForPost h₀ env.locals { s with heap := h, toks := tk } Led ps x stored m₀ I it (Inv (i + 1)) Q) E { s with heap := h, toks := tk })
    (done : ∀ (c : σ) (u : Str → Option Value) (h : Heap) (tk : Nat), Inv vs.length c → Fr h₀ env.locals h (fun y => if y = x then u y else kstB (fun z => if stored.contains z then u z else m₀ z) (ps c) y) → News h₀ env.locals h (Led c) → Q .next { s with heap := h, toks := tk }) :
    wpAny (model prog w) A (pyIter (.ref I)) (fun it s₂ => LoopAtV prog w A h₀ env x body Q E it s₂) E s := by
  obtain ⟨gI, nI, zI⟩ := N _ (.head _)
  obtain ⟨ga, na, _⟩ := N _ (.tail _ (hm c₀))
  have W : Walks prog w A I [I, ax] [I] vs.toArray.size _ _ := .listRev hh I ax (hoff _ (hm c₀)) vs.toArray
  rw [List.size_toArray] at W
  refine wpAny_pyIter_revIter (i := (vs.length : Int) - 1) ⟨_, gI, rfl, rfl⟩ (forL W Led ps stored Inv c₀ zI ?_ ?_ ⟨Nat.zero_le _, ?_, lo, ga, hc, n, hd⟩ (fun _ _ st => st.2.1.imp fun _ q => q.1) F (fun p hp => N p (.tail _ hp)) hoff hk h0 ?_ done)
  · exact List.forall_mem_cons.mpr ⟨.inl rfl, List.forall_mem_cons.mpr ⟨.inr ⟨lo, hm⟩, fun _ q => nomatch q⟩⟩
  · simpa using And.intro nI.symm na.symm
  · exact (Int.sub_zero _).symm ▸ ⟨_, gI, rfl, rfl⟩
  · exact fun i v c it u h tk hi hP hInv _ hof F₁ N₁ => turn i v c it u h tk hi ((List.getElem?_toArray ..).symm.trans hP) hInv hof F₁ N₁
end
end
-- DivP
section
open PySem PySem.W PyProof.Rows PySem.Calls
theorem evalD_mem {b : Int} (hb : 1 ≤ b) : ∀ {ds : List Int}, (∀ d ∈ ds, 0 ≤ d) → ∀ d ∈ ds, d ≤ evalD b ds
  | [], _, _, h => nomatch h
  | x :: r, h0, d, h => by
    have hr := evalD_nonneg (show 0 ≤ b by omega) (fun d hd => h0 d (.tail _ hd) : ∀ d ∈ r, 0 ≤ d)
    have hm : evalD b r ≤ b * evalD b r := by
      have := Int.mul_le_mul_of_nonneg_right hb hr
      rwa [Int.one_mul] at this
    rw [evalD]
    rcases List.mem_cons.mp h with rfl | h
    · omega
    · have := evalD_mem hb (fun d hd => h0 d (.tail _ hd)) d h
      have := h0 x (.head _)
      omega
theorem bits_small {b : Int} (h0 : 0 < b) (h1 : b < 64) : 1 ≤ (Builtin.Int.intBits b : Int) ∧ (Builtin.Int.intBits b : Int) ≤ 6 := by
  refine ⟨bits_pos (by omega), ?_⟩
  have hx : b.natAbs ≠ 0 := by omega
  unfold Builtin.Int.intBits
  rw [if_neg (by simp; omega)]
  have := (Nat.log2_lt hx (k := 6)).mpr (by omega)
  omega
theorem pow_small {n : Int} (h0 : 1 ≤ n) (h1 : n ≤ 6) : (1 : Int) ≤ 2 ^ n.toNat ∧ (2 : Int) ^ n.toNat ≤ 64 := by
  have h : ∀ k : Nat, k < 7 → (1 : Int) ≤ 2 ^ k ∧ (2 : Int) ^ k ≤ 64 := by decide
  exact h n.toNat ((Int.toNat_lt (Int.le_trans (by decide) h0)).mpr (Int.lt_add_one_of_le h1))
/-- the state of the schoolbook division: rest, quotient's digits so far -/
structure DivSt where
  r : Int
  tr : Tok
  qs : List Int
  qv : List Value
  ep : Nat
noncomputable def DivInv (b B : Int) (ds : List Int) (i : Nat) (c : DivSt) : Prop :=
  IntsAre c.qv c.qs ∧ c.qs.length = i ∧ (∀ q ∈ c.qs, 0 ≤ q) ∧ 0 ≤ c.r ∧ c.r < b ∧ evalD B (ds.drop (ds.length - i)) = evalD B c.qs.reverse * b + c.r
theorem idx3 {a i : Nat} (h : i < a) : a - (i + 1) = a - 1 - i ∧ a - 1 - i + 1 = a - i := by omega
theorem DivInv.next {b B : Int} {ds : List Int} {i : Nat} {c : DivSt} {d q r' : Int} {tr t : Tok} {ep : Nat} (hb : 0 < b) (hB : 0 ≤ B) (h : DivInv b B ds i c) (hi : i < ds.length) (hd : ds[ds.length - 1 - i]? = some d) (hd0 : 0 ≤ d)
    (hq : q = Int.fdiv (c.r * B + d) b) (hr : r' = Int.fmod (c.r * B + d) b) : DivInv b B ds (i + 1) ⟨r', tr, c.qs ++ [q], c.qv ++ [.int q t], ep⟩ := by
  obtain ⟨h1, h2, h3, h4, h5, h6⟩ := h
  have hx : 0 ≤ c.r * B + d := Int.add_nonneg (Int.mul_nonneg h4 hB) hd0
  have e := Int.mul_fdiv_add_fmod (c.r * B + d) b
  rw [← hq, ← hr] at e
  refine ⟨IntsAre.append h1 (.cons _ _ .nil), by simp [h2], ?_, ?_, ?_, ?_⟩
  · intro y hy
    rcases List.mem_append.mp hy with hy | hy
    · exact h3 y hy
    · rw [List.mem_singleton.mp hy, hq]; exact Int.fdiv_nonneg hx (Int.le_of_lt hb)
  · rw [hr]; exact Int.fmod_nonneg_of_pos _ hb
  · rw [hr]; exact Int.fmod_lt_of_pos _ hb
  · obtain ⟨e1, e2⟩ := idx3 hi
    have hlt : ds.length - 1 - i < ds.length := Nat.sub_one_sub_lt_of_lt hi
    have e3 : ds[ds.length - 1 - i] = d := Option.some.inj ((List.getElem?_eq_getElem hlt).symm.trans hd)
    rw [e1, List.drop_eq_getElem_cons hlt, e2, e3]
    show d + B * evalD B (ds.drop (ds.length - i)) = _
    rw [h6, List.reverse_append]
    show _ = (q + B * evalD B c.qs.reverse) * b + r'
    rw [Int.mul_add, Int.add_mul, Int.mul_comm q b, Int.mul_assoc B, Int.mul_comm B c.r]
    omega
section
variable {prog : Program} {w : World} {A : Around} {E : Value → Shared → Prop} {s : Shared} {env : Env} {h₀ : Heap} {body : List Stmt} {Q : Flow → Shared → Prop}
theorem divLoop {D I Ql : Addr} {us : List Value} {ds : List Int} {e : Nat} {m₀ : Str → Option Value} {rest : Led} {tr : Tok} (b B : Int) (hb : 0 < b)
    (hh : A.handled = none) (hI : IntsAre us ds) (F : Fr h₀ env.locals s.heap m₀)
    (N : News h₀ env.locals s.heap ((I, revObj D ((us.length : Int) - 1)) :: (Ql, W.listOf #[] 0) :: (D, W.listOf us.toArray e) :: rest))
    (hoff : ∀ p ∈ rest, p.1 ≠ I) (hoff1 : Ql ≠ I) (hoff2 : D ≠ I) (hr0 : m₀ (Str.ofString "r") = some (.int 0 tr))
    (turn : ∀ (i : Nat) (d : Int) (t : Tok) (c : DivSt) (it : Obj) (u : Str → Option Value) (h : Heap) (tk : Nat), i < ds.length → ds[ds.length - 1 - i]? = some d → DivInv b B ds i c → (∀ p ∈ (Ql, W.listOf c.qv.toArray c.ep) :: (D, W.listOf us.toArray e) :: rest, p.1 ≠ I) →
      Fr h₀ env.locals h (fun y => if y = Str.ofString "a_digit" then some (.int d t) else if y = Str.ofString "r" then some (.int c.r c.tr) else if y = Str.ofString "q_digit" then u y else m₀ y) → News h₀ env.locals h ((I, it) :: (Ql, W.listOf c.qv.toArray c.ep) :: (D, W.listOf us.toArray e) :: rest) →
      wpAny (model prog w) A (execs body env) (ForPost h₀ env.locals { s with heap := h, toks := tk } (fun c : DivSt => (Ql, W.listOf c.qv.toArray c.ep) :: (D, W.listOf us.toArray e) :: rest) (fun c => [(Str.ofString "r", .int c.r c.tr)]) (Str.ofString "a_digit") [Str.ofString "q_digit"] m₀ I it (DivInv b B ds (i + 1)) Q) E { s with heap := h, toks := tk })
    (done : ∀ (c : DivSt) (u : Str → Option Value) (h : Heap) (tk : Nat), DivInv b B ds ds.length c →
      Fr h₀ env.locals h (fun y => if y = Str.ofString "a_digit" then u y else if y = Str.ofString "r" then some (.int c.r c.tr) else if y = Str.ofString "q_digit" then u y else m₀ y) → News h₀ env.locals h ((Ql, W.listOf c.qv.toArray c.ep) :: (D, W.listOf us.toArray e) :: rest) → Q .next { s with heap := h, toks := tk }) :
    wpAny (model prog w) A (pyIter (.ref I)) (fun it s₂ => LoopAtV prog w A h₀ env (Str.ofString "a_digit") body Q E it s₂) E s := by
  have fr : ∀ {v : Option Value} {u : Str → Option Value} {c : DivSt}, (fun y => if y = Str.ofString "a_digit" then v else kstB (fun z => if ([Str.ofString "q_digit"] : List Str).contains z then u z else m₀ z) [(Str.ofString "r", Value.int c.r c.tr)] y) = (fun y => if y = Str.ofString "a_digit" then v else if y = Str.ofString "r" then some (.int c.r c.tr) else if y = Str.ofString "q_digit" then u y else m₀ y) := by
    intro v u c
    funext y
    simp [kstB]
  have fr' : ∀ {u : Str → Option Value} {c : DivSt}, (fun y => if y = Str.ofString "a_digit" then u y else kstB (fun z => if ([Str.ofString "q_digit"] : List Str).contains z then u z else m₀ z) [(Str.ofString "r", Value.int c.r c.tr)] y) = (fun y => if y = Str.ofString "a_digit" then u y else if y = Str.ofString "r" then some (.int c.r c.tr) else if y = Str.ofString "q_digit" then u y else m₀ y) := by
    intro u c
    funext y
    simp [kstB]
  have hl := hI.length
  refine forRev (fun c : DivSt => (Ql, W.listOf c.qv.toArray c.ep) :: (D, W.listOf us.toArray e) :: rest) (fun c => [(Str.ofString "r", .int c.r c.tr)]) [Str.ofString "q_digit"] (DivInv b B ds) ⟨0, tr, [], [], 0⟩ hh (fun c => .tail _ (.head _)) rfl rfl F N (List.forall_mem_cons.mpr ⟨hoff1, List.forall_mem_cons.mpr ⟨hoff2, hoff⟩⟩) (List.forall_mem_cons.mpr ⟨hr0, List.forall_mem_nil _⟩) ?_ ?_ ?_
  · refine ⟨.nil, rfl, (fun _ h => (nomatch h) : ∀ q ∈ ([] : List Int), 0 ≤ q), Int.le_refl _, hb, ?_⟩
    rw [Nat.sub_zero, List.drop_length]
    simp [evalD]
  · intro i v c it u h tk hi hv hInv hof F₁ N₁
    rw [hl] at hi hv
    have hlt : ds.length - 1 - i < ds.length := by omega
    obtain ⟨t, ht⟩ := hI.get (ds.length - 1 - i) _ (List.getElem?_eq_getElem hlt)
    rw [ht] at hv
    have hv := (Option.some.inj hv).symm
    subst hv
    rw [fr] at F₁
    exact turn i _ t c it u h tk hi (List.getElem?_eq_getElem hlt) hInv hof F₁ N₁
  · intro c u h tk hInv F₁ N₁
    rw [fr'] at F₁
    rw [hl] at hInv
    exact done c u h tk hInv F₁ N₁
end
theorem IntsAre.reverse {vs : List Value} {ns : List Int} (h : IntsAre vs ns) : IntsAre vs.reverse ns.reverse := by
  induction h with
  | nil => exact .nil
  | cons i t _ ih =>
    rw [List.reverse_cons, List.reverse_cons]
    exact IntsAre.append ih (.cons _ _ .nil)
theorem perm1 {h₀ h : Heap} {L : Addr} {p q : Addr × Obj} {A B news : Led} (N : News h₀ L h (p :: q :: (A ++ (B ++ news)))) : News h₀ L h (B ++ (p :: q :: (A ++ news))) := fun r hr => N r (by
  rcases List.mem_append.mp hr with hr | hr
  · exact .tail _ (.tail _ (List.mem_append_right _ (List.mem_append_left _ hr)))
  · rcases List.mem_cons.mp hr with rfl | hr
    · exact .head _
    · rcases List.mem_cons.mp hr with rfl | hr
      · exact .tail _ (.head _)
      · rcases List.mem_append.mp hr with hr | hr
        · exact .tail _ (.tail _ (List.mem_append_left _ hr))
        · exact .tail _ (.tail _ (List.mem_append_right _ (List.mem_append_right _ hr))))
theorem perm2 {p q r : Addr × Obj} {A B news : Led} (hr : r ∈ A ++ (B ++ news)) : r ∈ B ++ (p :: q :: (A ++ news)) := by
  rcases List.mem_append.mp hr with hr | hr
  · exact List.mem_append_right _ (.tail _ (.tail _ (List.mem_append_left _ hr)))
  · rcases List.mem_append.mp hr with hr | hr
    · exact List.mem_append_left _ hr
    · exact List.mem_append_right _ (.tail _ (.tail _ (List.mem_append_right _ hr)))
theorem divmod_pos_ok : ∀ (w : World) (A B news : Led) (x b : Int) (tx tb : Tok), 0 ≤ x → x < 2 ^ 40 → 0 < b → b < 64 → Tab 30 32 4 qI2D A → Tab 37 47 4 qD2I B → (∀ p ∈ news, p.1 ≠ 30) → (∀ p ∈ news, p.1 ≠ 37) →
    Ok w 49 [.int x tx, .int b tb] 200 1600 (A ++ (B ++ news)) (fun r ne => ∃ D t1 t2 A' B', r = .ref D ∧ ne = (D, tup2 (Int.fdiv x b) (Int.fmod x b) t1 t2) :: (A' ++ (B' ++ news)) ∧ Tab 30 32 4 qI2D A' ∧ Tab 37 47 4 qD2I B' ∧ AllLt D (A' ++ (B' ++ news))) := by
  k_with_none
  unfold Ok
  w_top off
  k_fill
  intro w TA TB news x b tx tb hx0 hx1 hb hb1 hA hB hn30 hn37 mean mg mb dp un gd cn cs a ccd cl outer A₀ base h₀ L m s Q E Bw F X N Tp hk hd hu hret
  have hbs := bits_small hb hb1
  have hps := pow_small hbs.1 hbs.2
  have h37 : ∃ o, (37, o) ∈ TB ++ news := hB.at.imp fun o h => List.mem_append_left _ h
  have hn30' : ∀ p ∈ TB ++ news, p.1 ≠ 30 := fun p hp => (List.mem_append.mp hp).elim (hB.off 30 (by decide) (by decide) p) (hn30 p)
  k_with "call ref" =>
    k_here
    (with_reducible show wpAny _ _ (call (Value.ref 35) _) _ _ _)
    k_dflt (refine' Ok.use (i2d_ok w TA (TB ++ news) x _ _ _ hx0 (by omega) hbs.1 (by omega) hA (hA.off 37 (by decide) (by decide)) h37 hn30') ?zqB ?zqF ?zqX ?zqN ?zqT ?zqk ?zqd ?zqu ?_; (case zqB => k_asm); (case zqF => k_asm); (case zqX => k_asm); (case zqN => k_asm); (case zqT => k_asm); (case zqk => exact rfl); (case zqd => first | exact zA hd rfl | exact zB hd rfl | ktr_room); (case zqu => first | exact zA hu rfl | exact zB hu rfl | ktr_units))
    intro r1 ne1 h1 tk1 hR F1 N1
    obtain ⟨D, us, ds, e, TA1, hr1, hne1, hA1, _, hI1, hev, hdr, hln, hzD, hD37⟩ := hR
    subst hr1
    rw [hne1] at N1
    clear hne1
    have hD37 := ltN hD37
    (try dsimp only)
    (try k_fold)
    (try k_sweep)
  k_with "pyIter ref" =>
    k_here
    rename Fr _ _ _ _ => lF
    rename News _ _ _ _ => lN
    k_dflt (refine' divLoop b (2 ^ (Int.toNat (Builtin.Int.intBits b))) hb ?zqh hI1 lF lN ?zq1 ?zq2 ?zq3 ?zq4 ?_ ?_; (case zqh => rfl); (case zq4 => rfl); (case zq1 => k_all); (case zq2 => k_ne); (case zq3 => k_ne))
    intro i d t c it u h tk hi hd hInv hof F1 N1
    obtain ⟨hIq, hql, hq0, hr0, hrb, hev1⟩ := id hInv
    have hdm := evalD_mem hps.1 (fun d hd => (hdr d hd).1) d (List.mem_of_getElem? hd)
    rw [hev] at hdm
    have hd0 := (hdr d (List.mem_of_getElem? hd)).1
    have hrp0 := Int.mul_nonneg hr0 (Int.le_trans (by decide) hps.1)
    have hrp1 := Int.mul_le_mul (show c.r ≤ 64 by omega) hps.2 (Int.le_trans (by decide) hps.1) (by decide)
    rotate_left
    intro c u h tk hInv F1 N1
    obtain ⟨hIq, hql, hq0, hr0, hrb, hev1⟩ := id hInv
    rw [Nat.sub_self, List.drop_zero, hev] at hev1
    have hQr : ∀ q ∈ c.qs.reverse, 0 ≤ q := fun d hd => hq0 d (List.mem_reverse.mp hd)
    have hQ0 := evalD_nonneg (Int.le_trans (by decide) hps.1) hQr
    have hQ1 := Int.mul_le_mul_of_nonneg_left (show (1 : Int) ≤ b from hb) hQ0
    rw [Int.mul_one] at hQ1
    rotate_right
  k_with "call builtin:list.reverse" =>
    k_here
    rename Fr _ _ _ _ => lF
    rename News _ _ _ _ => lN
    k_dflt (refine' kl_reverse (its := c.qv.toArray) (l := c.qv.reverse) lF lN ?zq1 ?zq2 ?zq3 ?_; (case zq1 => rfl); (case zq2 => k_upd); (case zq3 => ((show c.qv.length ≤ 16777216); have h9 := hIq.length; omega)))
    intro h' F' N'
    (try k_sweep)
  k_with "call ref" =>
    k_here
    (with_reducible show wpAny _ _ (call (Value.ref 42) _) _ _ _)
    rename News _ _ _ _ => lN
    have hIr := IntsAre.reverse hIq
    k_dflt (refine' Ok.use (d2i_ok w TB _ (Builtin.Int.intBits b) _ _ _ (c.qs.reverse) _ hbs.1 (by omega) hB ?zq37 (List.Mem.head _) hIr ?zql ?zq0 ?zqe) ?zqB ?zqF ?zqX (perm1 lN) ?zqT ?zqk ?zqd ?zqu ?_; (case zqB => k_asm); (case zqF => k_asm); (case zqX => k_asm); (case zqT => k_asm); (case zqk => exact rfl); (case zqd => first | exact zA hd rfl | exact zB hd rfl | ktr_room); (case zqu => first | exact zA hu rfl | exact zB hu rfl | ktr_units))
    (case zq37 => exact List.forall_mem_cons.mpr ⟨by refine neN ?_; (try dsimp only); omega, List.forall_mem_cons.mpr ⟨by refine neN ?_; (try dsimp only); omega, fun p hp => (List.mem_append.mp hp).elim (hA1.off 37 (by decide) (by decide) p) (hn37 p)⟩⟩)
    (case zql => (rw [List.length_reverse, hql]; exact hln))
    (case zq0 => exact hQr)
    (case zqe => omega)
    intro r1 ne1 h1 tk1 hR F1 N1
    obtain ⟨tq, TB1, hr1, hne1, hB1⟩ := hR
    subst hr1
    rw [hne1] at N1
    clear hne1
    (try dsimp only)
    (try k_fold)
    (try k_sweep)
  k_with "call ref" =>
    k_here
    (with_reducible show wpAny _ _ (call (Value.ref 21) _) _ _ _)
    k_dflt (refine' Ok.use (div2n1n_ok w _ (c.r * 2 ^ (Int.toNat (Builtin.Int.intBits b)) + d) b (Builtin.Int.intBits b) _ _ _ (by omega) (by omega) hb (by omega) (by omega)) ?zqB ?zqF ?zqX ?zqN ?zqT ?zqk ?zqd ?zqu ?_; (case zqB => k_asm); (case zqF => k_asm); (case zqX => k_asm); (case zqN => k_asm); (case zqT => k_asm); (case zqk => exact rfl); (case zqd => first | exact zA hd rfl | exact zB hd rfl | ktr_room); (case zqu => first | exact zA hu rfl | exact zB hu rfl | ktr_units))
    intro r1 ne1 h1 tk1 hR F1 N1
    obtain ⟨D2, td1, td2, hr1, hne1, hlt2⟩ := hR
    subst hr1
    rw [hne1] at N1
    clear hne1
    simp only [AllLt, and_true] at hlt2
    (try dsimp only)
    (try k_fold)
    (try k_sweep)
  refine wpAny_call ?_
  k_dflt ktr_enter
  k_steps
  · dsimp only [ForPost]
    rename Fr _ _ _ _ => fF
    rename News _ _ _ _ => fN
    (try simp only [List.push_toArray] at fN)
    refine ForEnd.intro ⟨_, td2, c.qs ++ [_], c.qv ++ [.int _ td1], c.ep + 1⟩ fF fN (by k_memK) ?_ ?_ ?_ ?_ (DivInv.next hb (Int.le_trans (by decide) hps.1) hInv hi hd hd0 rfl rfl)
    · intro p hp
      dsimp only at hp
      exact List.mem_append_right [_, _] hp
    · exact List.forall_mem_cons.mpr ⟨(List.forall_mem_cons.mp hof).1, (List.forall_mem_cons.mp hof).2⟩
    · kst_all
    · intro z h1 h2 h3
      simp only [List.forall_mem_cons, List.not_mem_nil, false_implies, implies_true, and_true, ne_eq] at h2
      simp only [List.contains_cons, List.contains_nil, Bool.or_false, beq_eq_false_iff_ne, ne_eq] at h3
      simp [h1, h2, h3]
  · have hu2 := (Int.fdiv_fmod_unique (a := x) (r := c.r) (q := evalD (2 ^ (Int.toNat (Builtin.Int.intBits b))) c.qs.reverse) hb).mpr ⟨by rw [hev1, Int.mul_comm]; omega, hr0, hrb⟩
    rename AllLt _ (_ ++ (_ :: _)) => hlD0
    have hlD := tb_ltOf hlD0
    refine hret _ _ _ _ ⟨_, tq, c.tr, TA1, TB1, rfl, rfl, hA1, hB1, allLt_of fun p hp => hlD p (perm2 hp)⟩ (by assumption) (cb_drop (by assumption) fun p hp => ?_)
    rcases List.mem_cons.mp hp with rfl | hp
    · rw [hu2.1, hu2.2]
      exact List.Mem.head _
    · exact List.Mem.tail _ (perm2 hp)
end
-- IDiv
section
open PySem PySem.W PyProof.Rows PySem.Calls
theorem idiv_pos_ok : ∀ (w : World) (TA TB news : Led) (x b : Int) (tx tb : Tok), 0 ≤ x → x < 2 ^ 40 → 0 < b → b < 64 → Tab 30 32 4 qI2D TA → Tab 37 47 4 qD2I TB → (∀ p ∈ news, p.1 ≠ 30) → (∀ p ∈ news, p.1 ≠ 37) →
    Ok w 56 [.int x tx, .int b tb] 210 1700 (TA ++ (TB ++ news)) (fun r ne => ∃ D t1 t2 A' B', r = .ref D ∧ ne = (D, tup2 (Int.fdiv x b) (Int.fmod x b) t1 t2) :: (A' ++ (B' ++ news)) ∧ Tab 30 32 4 qI2D A' ∧ Tab 37 47 4 qD2I B' ∧ AllLt D (A' ++ (B' ++ news))) := by
  k_with_none
  unfold Ok
  w_top off
  k_fill
  intro w TA TB news x b tx tb hx0 hx1 hb hb1 hA hB hn30 hn37 mean mg mb dp un gd cn cs a ccd cl outer A₀ base h₀ L m s Q E Bw F X N Tp hk hd hu hret
  k_with "call ref" =>
    k_here
    (with_reducible show wpAny _ _ (call (Value.ref 49) _) _ _ _)
    k_dflt (refine' Ok.use (divmod_pos_ok w TA TB news x b _ _ hx0 hx1 hb hb1 hA hB hn30 hn37) ?zqB ?zqF ?zqX ?zqN ?zqT ?zqk ?zqd ?zqu ?_; (case zqB => k_asm); (case zqF => k_asm); (case zqX => k_asm); (case zqN => k_asm); (case zqT => k_asm); (case zqk => exact rfl); (case zqd => first | exact zA hd rfl | exact zB hd rfl | ktr_room); (case zqu => first | exact zA hu rfl | exact zB hu rfl | ktr_units))
    intro r1 ne1 h1 tk1 hR F1 N1
    (try dsimp only)
    (try k_fold)
    (try k_sweep)
  refine wpAny_call ?_
  k_dflt ktr_enter
  k_steps
  exact hret _ _ _ _ (by assumption) (by assumption) (by assumption)
end
-- IDivN
section
open PySem PySem.W PyProof.Rows PySem.Calls
theorem fdiv_neg {x b q r : Int} (hb : 0 < b) (hq : q = Int.fdiv (-x - 1) b) (hr : r = Int.fmod (-x - 1) b) : -q - 1 = Int.fdiv x b ∧ b + (-r - 1) = Int.fmod x b := by
  have e := Int.mul_fdiv_add_fmod (-x - 1) b
  have a1 := Int.fmod_lt_of_pos (-x - 1) hb
  have a2 := Int.fmod_nonneg_of_pos (-x - 1) hb
  rw [← hq, ← hr] at e
  rw [← hr] at a1 a2
  have h := (Int.fdiv_fmod_unique (a := x) (r := b + (-r - 1)) (q := -q - 1) hb).mpr ⟨by
    rw [Int.mul_sub, Int.mul_neg, Int.mul_one]; omega, by omega, by omega⟩
  exact ⟨h.1.symm, h.2.symm⟩
theorem endN {h₀ h : Heap} {L D : Addr} {p : Addr × Obj} {X : Led} {q r q' r' : Int} {t1 t2 : Tok} (hv : q' = q ∧ r' = r) (N : News h₀ L h ((D, tup2 q' r' t1 t2) :: p :: X)) : News h₀ L h ((D, tup2 q r t1 t2) :: X) := by
  rw [← hv.1, ← hv.2]
  exact cb_drop N fun x hx => (List.mem_cons.mp hx).elim (fun e => e ▸ .head _) fun hx => .tail _ (.tail _ hx)
theorem idiv_ok : ∀ (w : World) (TA TB news : Led) (x b : Int) (tx tb : Tok), -(2 ^ 40) < x → x < 2 ^ 40 → 0 < b → b < 64 → Tab 30 32 4 qI2D TA → Tab 37 47 4 qD2I TB → (∀ p ∈ news, p.1 ≠ 30) → (∀ p ∈ news, p.1 ≠ 37) →
    Ok w 56 [.int x tx, .int b tb] 220 1800 (TA ++ (TB ++ news)) (fun r ne => ∃ D t1 t2 A' B', r = .ref D ∧ ne = (D, tup2 (Int.fdiv x b) (Int.fmod x b) t1 t2) :: (A' ++ (B' ++ news)) ∧ Tab 30 32 4 qI2D A' ∧ Tab 37 47 4 qD2I B' ∧ AllLt D (A' ++ (B' ++ news))) := by
  intro w TA TB news x b tx tb hx0 hx1 hb hb1 hA hB hn30 hn37
  by_cases hneg : x < 0
  · revert hneg hn37 hn30 hB hA hb1 hb hx1 hx0 tb tx b x news TB TA w
    k_with_none
    unfold Ok
    w_top off
    k_fill
    intro w TA TB news x b tx tb hx0 hx1 hb hb1 hA hB hn30 hn37 hneg mean mg mb dp un gd cn cs a ccd cl outer A₀ base h₀ L m s Q E Bw F X N Tp hk hd hu hret
    k_with "call ref" =>
      k_here
      (with_reducible show wpAny _ _ (call (Value.ref 56) _) _ _ _)
      k_dflt (refine' Ok.use (idiv_pos_ok w TA TB news _ b _ _ ?zq0 ?zq1 hb hb1 hA hB hn30 hn37) ?zqB ?zqF ?zqX ?zqN ?zqT ?zqk ?zqd ?zqu ?_; (case zqB => k_asm); (case zqF => k_asm); (case zqX => k_asm); (case zqN => k_asm); (case zqT => k_asm); (case zqk => exact rfl); (case zqd => first | exact zA hd rfl | exact zB hd rfl | ktr_room); (case zqu => first | exact zA hu rfl | exact zB hu rfl | ktr_units); (case zq0 => (show (0 : Int) ≤ -x - 1; omega)); (case zq1 => (show -x - 1 < (2 : Int) ^ 40; omega)))
      intro r1 ne1 h1 tk1 hR F1 N1
      obtain ⟨D2, td1, td2, TA1, TB1, hr1, hne1, hA1, hB1, hlt2⟩ := hR
      subst hr1
      rw [hne1] at N1
      clear hne1
      (try dsimp only)
      (try k_fold)
      (try k_sweep)
    refine wpAny_call ?_
    k_dflt ktr_enter
    k_steps
    have hv := fdiv_neg (x := x) hb rfl rfl
    rename AllLt _ (TA1 ++ (TB1 ++ news)) => hlD
    rename News _ _ _ _ => kN
    exact hret _ _ _ _ ⟨_, _, _, TA1, TB1, rfl, rfl, hA1, hB1, hlD⟩ (by assumption) (endN hv kN)
  · intro mean mg mb dp un gd cn cs a ccd cl outer A₀ base h₀ L m s Q E Bw F X N Tp hk hd hu hret
    exact idiv_pos_ok w TA TB news x b tx tb (by omega) hx1 hb hb1 hA hB hn30 hn37 mean mg mb dp un gd cn cs a ccd cl outer A₀ base h₀ L m s Q E Bw F X N Tp hk (by omega) (by omega) hret
end
-- RedA
section
open PySem PySem.W PyProof.Rows PySem.Calls
noncomputable def small (x : Int) : Bool := decide (-1048576 < x) && decide (x < 1048576)
theorem small_iff {x : Int} (h : small x = true) : -1048576 < x ∧ x < 1048576 := by
  have h := Bool.and_eq_true_iff.mp h
  exact ⟨of_decide_eq_true h.1, of_decide_eq_true h.2⟩
/-- the reduction of a form, by so many turns at most -/
noncomputable def redF : Nat → Int → Int → Int → Option (Int × Int × Int)
  | 0, _, _, _ => none
  | n + 1, a, b, c =>
    if (decide (0 < a) && decide (a < 32) && small b && small c) = true then
      let q := Int.fdiv (b + a - 1) (2 * a)
      let r := Int.fmod (b + a - 1) (2 * a)
      let c' := c - Int.fdiv (q * (b + r - a + 1)) 2
      let b' := r - a + 1
      if a < c' ∨ (a = c' ∧ b' ≥ 0) then some (a, b', c') else redF n c' (-b') a
    else none
theorem redF_succ {n : Nat} {a b c : Int} {v : Int × Int × Int} (h : redF (n + 1) a b c = some v) : 0 < a ∧ a < 32 ∧ (-1048576 < b ∧ b < 1048576) ∧ (-1048576 < c ∧ c < 1048576) ∧
    (if a < c - Int.fdiv (Int.fdiv (b + a - 1) (2 * a) * (b + Int.fmod (b + a - 1) (2 * a) - a + 1)) 2 ∨ (a = c - Int.fdiv (Int.fdiv (b + a - 1) (2 * a) * (b + Int.fmod (b + a - 1) (2 * a) - a + 1)) 2 ∧ Int.fmod (b + a - 1) (2 * a) - a + 1 ≥ 0) then some (a, Int.fmod (b + a - 1) (2 * a) - a + 1, c - Int.fdiv (Int.fdiv (b + a - 1) (2 * a) * (b + Int.fmod (b + a - 1) (2 * a) - a + 1)) 2) else redF n (c - Int.fdiv (Int.fdiv (b + a - 1) (2 * a) * (b + Int.fmod (b + a - 1) (2 * a) - a + 1)) 2) (-(Int.fmod (b + a - 1) (2 * a) - a + 1)) a) = some v := by
  rw [redF] at h
  split at h
  · rename_i hg
    simp only [Bool.and_eq_true, decide_eq_true_eq] at hg
    exact ⟨hg.1.1.1, hg.1.1.2, small_iff hg.1.2, small_iff hg.2, h⟩
  · cases h
theorem fdiv_bound {x b : Int} (h0 : -4194304 < x) (h1 : x < 4194304) (hb : 0 < b) : (-4194304 < Int.fdiv x b ∧ Int.fdiv x b < 4194304) ∧ 0 ≤ Int.fmod x b ∧ Int.fmod x b < b := by
  have a1 := Int.fmod_lt_of_pos x hb
  have a2 := Int.fmod_nonneg_of_pos x hb
  refine ⟨?_, a2, a1⟩
  have e := Int.mul_fdiv_add_fmod x b
  have e2 := Int.mul_add b (Int.fdiv x b) 1
  rw [Int.mul_one] at e2
  constructor
  · apply Int.not_le.mp
    intro hq
    have := Int.mul_le_mul_of_nonpos_right (show (1 : Int) ≤ b from hb) (show Int.fdiv x b + 1 ≤ 0 by omega)
    omega
  · apply Int.not_le.mp
    intro hq
    have := Int.mul_le_mul_of_nonneg_right (show (1 : Int) ≤ b from hb) (show 0 ≤ Int.fdiv x b by omega)
    omega
structure RedSt where
  n : Nat
  a : Int
  b : Int
  c : Int
  ta : Tok
  tb : Tok
  tc : Tok
  TA : Led
  TB : Led
noncomputable abbrev tup3 (a b c : Int) (t1 t2 t3 : Tok) : Obj := { cls := .type "tuple", data := .seq #[.int a t1, .int b t2, .int c t3] }
theorem red_ok : ∀ (w : World) (TA TB news : Led) (n : Nat) (a b c x y z : Int) (ta tb tc : Tok), redF n a b c = some (x, y, z) → Tab 30 32 4 qI2D TA → Tab 37 47 4 qD2I TB → (∀ p ∈ news, p.1 ≠ 30) → (∀ p ∈ news, p.1 ≠ 37) →
    Ok w 126 [.int a ta, .int b tb, .int c tc] 230 1900 (TA ++ (TB ++ news)) (fun r ne => ∃ D t1 t2 t3 A' B', r = .ref D ∧ ne = (D, tup3 x y z t1 t2 t3) :: (A' ++ (B' ++ news)) ∧ Tab 30 32 4 qI2D A' ∧ Tab 37 47 4 qD2I B' ∧ AllLt D (A' ++ (B' ++ news))) := by
  k_with_none
  unfold Ok
  w_top off
  k_fill
  intro w TA TB news n fa fb fc x y z ta tb tc hf hA hB hn30 hn37 mean mg mb dp un gd cn cs a ccd cl outer A₀ base h₀ L m s Q E Bw F X N Tp hk hd hu hret
  k_with "exec While" =>
    k_here
    rename Fr _ _ _ _ => lF'
    rename News _ _ _ _ => lN'
    with_unfolding_all refine' ksw_while (σ := RedSt) (fun c => c.TA ++ (c.TB ++ news)) (fun c => [(Str.ofString "a", .int c.a c.ta), (Str.ofString "b", .int c.b c.tb), (Str.ofString "c", .int c.c c.tc)]) (fun c => Tab 30 32 4 qI2D c.TA ∧ Tab 37 47 4 qD2I c.TB) [Str.ofString "q", Str.ofString "r"] (fun c => redF c.n c.a c.b c.c = some (x, y, z)) (fun c => c.n) ⟨n, fa, fb, fc, ta, tb, tc, TA, TB⟩ lF' lN' ⟨hA, hB⟩ ?zk hf ?_
    case zk => exact List.forall_mem_cons.mpr ⟨rfl, List.forall_mem_cons.mpr ⟨rfl, List.forall_mem_cons.mpr ⟨rfl, List.forall_mem_nil _⟩⟩⟩
    intro c u h tk hT hp lF lN
    obtain ⟨cn, ca, cb, cc, cta, ctb, ctc, CA, CB⟩ := c
    dsimp only [kstB] at lF hT hp lN
    obtain ⟨hA1, hB1⟩ := hT
    have hcn : cn ≠ 0 := by
      intro e
      rw [e, redF] at hp
      cases hp
    obtain ⟨k, rfl⟩ := Nat.exists_eq_succ_of_ne_zero hcn
    obtain ⟨g1, g2, g3, g4, hp⟩ := redF_succ hp
    have hqr := fdiv_bound (x := cb + ca - 1) (b := 2 * ca) (by omega) (by omega) (by omega)
  k_with "call ref" =>
    k_here
    (with_reducible show wpAny _ _ (call (Value.ref 56) _) _ _ _)
    k_dflt (refine' Ok.use (idiv_ok w CA CB news (cb + ca - 1) (2 * ca) _ _ (by omega) (by omega) (by omega) (by omega) hA1 hB1 hn30 hn37) ?zqB ?zqF ?zqX ?zqN ?zqT ?zqk ?zqd ?zqu ?_; (case zqB => k_asm); (case zqF => k_asm); (case zqX => k_asm); (case zqN => k_asm); (case zqT => k_asm); (case zqk => exact rfl); (case zqd => first | exact zA hd rfl | exact zB hd rfl | ktr_room); (case zqu => first | exact zA hu rfl | exact zB hu rfl | ktr_units))
    intro r1 ne1 h1 tk1 hR F1 N1
    obtain ⟨D2, td1, td2, TA1, TB1, hr1, hne1, hA2, hB2, hlt2⟩ := hR
    subst hr1
    rw [hne1] at N1
    clear hne1
    (try dsimp only)
    (try k_fold)
    (try k_sweep)
  refine wpAny_call ?_
  k_dflt ktr_enter
  k_steps
  · rw [if_pos (by first | (left; assumption) | (right; exact ⟨by assumption, by assumption⟩))] at hp
    have hp2 := Option.some.inj hp
    simp only [Prod.mk.injEq] at hp2
    obtain ⟨e1, e2, e3⟩ := hp2
    subst e1
    subst e2
    subst e3
    rename News _ _ _ _ => kN
    rename AllLt _ (TA1 ++ (TB1 ++ news)) => hlD
    exact hret _ _ _ _ ⟨_, _, _, _, TA1, TB1, rfl, rfl, hA2, hB2, hlD⟩ (by assumption) (cb_drop kN fun p hp => (List.mem_cons.mp hp).elim (fun e => e ▸ .head _) fun hp => .tail _ (.tail _ hp))
  · rw [if_pos (by first | (left; assumption) | (right; exact ⟨by assumption, by assumption⟩))] at hp
    have hp2 := Option.some.inj hp
    simp only [Prod.mk.injEq] at hp2
    obtain ⟨e1, e2, e3⟩ := hp2
    subst e1
    subst e2
    subst e3
    rename News _ _ _ _ => kN
    rename AllLt _ (TA1 ++ (TB1 ++ news)) => hlD
    exact hret _ _ _ _ ⟨_, _, _, _, TA1, TB1, rfl, rfl, hA2, hB2, hlD⟩ (by assumption) (cb_drop kN fun p hp => (List.mem_cons.mp hp).elim (fun e => e ▸ .head _) fun hp => .tail _ (.tail _ hp))
  · rw [if_neg (fun h => h.elim (fun h => absurd h (by assumption)) (fun h => by first | exact absurd h.1 (by assumption) | exact absurd h.2 (by assumption)))] at hp
    rename News _ _ _ _ => nE'
    refine ksw_end ⟨k, _, _, _, _, _, _, TA1, TB1⟩ (by assumption) nE' (fun p hp => List.mem_append_right [_, _] hp) ⟨hA2, hB2⟩ (by kst_all) (by ksw_same) hp (Nat.lt_succ_self _)
  · rw [if_neg (fun h => h.elim (fun h => absurd h (by assumption)) (fun h => by first | exact absurd h.1 (by assumption) | exact absurd h.2 (by assumption)))] at hp
    rename News _ _ _ _ => nE'
    refine ksw_end ⟨k, _, _, _, _, _, _, TA1, TB1⟩ (by assumption) nE' (fun p hp => List.mem_append_right [_, _] hp) ⟨hA2, hB2⟩ (by kst_all) (by ksw_same) hp (Nat.lt_succ_self _)
end
-- TupLt
section
open PySem PySem.W PyProof.Rows PySem.Calls
/-- the order of tuples of ints -/
noncomputable def lexLt : List Int → List Int → Bool
  | [], [] => false
  | [], _ :: _ => true
  | _ :: _, [] => false
  | a :: r, b :: t => if a = b then lexLt r t else decide (a < b)
section
variable {prog : Program} {w : World} {A : Around} {E : Value → Shared → Prop} {s : Shared}
/-- a loop over pairs of ints that goes on at like ones and ends at the first others -/
theorem forPairs {β : Type} {f : Value × Value → β → Sem (ForInStep β)} {r₀ : β} {rb : Bool → β} {Q : β → Shared → Prop}
    (like : ∀ k t u, wpAny (model prog w) A (f (.int k t, .int k u) r₀) (fun r s' => r = .yield r₀ ∧ s' = s) E s)
    (other : ∀ k t j u, k ≠ j → wpAny (model prog w) A (f (.int k t, .int j u) r₀) (fun r s' => r = .done (rb (decide (k < j))) ∧ s' = s) E s)
    {xs ys : List Value} {ns ms : List Int} (hi : IntsAre xs ns) (hj : IntsAre ys ms)
    (over : lexLt ns ms = decide (xs.length < ys.length) → Q r₀ s) (found : Q (rb (lexLt ns ms)) s) : wpAny (model prog w) A (forIn (xs.zip ys) r₀ f) Q E s := by
  induction hi generalizing ys ms with
  | nil =>
    cases hj with
    | nil => exact wpAny_pure (over rfl)
    | cons => exact wpAny_pure (over (by simp [lexLt]))
  | cons k t _ ih =>
    cases hj with
    | nil => exact wpAny_pure (over (by simp [lexLt]))
    | cons j u hj =>
      rw [List.zip_cons_cons, List.forIn_cons]
      by_cases e : k = j
      · subst e
        have e1 : ∀ {l m}, lexLt (k :: l) (k :: m) = lexLt l m := by simp [lexLt]
        rw [e1] at over found
        refine wpAny_bind (wpAny_mono (like k t u) ?_ fun _ _ h => h)
        rintro _ _ ⟨rfl, rfl⟩
        exact ih hj (fun h => over (h.trans (by simp))) found
      · have e1 : ∀ {l m}, lexLt (k :: l) (j :: m) = decide (k < j) := by simp [lexLt, e]
        rw [e1] at found
        refine wpAny_bind (wpAny_mono (other k t j u e) ?_ fun _ _ h => h)
        rintro _ _ ⟨rfl, rfl⟩
        exact wpAny_pure found
theorem tuple_lt_tree {a b : Addr} {xs ys : List Value} {ns ms : List Int} {n k : Nat} {P : Fin → Shared → Prop}
    (ha : s.heap.get? a = some { cls := .type "tuple", data := .seq xs.toArray n }) (hb : s.heap.get? b = some { cls := .type "tuple", data := .seq ys.toArray k }) (hi : IntsAre xs ns) (hj : IntsAre ys ms)
    (h : P (.done (.ret (.bool (lexLt ns ms)))) s) : wpAny (model prog w) A (Builtin.«tuple.__lt__» ⟨[.ref a, .ref b], []⟩) P E s := by
  have hTb : s.TypeIs (.ref b) "tuple" := ⟨_, hb, rfl⟩
  unfold Builtin.«tuple.__lt__»
  wp_walk
  rw [isSubtype_tuple_tuple]
  wp_walk
  refine wpAny_mono (forPairs (rb := fun t => (some (.done (.ret (.bool t))), ())) (Q := fun r s' => s' = s ∧ (r = (none, ()) ∧ lexLt ns ms = decide (xs.length < ys.length) ∨ r = (some (.done (.ret (.bool (lexLt ns ms)))), ()))) (fun k t u => ?_) (fun k t j u e => ?_) hi hj (fun h => ⟨rfl, .inl ⟨rfl, h⟩⟩) ⟨rfl, .inr rfl⟩) ?_ fun _ _ h => h
  · refine wpAny_bind (wpAny_eqBool_int ?_)
    rw [beq_self_eq_true]
    exact wpAny_pure ⟨rfl, rfl⟩
  · refine wpAny_bind (wpAny_eqBool_int ?_)
    rw [beq_false_of_ne e]
    wp_walk using show wpAny _ _ (richCompare .Lt (.int k t) (.int j u)) _ _ _ from lt_int ?_
    exact ⟨rfl, rfl⟩
  · rintro _ _ ⟨rfl, ⟨rfl, e⟩ | rfl⟩
    · rw [e] at h
      have e2 : Builtin.Tuple.tupleCompareSizes CmpOp.Lt xs.toArray.size ys.toArray.size = .bool (decide (xs.length < ys.length)) := by simp [Builtin.Tuple.tupleCompareSizes]
      exact e2 ▸ wpAny_pure h
    · exact wpAny_pure h
theorem tuple_lt {a b : Addr} {xs ys : List Value} {ns ms : List Int} {n k : Nat} {Q : Value → Shared → Prop} (hu : A.units < cLine)
    (ha : s.heap.get? a = some { cls := .type "tuple", data := .seq xs.toArray n }) (hb : s.heap.get? b = some { cls := .type "tuple", data := .seq ys.toArray k }) (hi : IntsAre xs ns) (hj : IntsAre ys ms)
    (h : Q (.bool (lexLt ns ms)) s) : wpAny (model prog w) A (compareOp .Lt (.ref a) (.ref b)) Q E s := by
  have hTa : s.TypeIs (.ref a) "tuple" := ⟨_, ha, rfl⟩
  have hTb : s.TypeIs (.ref b) "tuple" := ⟨_, hb, rfl⟩
  refine show wpAny _ _ (richCompare .Lt (.ref a) (.ref b)) _ _ _ from wpAny_richCompare_same_room hTa hTb F.slot_tuple_lt (wpAny_call_entry F.slot_tuple_lt hTa F.entry_tuple_lt ?_ (F.args_tuple_lt_2 _ _)) hu
  exact tuple_lt_tree ha hb hi hj ⟨_, rfl, by simp, h⟩
end
end
-- HItems
section
open PySem PySem.W PyProof.Rows PySem.Calls
noncomputable abbrev tupO (us : List Value) (k : Nat) : Obj := { cls := .type "tuple", data := .seq us.toArray k }
/-- the ledger bears the tuple of ints at v -/
noncomputable def HItem (news : Led) (v : Value) (t : List Int) : Prop := ∃ (a : Addr) (us : List Value) (k : Nat), v = .ref a ∧ (a, tupO us k) ∈ news ∧ IntsAre us t
inductive HItems (news : Led) : List Value → List (List Int) → Prop
  | nil : HItems news [] []
  | cons {v : Value} {t : List Int} {vs : List Value} {ts : List (List Int)} : HItem news v t → HItems news vs ts → HItems news (v :: vs) (t :: ts)
theorem HItem.mono {news news' : Led} {v : Value} {t : List Int} (h : HItem news v t) (hs : ∀ p ∈ news, p ∈ news') : HItem news' v t := let ⟨a, us, k, e, m, i⟩ := h; ⟨a, us, k, e, hs _ m, i⟩
theorem HItems.mono {news news' : Led} {vs : List Value} {ts : List (List Int)} (h : HItems news vs ts) (hs : ∀ p ∈ news, p ∈ news') : HItems news' vs ts := by
  induction h with
  | nil => exact .nil
  | cons h _ ih => exact .cons (h.mono hs) ih
theorem HItems.length {news : Led} {vs : List Value} {ts : List (List Int)} (h : HItems news vs ts) : vs.length = ts.length := by
  induction h with
  | nil => rfl
  | cons _ _ ih => simp [ih]
theorem HItems.get {news : Led} : ∀ {vs : List Value} {ts : List (List Int)}, HItems news vs ts → ∀ {i : Nat}, i < ts.length → ∃ v, vs[i]? = some v ∧ HItem news v (ts.getD i [])
:= fun h => by
  induction h with
  | nil => exact fun h => absurd h (Nat.not_lt_zero _)
  | @cons v _ _ _ h _ ih =>
    intro i hi
    cases i with
    | zero => exact ⟨v, rfl, h⟩
    | succ i =>
      obtain ⟨v, a, b⟩ := ih (i := i) (Nat.lt_of_succ_lt_succ hi)
      exact ⟨v, a, b⟩
theorem HItems.set {news : Led} {v : Value} {t : List Int} (hv : HItem news v t) : ∀ {vs : List Value} {ts : List (List Int)}, HItems news vs ts → ∀ i : Nat, HItems news (vs.set i v) (ts.set i t)
:= fun h => by
  induction h with
  | nil => exact fun _ => .nil
  | cons h0 h ih =>
    intro i
    cases i with
    | zero => exact .cons hv h
    | succ i => exact .cons h0 (ih i)
theorem HItems.append {news : Led} {vs vs' : List Value} {ts ts' : List (List Int)} (h : HItems news vs ts) (h' : HItems news vs' ts') : HItems news (vs ++ vs') (ts ++ ts') := by
  induction h with
  | nil => exact h'
  | cons h _ ih => exact .cons h ih
section
variable {prog : Program} {w : World} {A : Around} {E : Value → Shared → Prop} {s : Shared} {h₀ : Heap} {L D : Addr} {m : Str → Option Value} {news : Led} {vs : List Value} {ts : List (List Int)} {n : Nat} {k : Int} {u : Tok}
theorem lget {value slice : PySem.Expr} {v : Value} {Q : Value → Shared → Prop} (N : News h₀ L s.heap news) (hm : (D, W.listOf vs.toArray n) ∈ news) (h0 : 0 ≤ k) (hfit : k < 2 ^ 63) (hv : vs[k.toNat]? = some v) (h : Q v s)
    (hs : subscripted slice false (.ref D) (.int k u) = operate [.ref D, .int k u] (getItem (.ref D) (.int k u)) := by with_unfolding_all rfl) (hg : ∀ r, letTemporaryGo value (.ref D) r = pure () := by intro _; with_unfolding_all rfl) :
    wpAny (model prog w) A (subscriptTail value slice (.ref D) (.int k u)) Q E s :=
  item_listL (PySem.IsL.isList (n := n) (N (D, W.listOf vs.toArray n) hm).1) h0 hfit hv h hs hg
theorem lset {v : Value} {Q : Unit → Shared → Prop} (F : Fr h₀ L s.heap m) (N : News h₀ L s.heap ((D, W.listOf vs.toArray n) :: news)) (hD : ∀ p ∈ news, p.1 ≠ D) (h0 : 0 ≤ k) (h1 : k < vs.length) (hfit : k < 2 ^ 63)
    (h : ∀ h', Fr h₀ L h' m → News h₀ L h' ((D, W.listOf (vs.set k.toNat v).toArray n) :: news) → Q () { s with heap := h' }) :
    wpAny (model prog w) A (setItem (.ref D) (.int k u) v) Q E s := by
  have z := N (D, W.listOf vs.toArray n) (.head _)
  refine ki_setAt z.1 h0 hfit (by simpa using h1) (h _ (F.change (Heap.SameBut.update ..) z.2.1 z.2.2) (ki_turn (pre := []) _ N (fun _ hp => nomatch hp) hD ?_ ?_))
  · show vs.toArray.setIfInBounds k.toNat v = (vs.set k.toNat v).toArray
    apply Array.toList_inj.mp
    simp
  · simp
end
/-- what _siftdown makes of the list -/
noncomputable def sdLoop (start : Nat) (x : List Int) : Nat → List (List Int) → Nat → List (List Int)
  | 0, h, pos => h.set pos x
  | f + 1, h, pos =>
    if start < pos then (if lexLt x (h.getD ((pos - 1) / 2) []) = true then sdLoop start x f (h.set pos (h.getD ((pos - 1) / 2) [])) ((pos - 1) / 2) else h.set pos x)
    else h.set pos x
noncomputable def sdown (h : List (List Int)) (start pos : Nat) : List (List Int) := sdLoop start (h.getD pos []) pos h pos
theorem sdLoop_stop {start : Nat} {x : List Int} {h : List (List Int)} {pos : Nat} : ∀ {f : Nat}, ¬ start < pos → sdLoop start x f h pos = h.set pos x
  | 0, _ => rfl
  | f + 1, hn => by rw [sdLoop, if_neg hn]
theorem sdLoop_go {start : Nat} {x : List Int} {h : List (List Int)} {pos : Nat} {f : Nat} (hf : pos ≤ f) (hs : start < pos) :
    ∃ g, (pos - 1) / 2 ≤ g ∧ g < f ∧ sdLoop start x f h pos = if lexLt x (h.getD ((pos - 1) / 2) []) = true then sdLoop start x g (h.set pos (h.getD ((pos - 1) / 2) [])) ((pos - 1) / 2) else h.set pos x := by
  cases f with
  | zero => exact absurd hs (by omega)
  | succ f => exact ⟨f, by omega, Nat.lt_succ_self _, by rw [sdLoop, if_pos hs]⟩
end
-- SdA
section
open PySem PySem.W PyProof.Rows PySem.Calls
structure SdSt where
  f : Nat
  pos : Nat
  tp : Tok
  vs : List Value
  ts : List (List Int)
  e : Nat
theorem nat_shr (p : Nat) (h : 0 < p) : Int.fdiv ((p : Int) - 1) (2 ^ Int.toNat 1) = (((p - 1) / 2 : Nat) : Int) := by
  have e : ((p : Int) - 1) = ((p - 1 : Nat) : Int) := by omega
  rw [e]
  exact (Int.ofNat_fdiv (p - 1) 2).symm
theorem sdown_ok : ∀ (w : World) (news : Led) (lh : Addr) (vs : List Value) (ts : List (List Int)) (e start pos : Nat) (t1 t2 : Tok), HItems news vs ts → (∀ p ∈ news, p.1 ≠ lh) → pos < ts.length → ts.length ≤ 1000 →
    Ok w 84 [.ref lh, .int start t1, .int pos t2] 1 20 ((lh, W.listOf vs.toArray e) :: news) (fun r ne => r = .none ∧ ∃ vs' e', ne = (lh, W.listOf vs'.toArray e') :: news ∧ HItems news vs' (sdown ts start pos)) := by
  k_with_none
  unfold Ok
  w_top off
  k_fill
  intro w news lh vs ts e start pos t1 t2 hH hlh hpos hlen mean mg mb dp un gd cn cs a ccd cl outer A₀ base h₀ L m s Q E Bw F X N Tp hk hd hu hret
  obtain ⟨nv, hnv, hnI⟩ := hH.get hpos
  have hvl := hH.length
  obtain ⟨na, nus, nk, rfl, nm, ni⟩ := hnI
  k_with "subscriptTail" =>
    k_here
    (with_reducible show wpAny _ _ (subscriptTail _ (Expr.Name (Str.ofString "pos") _) (Value.ref _) (Value.int _ _)) _ _ _)
    rename News _ _ _ _ => lN
    k_dflt (refine' lget (vs := vs) (v := .ref na) lN (List.Mem.head _) ?zq1 ?zq2 hnv ?_ ?zq3 ?zq4; (case zq1 => omega); (case zq2 => omega); (case zq3 => with_unfolding_all rfl); (case zq4 => (intro _; with_unfolding_all rfl)))
  k_with "subscriptTail" =>
    k_here
    (with_reducible show wpAny _ _ (subscriptTail _ (Expr.Name (Str.ofString "parentpos") _) (Value.ref _) (Value.int _ _)) _ _ _)
    have hpp := nat_shr cpos (by omega)
    rename Fr _ _ _ _ => lF
    rename News _ _ _ _ => lN
    rw [hpp] at lF ⊢
    obtain ⟨pv, hpv, hpI⟩ := hT.get (i := (cpos - 1) / 2) (by omega)
    obtain ⟨pa, pus, pk, hpe, pm, pi⟩ := hpI
    subst hpe
    k_dflt (refine' lget (vs := cvs) (v := .ref pa) lN (List.Mem.head _) ?zq1 ?zq2 hpv ?_ ?zq3 ?zq4; (case zq1 => omega); (case zq2 => omega); (case zq3 => with_unfolding_all rfl); (case zq4 => (intro _; with_unfolding_all rfl)))
  k_with "compareOp Lt ref ref" =>
    k_here
    rename News _ _ _ _ => lN
    k_dflt (refine' tuple_lt ?zq1 (lN (na, tupO nus nk) (List.Mem.tail _ nm)).1 (lN (pa, tupO pus pk) (List.Mem.tail _ pm)).1 ni pi ?_; (case zq1 => ktr_units))
  k_with "setItem" =>
    k_here
    rename Fr _ _ _ _ => lF
    rename News _ _ _ _ => lN
    k_dflt (refine' lset lF lN hlh ?zq1 ?zq2 ?zq3 ?_; (case zq1 => omega); (case zq2 => omega); (case zq3 => omega))
    intro h' F' N'
    (try k_sweep)
  k_with "exec While Compare cons nil" =>
    k_here
    rename Fr _ _ _ _ => lF'
    rename News _ _ _ _ => lN'
    with_unfolding_all refine' ksw_while (σ := SdSt) (fun c => (lh, W.listOf c.vs.toArray c.e) :: news) (fun c => [(Str.ofString "pos", .int c.pos c.tp)]) (fun c => HItems news c.vs c.ts) [Str.ofString "parentpos", Str.ofString "parent"] (fun c => c.pos ≤ c.f ∧ c.pos < c.ts.length ∧ c.ts.length = ts.length ∧ sdLoop start (ts.getD pos []) c.f c.ts c.pos = sdown ts start pos) (fun c => c.f) ⟨pos, pos, t2, vs, ts, e⟩ lF' lN' hH ?zk ⟨Nat.le_refl _, hpos, rfl, rfl⟩ ?_
    case zk => exact List.forall_mem_cons.mpr ⟨rfl, List.forall_mem_nil _⟩
    intro c u h tk hT hp lF lN
    obtain ⟨cf, cpos, ctp, cvs, cts, ce⟩ := c
    dsimp only [kstB] at lF hT hp lN
    obtain ⟨hp1, hp2, hp3, hp4⟩ := hp
    have hcl := hT.length
  refine wpAny_call ?_
  k_dflt ktr_enter
  k_steps
  · rename lexLt _ _ = true => hlx
    rename @LT.lt Int _ _ _ => hsp
    rename News _ _ _ _ => nE'
    obtain ⟨g, hg1, hg2, hg3⟩ := sdLoop_go (start := start) (x := ts.getD pos []) (h := cts) hp1 (Int.ofNat_lt.mp hsp)
    refine ksw_end ⟨g, (cpos - 1) / 2, _, cvs.set cpos (.ref pa), cts.set cpos (cts.getD ((cpos - 1) / 2) []), ce⟩ (by assumption) nE' (fun p hp => hp) (HItems.set ⟨pa, pus, pk, rfl, pm, pi⟩ hT cpos) (by kst_all) (by ksw_same) ⟨hg1, ?_, ?_, ?_⟩ hg2
    · rw [List.length_set]; exact Nat.lt_of_le_of_lt (Nat.le_trans (Nat.div_le_self _ _) (Nat.sub_le _ _)) hp2
    · rw [List.length_set]; exact hp3
    · rw [← hp4, hg3, if_pos hlx]
  · rename lexLt _ _ = false => hlx
    rename @LT.lt Int _ _ _ => hsp
    rename News _ _ _ _ => nE'
    obtain ⟨g, hg1, hg2, hg3⟩ := sdLoop_go (start := start) (x := ts.getD pos []) (h := cts) hp1 (Int.ofNat_lt.mp hsp)
    refine hret _ _ _ _ ⟨rfl, cvs.set cpos (.ref na), ce, rfl, ?_⟩ (by assumption) nE'
    rw [← hp4, hg3, if_neg (by rw [hlx]; exact Bool.false_ne_true)]
    exact HItems.set ⟨na, nus, nk, rfl, nm, ni⟩ hT cpos
  · rename ¬ _ => hsp
    rename News _ _ _ _ => nE'
    refine hret _ _ _ _ ⟨rfl, cvs.set cpos (.ref na), ce, rfl, ?_⟩ (by assumption) nE'
    rw [← hp4, sdLoop_stop (fun z => hsp (Int.ofNat_lt.mpr z))]
    exact HItems.set ⟨na, nus, nk, rfl, nm, ni⟩ hT cpos
end
-- SuA
section
open PySem PySem.W PyProof.Rows PySem.Calls
/-- the smaller child of the two -/
noncomputable def suPick (h : List (List Int)) (ch : Nat) : Nat := if ch + 1 < h.length then (if lexLt (h.getD ch []) (h.getD (ch + 1) []) = true then ch else ch + 1) else ch
/-- the way down of _siftup: the list and where the hole ends -/
noncomputable def suLoop : Nat → List (List Int) → Nat → List (List Int) × Nat
  | 0, h, pos => (h, pos)
  | f + 1, h, pos => if 2 * pos + 1 < h.length then suLoop f (h.set pos (h.getD (suPick h (2 * pos + 1)) [])) (suPick h (2 * pos + 1)) else (h, pos)
noncomputable def sup (h : List (List Int)) (pos : Nat) : List (List Int) := sdown ((suLoop h.length h pos).1.set (suLoop h.length h pos).2 (h.getD pos [])) pos (suLoop h.length h pos).2
theorem suPick_lt {h : List (List Int)} {ch : Nat} (hc : ch < h.length) : suPick h ch < h.length ∧ ch ≤ suPick h ch := by
  unfold suPick
  split
  · split
    · exact ⟨hc, Nat.le_refl _⟩
    · exact ⟨by assumption, Nat.le_succ _⟩
  · exact ⟨hc, Nat.le_refl _⟩
theorem suLoop_stop {h : List (List Int)} {pos : Nat} : ∀ {f : Nat}, ¬ 2 * pos + 1 < h.length → suLoop f h pos = (h, pos)
  | 0, _ => rfl
  | f + 1, hn => by rw [suLoop, if_neg hn]
theorem suLoop_go {h : List (List Int)} {pos f : Nat} (hf : h.length ≤ f + pos) (hs : 2 * pos + 1 < h.length) :
    ∃ g, g + 1 = f ∧ suLoop f h pos = suLoop g (h.set pos (h.getD (suPick h (2 * pos + 1)) [])) (suPick h (2 * pos + 1)) := by
  cases f with
  | zero => exact absurd hs (by omega)
  | succ f => exact ⟨f, rfl, by rw [suLoop, if_pos hs]⟩
structure SuSt where
  f : Nat
  pos : Nat
  tp : Tok
  tc : Tok
  vs : List Value
  ts : List (List Int)
  e : Nat
theorem su_end {f pos n : Nat} {h r : List (List Int)} {q : Nat} {R : List (List Int) × Nat} (hn : h.length = n) (hf : n ≤ f + pos) (hs : 2 * pos + 1 < n) (e : suLoop f h pos = R) (hr : r = h.set pos (h.getD q [])) (hq : q = suPick h (2 * pos + 1)) :
    ∃ g, (n ≤ g + q ∧ q < n ∧ r.length = n ∧ suLoop g r q = R) ∧ g < f := by
  subst hn
  obtain ⟨g, rfl, h2⟩ := suLoop_go hf hs
  have h3 := suPick_lt hs
  subst hq
  subst hr
  refine ⟨g, ⟨?_, h3.1, List.length_set .., h2 ▸ e⟩, Nat.lt_succ_self g⟩
  omega
theorem fr_int {h₀ : Heap} {L : Addr} {h' : Heap} {n : Str} {k : Int} {t : Tok} {m : Str → Option Value} (F : Fr h₀ L h' (fun y => if y = n then some (.int k t) else m y)) : ∃ t', Fr h₀ L h' (fun y => if y = n then some (.int k t') else m y) := ⟨t, F⟩
theorem sup_ok : ∀ (w : World) (news : Led) (lh : Addr) (vs : List Value) (ts : List (List Int)) (e pos : Nat) (t2 : Tok), HItems news vs ts → (∀ p ∈ news, p.1 ≠ lh) → pos < ts.length → ts.length ≤ 1000 →
    Ok w 91 [.ref lh, .int pos t2] 3 60 ((lh, W.listOf vs.toArray e) :: news) (fun r ne => r = .none ∧ ∃ vs' e', ne = (lh, W.listOf vs'.toArray e') :: news ∧ HItems news vs' (sup ts pos)) := by
  k_with_none
  unfold Ok
  w_top off
  k_fill
  intro w news lh vs ts e pos t2 hH hlh hpos hlen mean mg mb dp un gd cn cs a ccd cl outer A₀ base h₀ L m s Q E Bw F X N Tp hk hd hu hret
  obtain ⟨nv, hnv, hnI⟩ := hH.get hpos
  have hvl := hH.length
  obtain ⟨na, nus, nk, rfl, nm, ni⟩ := hnI
  k_with "subscriptTail" =>
    k_here
    (with_reducible show wpAny _ _ (subscriptTail _ (Expr.Name (Str.ofString "pos") _) (Value.ref _) (Value.int _ _)) _ _ _)
    rename News _ _ _ _ => lN
    k_dflt (refine' lget (vs := vs) (v := .ref na) lN (List.Mem.head _) ?zq1 ?zq2 hnv ?_ ?zq3 ?zq4; (case zq1 => omega); (case zq2 => omega); (case zq3 => with_unfolding_all rfl); (case zq4 => (intro _; with_unfolding_all rfl)))
  k_with "subscriptTail" =>
    k_here
    (with_reducible show wpAny _ _ (subscriptTail _ (Expr.Name (Str.ofString "childpos") _) (Value.ref _) (Value.int _ _)) _ _ _)
    rename News _ _ _ _ => lN
    k_dflt (first | (refine' lget (vs := cvs) (v := .ref c1a) lN (List.Mem.head _) ?zq1 ?zq2 hc1 ?_ ?zq3 ?zq4; (case zq1 => omega); (case zq2 => omega); (case zq3 => with_unfolding_all rfl); (case zq4 => (intro _; with_unfolding_all rfl))) | (refine' lget (vs := cvs) (v := .ref c2a) lN (List.Mem.head _) ?zq1 ?zq2 hc2 ?_ ?zq3 ?zq4; (case zq1 => omega); (case zq2 => omega); (case zq3 => with_unfolding_all rfl); (case zq4 => (intro _; with_unfolding_all rfl))))
  k_with "subscriptTail" =>
    k_here
    (with_reducible show wpAny _ _ (subscriptTail _ (Expr.Name (Str.ofString "childpos") _) (Value.ref _) (Value.int (2 * _ + 1) _)) _ _ _)
    rename News _ _ _ _ => lN
    fail_if_success (have z := hc1)
    rename @LT.lt Int _ (2 * _ + 1) _ => hct
    have hct' : 2 * cpos + 1 < cts.length := by omega
    obtain ⟨c1v, hc1, hc1I⟩ := hT.get hct'
    obtain ⟨c1a, c1us, c1k, hc1e, c1m, c1i⟩ := hc1I
    subst hc1e
    k_dflt (refine' lget (vs := cvs) (v := .ref c1a) lN (List.Mem.head _) ?zq1 ?zq2 hc1 ?_ ?zq3 ?zq4; (case zq1 => omega); (case zq2 => omega); (case zq3 => with_unfolding_all rfl); (case zq4 => (intro _; with_unfolding_all rfl)))
  k_with "subscriptTail" =>
    k_here
    (with_reducible show wpAny _ _ (subscriptTail _ (Expr.Name (Str.ofString "rightpos") _) (Value.ref _) (Value.int _ _)) _ _ _)
    rename News _ _ _ _ => lN
    rename @LT.lt Int _ (_ + 1 + 1) _ => hrt
    have hrt' : 2 * cpos + 1 + 1 < cts.length := by omega
    obtain ⟨c2v, hc2, hc2I⟩ := hT.get hrt'
    obtain ⟨c2a, c2us, c2k, hc2e, c2m, c2i⟩ := hc2I
    subst hc2e
    k_dflt (refine' lget (vs := cvs) (v := .ref c2a) lN (List.Mem.head _) ?zq1 ?zq2 hc2 ?_ ?zq3 ?zq4; (case zq1 => omega); (case zq2 => omega); (case zq3 => with_unfolding_all rfl); (case zq4 => (intro _; with_unfolding_all rfl)))
  k_with "compareOp Lt ref ref" =>
    k_here
    rename News _ _ _ _ => lN
    k_dflt (refine' tuple_lt ?zq1 (lN (c1a, tupO c1us c1k) (List.Mem.tail _ c1m)).1 (lN (c2a, tupO c2us c2k) (List.Mem.tail _ c2m)).1 c1i c2i ?_; (case zq1 => ktr_units))
  k_with "setItem" =>
    k_here
    rename Fr _ _ _ _ => lF
    rename News _ _ _ _ => lN
    k_dflt (refine' lset lF lN hlh ?zq1 ?zq2 ?zq3 ?_; (case zq1 => omega); (case zq2 => omega); (case zq3 => omega))
    intro h' F' N'
    (try k_sweep)
  k_with "exec While Compare cons nil" =>
    k_here
    rename Fr _ _ _ _ => lF'
    rename News _ _ _ _ => lN'
    k_dflt (obtain ⟨tc0, lF2⟩ := fr_int lF')
    clear lF'
    with_unfolding_all refine' ksw_while (σ := SuSt) (fun c => (lh, W.listOf c.vs.toArray c.e) :: news) (fun c => [(Str.ofString "pos", .int c.pos c.tp), (Str.ofString "childpos", .int (2 * c.pos + 1) c.tc)]) (fun c => HItems news c.vs c.ts) [Str.ofString "rightpos"] (fun c => ts.length ≤ c.f + c.pos ∧ c.pos < ts.length ∧ c.ts.length = ts.length ∧ suLoop c.f c.ts c.pos = suLoop ts.length ts pos) (fun c => c.f) ⟨ts.length, pos, t2, tc0, vs, ts, e⟩ lF2 lN' hH ?zk ⟨Nat.le_add_right _ _, hpos, rfl, rfl⟩ ?_
    case zk => exact List.forall_mem_cons.mpr ⟨rfl, List.forall_mem_cons.mpr ⟨rfl, List.forall_mem_nil _⟩⟩
    intro c u h tk hT hp lF lN
    obtain ⟨cf, cpos, ctp, ctc, cvs, cts, ce⟩ := c
    dsimp only [kstB] at lF hT hp lN
    obtain ⟨hp1, hp2, hp3, hp4⟩ := hp
    have hcl := hT.length
  k_with "call builtin:len" =>
    k_here
    (with_reducible show wpAny _ _ (call (Value.builtin _) [Value.ref _]) _ _ _)
    rename News _ _ _ _ => lN
    k_dflt (refine' KM.len_K (n := ts.length) lN (List.Mem.head _) ?zq1 ?zq2 ?_; (case zq1 => exact hvl); (case zq2 => omega))
  k_with "call ref" =>
    k_here
    (with_reducible show wpAny _ _ (call (Value.ref 84) _) _ _ _)
    k_dflt (refine' Ok.use (sdown_ok w news lh (cvs.set cpos (.ref na)) (cts.set cpos (ts.getD pos [])) ce pos cpos _ _ (HItems.set ⟨na, nus, nk, rfl, nm, ni⟩ hT cpos) hlh (by rw [List.length_set]; omega) (by rw [List.length_set]; omega)) ?zqB ?zqF ?zqX ?zqN ?zqT ?zqk ?zqd ?zqu ?_; (case zqB => k_asm); (case zqF => k_asm); (case zqX => k_asm); (case zqN => k_asm); (case zqT => k_asm); (case zqk => exact rfl); (case zqd => first | exact zA hd rfl | exact zB hd rfl | ktr_room); (case zqu => first | exact zA hu rfl | exact zB hu rfl | ktr_units))
    intro r1 ne1 h1 tk1 hR F1 N1
    obtain ⟨hr1, vs1, e1, hne1, hI1⟩ := hR
    subst hr1
    rw [hne1] at N1
    clear hne1
    (try dsimp only)
    (try k_fold)
  refine wpAny_call ?_
  k_dflt ktr_enter
  k_steps
  all_goals try (
    rename News _ _ _ _ => nE'
    have hct0 : 2 * cpos + 1 < ts.length := by omega
    first
    | (rename lexLt _ _ = false => hlx
       obtain ⟨g, hP, hg⟩ := su_end (q := 2 * cpos + 1 + 1) hp3 hp1 hct0 hp4 rfl (by rw [suPick, if_pos (by omega), hlx]; rfl)
       refine ksw_end ⟨g, 2 * cpos + 1 + 1, _, _, cvs.set cpos (.ref c2a), cts.set cpos (cts.getD (2 * cpos + 1 + 1) []), ce⟩ (by assumption) nE' (fun p hp => hp) (HItems.set ⟨c2a, c2us, c2k, rfl, c2m, c2i⟩ hT cpos) (by kst_all) (by ksw_same) hP hg
       done)
    | (rename lexLt _ _ = true => hlx
       obtain ⟨g, hP, hg⟩ := su_end (q := 2 * cpos + 1) hp3 hp1 hct0 hp4 rfl (by rw [suPick, if_pos (by omega), hlx]; rfl)
       refine ksw_end ⟨g, 2 * cpos + 1, _, _, cvs.set cpos (.ref c1a), cts.set cpos (cts.getD (2 * cpos + 1) []), ce⟩ (by assumption) nE' (fun p hp => hp) (HItems.set ⟨c1a, c1us, c1k, rfl, c1m, c1i⟩ hT cpos) (by kst_all) (by ksw_same) hP hg
       done)
    | (obtain ⟨g, hP, hg⟩ := su_end (q := 2 * cpos + 1) hp3 hp1 hct0 hp4 rfl (by rw [suPick, if_neg (by omega)])
       refine ksw_end ⟨g, 2 * cpos + 1, _, _, cvs.set cpos (.ref c1a), cts.set cpos (cts.getD (2 * cpos + 1) []), ce⟩ (by assumption) nE' (fun p hp => hp) (HItems.set ⟨c1a, c1us, c1k, rfl, c1m, c1i⟩ hT cpos) (by kst_all) (by ksw_same) hP hg
       done))
  all_goals try (
    rename ¬ _ => hsp
    rename News _ _ _ _ => nE'
    refine hret _ _ _ _ ⟨rfl, vs1, e1, rfl, ?_⟩ (by assumption) nE'
    rw [sup, ← hp4, suLoop_stop (by omega)]
    exact hI1)
  all_goals trace_state
  all_goals w_report
end
-- HpA
section
open PySem PySem.W PyProof.Rows PySem.Calls
noncomputable def hpush (h : List (List Int)) (x : List Int) : List (List Int) := sdown (h ++ [x]) 0 h.length
theorem hpush_ok : ∀ (w : World) (news : Led) (lh : Addr) (vs : List Value) (ts : List (List Int)) (e : Nat) (v : Value) (t : List Int), HItems news vs ts → HItem news v t → (∀ p ∈ news, p.1 ≠ lh) → ts.length < 1000 →
    Ok w 63 [.ref lh, v] 3 60 ((lh, W.listOf vs.toArray e) :: news) (fun r ne => r = .none ∧ ∃ vs' e', ne = (lh, W.listOf vs'.toArray e') :: news ∧ HItems news vs' (hpush ts t)) := by
  k_with_none
  unfold Ok
  w_top off
  k_fill
  intro w news lh vs ts e v t hH hv hlh hlen mean mg mb dp un gd cn cs a ccd cl outer A₀ base h₀ L m s Q E Bw F X N Tp hk hd hu hret
  have hvl := hH.length
  obtain ⟨na, nus, nk, rfl, nm, ni⟩ := hv
  have hH2 : HItems news (vs ++ [.ref na]) (ts ++ [t]) := hH.append (.cons ⟨na, nus, nk, rfl, nm, ni⟩ .nil)
  k_with "call builtin:len" =>
    k_here
    (with_reducible show wpAny _ _ (call (Value.builtin _) [Value.ref _]) _ _ _)
    rename News _ _ _ _ => lN
    k_dflt (refine' KM.len_K (n := ts.length + 1) lN (List.Mem.head _) ?zq1 ?zq2 ?_; (case zq1 => (simp only [List.size_toArray, List.length_append, List.length_cons, List.length_nil]; omega)); (case zq2 => omega))
  k_with "call ref" =>
    k_here
    (with_reducible show wpAny _ _ (call (Value.ref 84) _) _ _ _)
    rename News _ _ _ _ => lN
    have e9 : ((ts.length + 1 : Nat) : Int) - 1 = (ts.length : Nat) := by omega
    k_dflt rw [e9]
    k_dflt (refine' Ok.use (sdown_ok w news lh (vs ++ [.ref na]) (ts ++ [t]) _ 0 ts.length _ _ hH2 hlh (by rw [List.length_append]; exact Nat.lt_succ_self _) (by rw [List.length_append]; exact hlen)) ?zqB ?zqF ?zqX ?zqN ?zqT ?zqk ?zqd ?zqu ?_; (case zqB => k_asm); (case zqF => k_asm); (case zqX => k_asm); (case zqN => k_asm); (case zqT => k_asm); (case zqk => exact rfl); (case zqd => first | exact zA hd rfl | exact zB hd rfl | ktr_room); (case zqu => first | exact zA hu rfl | exact zB hu rfl | ktr_units))
    intro r1 ne1 h1 tk1 hR F1 N1
    obtain ⟨hr1, vs1, e1, hne1, hI1⟩ := hR
    subst hr1
    rw [hne1] at N1
    clear hne1
    (try dsimp only)
    (try k_fold)
  refine wpAny_call ?_
  k_dflt ktr_enter
  k_steps
  · rename News _ _ _ _ => nE'
    exact hret _ _ _ _ ⟨rfl, vs1, e1, rfl, hI1⟩ (by assumption) nE'
  all_goals trace_state
  all_goals w_report
end
-- HrA
section
open PySem PySem.W PyProof.Rows PySem.Calls
theorem hrep_ok : ∀ (w : World) (news : Led) (lh : Addr) (vs : List Value) (ts : List (List Int)) (e : Nat) (v : Value) (t : List Int), HItems news vs ts → HItem news v t → (∀ p ∈ news, p.1 ≠ lh) → 0 < ts.length → ts.length ≤ 1000 →
    Ok w 70 [.ref lh, v] 5 90 ((lh, W.listOf vs.toArray e) :: news) (fun r ne => vs[0]? = some r ∧ ∃ vs' e', ne = (lh, W.listOf vs'.toArray e') :: news ∧ HItems news vs' (sup (ts.set 0 t) 0)) := by
  k_with_none
  unfold Ok
  w_top off
  k_fill
  intro w news lh vs ts e v t hH hv hlh hpos hlen mean mg mb dp un gd cn cs a ccd cl outer A₀ base h₀ L m s Q E Bw F X N Tp hk hd hu hret
  have hvl := hH.length
  obtain ⟨v0, hnv, hnI⟩ := hH.get hpos
  obtain ⟨ma, mus, mk, rfl, mm, mi⟩ := hnI
  obtain ⟨na, nus, nk, rfl, nm, ni⟩ := hv
  k_with "subscriptTail" =>
    k_here
    (with_reducible show wpAny _ _ (subscriptTail _ _ (Value.ref _) (Value.int _ _)) _ _ _)
    rename News _ _ _ _ => lN
    k_dflt (refine' lget (vs := vs) (v := .ref ma) lN (List.Mem.head _) ?zq1 ?zq2 hnv ?_ ?zq3 ?zq4; (case zq1 => omega); (case zq2 => omega); (case zq3 => with_unfolding_all rfl); (case zq4 => (intro _; with_unfolding_all rfl)))
  k_with "setItem" =>
    k_here
    rename Fr _ _ _ _ => lF
    rename News _ _ _ _ => lN
    k_dflt (refine' lset lF lN hlh ?zq1 ?zq2 ?zq3 ?_; (case zq1 => omega); (case zq2 => omega); (case zq3 => omega))
    intro h' F' N'
    (try k_sweep)
  k_with "call ref" =>
    k_here
    (with_reducible show wpAny _ _ (call (Value.ref 91) _) _ _ _)
    k_dflt (refine' Ok.use (sup_ok w news lh (vs.set 0 (.ref na)) (ts.set 0 t) e 0 _ (HItems.set ⟨na, nus, nk, rfl, nm, ni⟩ hH 0) hlh (by rw [List.length_set]; omega) (by rw [List.length_set]; omega)) ?zqB ?zqF ?zqX ?zqN ?zqT ?zqk ?zqd ?zqu ?_; (case zqB => k_asm); (case zqF => k_asm); (case zqX => k_asm); (case zqN => k_asm); (case zqT => k_asm); (case zqk => exact rfl); (case zqd => first | exact zA hd rfl | exact zB hd rfl | ktr_room); (case zqu => first | exact zA hu rfl | exact zB hu rfl | ktr_units))
    intro r1 ne1 h1 tk1 hR F1 N1
    obtain ⟨hr1, vs1, e1, hne1, hI1⟩ := hR
    subst hr1
    rw [hne1] at N1
    clear hne1
    (try dsimp only)
    (try k_fold)
  refine wpAny_call ?_
  k_dflt ktr_enter
  k_steps
  · rename News _ _ _ _ => nE'
    exact hret _ _ _ _ ⟨hnv, vs1, e1, rfl, hI1⟩ (by assumption) nE'
  all_goals trace_state
  all_goals w_report
end
-- RevR
section
open PySem PySem.W PyProof.Rows PySem.Calls
theorem sub_ri_reversed : isSubtype (.type "range_iterator") (.type "reversed") = pure false := by rw [isSubtype_type]; kernel_rfl
theorem range_rev (r : Addr) (a b c : Int) (t u v : Tok) (hc0 : ¬(!(Builtin.Range.rangeFitsLong a && Builtin.Range.rangeFitsLong b && Builtin.Range.rangeFitsLong c && Builtin.Range.rangeFitsLong (-c) && Builtin.Range.rangeFitsLong (a - c) && Builtin.Range.rangeFitsLong (Builtin.Range.rangeSize a b c))) = true) :
    Meets (Builtin.«range.__reversed__» ⟨[.ref r], []⟩) (fun _ R s => s.heap.get? r = some { cls := .type "range", dict := none, data := .fields #[.int a t, .int b u, .int c v], slots := #[] } ∧ R (.ok (.ret (Value.ref s.heap.objs.size))) { s with heap := s.heap.push { cls := Value.type (if (Builtin.Range.rangeFitsLong a && Builtin.Range.rangeFitsLong b && Builtin.Range.rangeFitsLong c && Builtin.Range.rangeFitsLong (-c) && Builtin.Range.rangeFitsLong (a - c) && Builtin.Range.rangeFitsLong (Builtin.Range.rangeSize a b c)) then "range_iterator" else "longrange_iterator"), data := .fields #[rawInt (a + (Builtin.Range.rangeSize a b c - 1) * c), rawInt (Builtin.Range.rangeSize a b c), rawInt (-c)] } }) :=
  .of_wp fun prog w A R s h => by obtain ⟨hp, g, d, tk, os⟩ := s; obtain ⟨hl, h⟩ := h; wp_walk; exact ⟨_, rfl, h⟩
noncomputable abbrev rrObj (n : Int) : Obj := { cls := .type "range_iterator", data := .fields #[rawInt (n - 1), rawInt n, rawInt (-1)] }
section
variable {prog : Program} {w : World} {A : Around} {E : Value → Shared → Prop} {s : Shared} {env : Env} {h₀ : Heap} {x : Str} {body : List Stmt}
theorem rangeSize_0 {b : Int} (h : 0 ≤ b) : Builtin.Range.rangeSize 0 b 1 = b := by
  unfold Builtin.Range.rangeSize
  rw [if_pos (by decide)]
  split
  · rw [Int.ediv_one]; omega
  · omega
theorem fits_small {b : Int} (h0 : -4096 ≤ b) (h1 : b ≤ 4096) : Builtin.Range.rangeFitsLong b = true := by
  unfold Builtin.Range.rangeFitsLong
  simp only [Bool.and_eq_true, decide_eq_true_eq]
  exact ⟨Int.le_trans (by decide) h0, Int.lt_of_le_of_lt h1 (by decide)⟩
theorem call_range_reversed {r : Addr} {b : Int} {t u v : Tok} {Q : Value → Shared → Prop} (hr : IsRange s.heap r 0 b 1 t u v) (h0 : 0 ≤ b) (h1 : b ≤ 4096)
    (h : Q (.ref s.heap.objs.size) { s with heap := s.heap.push (rrObj b) }) : wpAny (model prog w) A (call (.builtin "range.__reversed__") [.ref r]) Q E s := by
  have hT : s.TypeIs (.ref r) "range" := ⟨_, hr, rfl⟩
  have hs : (Builtin.Range.rangeFitsLong 0 && Builtin.Range.rangeFitsLong b && Builtin.Range.rangeFitsLong 1 && Builtin.Range.rangeFitsLong (-1) && Builtin.Range.rangeFitsLong (0 - 1) && Builtin.Range.rangeFitsLong (Builtin.Range.rangeSize 0 b 1)) = true := by
    rw [rangeSize_0 h0, fits_small (b := b) (Int.le_trans (by decide) h0) h1]
    decide
  refine call_meets F.slot_range_reversed hT F.entry_range_reversed (F.args_range_reversed_1 _) (range_rev r 0 b 1 t u v (by rw [hs]; decide)) ⟨hr, ?_⟩
  rw [hs, if_pos rfl, rangeSize_0 h0, Int.mul_one, Int.zero_add]
  exact h
theorem code_reversed_newR {r : Addr} {b : Int} {t u v : Tok} {Q₁ : Value → Shared → Prop} (hr : IsRange s.heap r 0 b 1 t u v) (h0 : 0 ≤ b) (h1 : b ≤ 4096)
    (h : Q₁ (.ref s.heap.objs.size) { s with heap := s.heap.push (rrObj b) }) :
    codeAny (model prog w) A (.call (.builtin "reversed.__new__") ⟨[.type "reversed", .ref r], []⟩) (wants Q₁ E) s := by
  have hT : s.TypeIs (.ref r) "range" := ⟨_, hr, rfl⟩
  have made := F.newCall_reversed_1 (.ref r)
  have own := F.slot_range_reversed.lookup
  have bound := F.slot_range_reversed.bind (.ref r)
  refine codeAny_of_tree ?_
  wp_walk
  refine ⟨plainId_quiet F.plain_reversed_new _, codeAny_builtin F.entry_reversed_new ?_⟩
  rw [Around.under_plainId F.plain_reversed_new]
  simp only [Builtin.«reversed.__new__», newClass_reversed]
  wp_walk using show wpAny _ _ (runValue (.call (Value.builtin "range.__reversed__") ⟨[.ref r], []⟩)) _ _ _ from call_range_reversed hr h0 h1 ?_
  exact h
theorem call_reversed_range {r : Addr} {b : Int} {t u v : Tok} {Q : Value → Shared → Prop} (hr : IsRange s.heap r 0 b 1 t u v) (h0 : 0 ≤ b) (h1 : b ≤ 4096)
    (h : Q (.ref s.heap.objs.size) { s with heap := s.heap.push (rrObj b) }) : wpAny (model prog w) A (call (.type "reversed") [.ref r]) Q E s := by
  refine callType_other (U := "range_iterator") (Q₁ := fun obj s₁ => obj = .ref s.heap.objs.size ∧ s₁ = { s with heap := s.heap.push (rrObj b) }) (by decide +kernel) F.create_reversed ⟨_, _, F.mro_reversed⟩ F.made_reversed sub_ri_reversed (F.typeCall_reversed_1 _) (code_reversed_newR hr h0 h1 ⟨rfl, rfl⟩) ?_
  rintro obj s₁ ⟨rfl, rfl⟩
  exact ⟨⟨_, Heap.get?_push_size _ rfl, rfl⟩, h⟩
theorem revK {r L : Addr} {n : Nat} {b : Int} {t u v : Tok} {Q : Value → Shared → Prop} {m : Str → Option Value} {news : Led} (F : Fr h₀ L s.heap m) (N : News h₀ L s.heap news) (hr : IsRange s.heap r 0 b 1 t u v) (hb : b = n) (h1 : n ≤ 4096)
    (h : ∀ I h', Fr h₀ L h' m → News h₀ L h' ((I, rrObj n) :: news) → (∀ p ∈ news, p.1 ≠ I) → Q (.ref I) { s with heap := h' }) : wpAny (model prog w) A (call (.type "reversed") [.ref r]) Q E s := by
  subst hb
  exact call_reversed_range hr (Int.natCast_nonneg n) (Int.ofNat_le.mpr h1) (h _ _ (F.push _) (News.push F N _) fun p hp => Nat.ne_of_lt (Heap.lt_size (N p hp).1))
/-- a for over a range iterator that counts down from n - 1 -/
theorem forDown {σ : Type} {I : Addr} {n : Nat} {Q : Flow → Shared → Prop} {m₀ : Str → Option Value} (Led : σ → List (Addr × Obj)) (ps : σ → List (Str × Value)) (stored : List Str) (Inv : Nat → σ → Prop) (c₀ : σ)
    (hh : A.handled = none) (F : Fr h₀ env.locals s.heap m₀) (N : News h₀ env.locals s.heap ((I, rrObj n) :: Led c₀)) (hoff : ∀ p ∈ Led c₀, p.1 ≠ I) (hk : ∀ p ∈ ps c₀, m₀ p.1 = some p.2) (h0 : Inv 0 c₀)
    (turn : ∀ (i : Nat) (tok : Tok) (c : σ) (it : Obj) (u : Str → Option Value) (h : Heap) (tk : Nat), i < n → Inv i c → it.cls = .type "range_iterator" → (∀ p ∈ Led c, p.1 ≠ I) → Fr h₀ env.locals h (fun y => if y = x then some (.int ((n - 1 - i : Nat) : Int) tok) else kstB (fun z => if stored.contains z then u z else m₀ z) (ps c) y) → News h₀ env.locals h ((I, it) :: Led c) →
      wpAny (model prog w) A (execs body env) (ForPost h₀ env.locals { s with heap := h, toks := tk } Led ps x stored m₀ I it (Inv (i + 1)) Q) E { s with heap := h, toks := tk })
    (done : ∀ (c : σ) (u : Str → Option Value) (h : Heap) (tk : Nat), Inv n c → Fr h₀ env.locals h (fun y => if y = x then u y else kstB (fun z => if stored.contains z then u z else m₀ z) (ps c) y) → News h₀ env.locals h (Led c) → Q .next { s with heap := h, toks := tk }) :
    wpAny (model prog w) A (pyIter (.ref I)) (fun it s₂ => LoopAtV prog w A h₀ env x body Q E it s₂) E s := by
  have hIx := N _ (List.mem_cons_self ..)
  refine wpAny_pyIter_rangeiter (x := (n : Int) - 1) (left := n) (step := -1) hIx.1 ?_
  have W := Walks.range (prog := prog) (w := w) hh I ((n : Int) - 1) (-1) n
  refine forL (I := I) W Led ps stored Inv c₀ hIx.2.2 (fun b hb => .inl (List.mem_singleton.mp hb)) (fun hmm => hIx.2.1 (List.mem_singleton.mp hmm).symm) ?_ (fun i h hs => ⟨_, hs⟩) F (fun p hp => N p (List.mem_cons_of_mem _ hp)) hoff hk h0 ?_ done
  · show IsRangeIter _ _ ((n : Int) - 1 + ((0 : Nat) : Int) * -1) ((n : Int) - ((0 : Nat) : Int)) (-1)
    have e1 : (n : Int) - 1 + ((0 : Nat) : Int) * -1 = (n : Int) - 1 := by omega
    have e2 : (n : Int) - ((0 : Nat) : Int) = n := by omega
    rw [e1, e2]
    exact hIx.1
  · rintro i v c it u h tk hi ⟨tok, rfl⟩ hInv hst₁ hoff F₁ N₁
    have e1 : (n : Int) - 1 + (i : Int) * -1 = ((n - 1 - i : Nat) : Int) := by omega
    rw [e1] at F₁
    have g := (N₁ _ (.head _)).1
    rw [show h.get? I = _ from hst₁] at g
    exact turn i tok c it u h tk hi hInv (congrArg Obj.cls (Option.some.inj g).symm) hoff F₁ N₁
end
end
-- HfA
section
open PySem PySem.W PyProof.Rows PySem.Calls
noncomputable def hifyL : Nat → List (List Int) → List (List Int)
  | 0, h => h
  | k + 1, h => hifyL k (sup h k)
theorem sdLoop_length {start : Nat} {x : List Int} : ∀ (f : Nat) (h : List (List Int)) (pos : Nat), (sdLoop start x f h pos).length = h.length
  | 0, h, pos => List.length_set ..
  | f + 1, h, pos => by
    rw [sdLoop]
    split
    · split
      · rw [sdLoop_length f, List.length_set]
      · rw [List.length_set]
    · rw [List.length_set]
theorem suLoop_length : ∀ (f : Nat) (h : List (List Int)) (pos : Nat), (suLoop f h pos).1.length = h.length
  | 0, h, pos => rfl
  | f + 1, h, pos => by
    rw [suLoop]
    split
    · rw [suLoop_length f, List.length_set]
    · rfl
theorem sup_length (h : List (List Int)) (pos : Nat) : (sup h pos).length = h.length := by
  rw [sup, sdown, sdLoop_length, List.length_set, suLoop_length]
theorem HItem.strip {p : Addr × Obj} {news : Led} {v : Value} {t : List Int} (hp : p.2.cls ≠ .type "tuple") : HItem (p :: news) v t → HItem news v t := fun ⟨a, us, k, e, m, i⟩ =>
  ⟨a, us, k, e, (List.mem_cons.mp m).elim (fun e => absurd (congrArg (fun z : Addr × Obj => z.2.cls) e).symm hp) id, i⟩
theorem HItems.strip {p : Addr × Obj} {news : Led} {vs : List Value} {ts : List (List Int)} (h : HItems (p :: news) vs ts) (hp : p.2.cls ≠ .type "tuple") : HItems news vs ts := by
  induction h with
  | nil => exact .nil
  | cons h _ ih => exact .cons (h.strip hp) ih
theorem swapN {h₀ h : Heap} {L : Addr} {p q : Addr × Obj} {news : Led} (N : News h₀ L h (p :: q :: news)) : News h₀ L h (q :: p :: news) := fun r hr => N r (by
  rcases List.mem_cons.mp hr with rfl | hr
  · exact .tail _ (.head _)
  · rcases List.mem_cons.mp hr with rfl | hr
    · exact .head _
    · exact .tail _ (.tail _ hr))
structure HfSt where
  vs : List Value
  ts : List (List Int)
  e : Nat
theorem hfy_ok : ∀ (w : World) (news : Led) (lh : Addr) (vs : List Value) (ts : List (List Int)) (e : Nat), HItems news vs ts → (∀ p ∈ news, p.1 ≠ lh) → ts.length ≤ 1000 →
    Ok w 77 [.ref lh] 5 90 ((lh, W.listOf vs.toArray e) :: news) (fun r ne => r = .none ∧ ∃ vs' e', ne = (lh, W.listOf vs'.toArray e') :: news ∧ HItems news vs' (hifyL (ts.length / 2) ts)) := by
  k_with_none
  unfold Ok
  w_top off
  k_fill
  intro w news lh vs ts e hH hlh hlen mean mg mb dp un gd cn cs a ccd cl outer A₀ base h₀ L m s Q E Bw F X N Tp hk hd hu hret
  have hvl := hH.length
  k_with "call builtin:len" =>
    k_here
    (with_reducible show wpAny _ _ (call (Value.builtin _) [Value.ref _]) _ _ _)
    rename News _ _ _ _ => lN
    k_dflt (refine' KM.len_K (n := ts.length) lN (List.Mem.head _) ?zq1 ?zq2 ?_; (case zq1 => exact hvl); (case zq2 => omega))
  k_with "call type:reversed" =>
    k_here
    rename IsRange _ _ _ _ _ _ _ _ => lR
    rename Fr _ _ _ _ => lF
    rename News _ _ _ _ => lN
    k_dflt (refine' revK (n := ts.length / 2) lF lN lR ?zq1 ?zq2 ?_; (case zq1 => exact (Int.ofNat_fdiv ts.length 2).symm); (case zq2 => omega))
    intro I h' F' N' hI
  k_with "pyIter ref" =>
    k_here
    rename Fr _ _ _ _ => lF'
    rename News _ _ _ _ => lN'
    k_dflt (refine' forDown (σ := HfSt) (fun c => (lh, W.listOf c.vs.toArray c.e) :: news) (fun _ => []) [] (fun i c => HItems news c.vs c.ts ∧ c.ts.length = ts.length ∧ hifyL (ts.length / 2 - i) c.ts = hifyL (ts.length / 2) ts) ⟨vs, ts, e⟩ ?zqh lF' lN' ?zq1 ?zq2 ⟨hH, rfl, rfl⟩ ?_ ?_; (case zqh => rfl); (case zq1 => assumption); (case zq2 => exact List.forall_mem_nil _))
    intro i tok c it u h tk hi hInv hic hof fF fN
    obtain ⟨cvs, cts, ce⟩ := c
    obtain ⟨hT, hcl, hq⟩ := hInv
    obtain ⟨k, hk0, hk1⟩ : ∃ k, ts.length / 2 - i = k + 1 ∧ ts.length / 2 - 1 - i = k := ⟨ts.length / 2 - 1 - i, by omega, rfl⟩
    rw [hk1] at fF
    dsimp only [kstB] at fF fN hof hT hcl hq
    rw [hk0] at hq
    rotate_left
    intro c u h tk hInv fF fN
    dsimp only [kstB] at fF fN
    rotate_right
  k_with "call ref" =>
    k_here
    (with_reducible show wpAny _ _ (call (Value.ref 91) _) _ _ _)
    rename News _ _ _ _ => lN
    k_dflt (refine' Ok.use (sup_ok w ((I, it) :: news) lh cvs cts ce k _ (hT.mono fun _ hp => .tail _ hp) ?zq1 (by omega) (by omega)) ?zqB ?zqF ?zqX (swapN lN) ?zqT ?zqk ?zqd ?zqu ?_; (case zqB => k_asm); (case zqF => k_asm); (case zqX => k_asm); (case zqT => k_asm); (case zqk => exact rfl); (case zqd => first | exact zA hd rfl | exact zB hd rfl | ktr_room); (case zqu => first | exact zA hu rfl | exact zB hu rfl | ktr_units); (case zq1 => exact List.forall_mem_cons.mpr ⟨fun e => (List.forall_mem_cons.mp hof).1 e.symm, hlh⟩))
    intro r1 ne1 h1 tk1 hR F1 N1
    obtain ⟨hr1, vs1, e1, hne1, hI1⟩ := hR
    subst hr1
    rw [hne1] at N1
    clear hne1
    have hI2 := hI1.strip (by rw [hic]; decide)
    (try dsimp only)
    (try k_fold)
  refine wpAny_call ?_
  k_dflt ktr_enter
  k_steps
  · dsimp only [ForPost]
    rename Fr _ _ _ _ => fF
    rename News _ _ _ _ => fN
    refine ForEnd.intro ⟨vs1, sup cts k, e1⟩ fF fN (.tail _ (.head _)) ?_ ?_ ?_ ?_ ⟨hI2, (sup_length ..).trans hcl, ?_⟩
    · exact List.forall_mem_cons.mpr ⟨.head _, fun p hp => .tail _ (.tail _ hp)⟩
    · exact List.forall_mem_cons.mpr (List.forall_mem_cons.mp hof)
    · kst_all
    · intro z h1 h2 h3
      simp [h1]
    · rw [← hq, hifyL, show ts.length / 2 - (i + 1) = k by omega]
  · rename News _ _ _ _ => nE'
    refine hret _ _ _ _ ⟨rfl, _, _, rfl, ?_⟩ (by assumption) nE'
    rw [← hInv.2.2, Nat.sub_self, hifyL]
    exact hInv.1
  all_goals trace_state
  all_goals w_report
end
-- LoopT
section
open PySem PySem.W PyProof.Rows PySem.Calls PyProof.V PySem.Spec
section
variable {prog : Program} {w : World} {A : Around} {E : Value → Shared → Prop} {s : Shared} {env : Env} {h₀ : Heap} {x : Str} {body : List Stmt} {Q : Flow → Shared → Prop} {target : Expr}
theorem forT {σ : Type} {I : Addr} {fp : List Addr} {n : Nat} {P Md : Nat → Value → Heap → Prop} {St : Nat → Heap → Prop} {m₀ : Str → Option Value} (W : KTurns prog w A target I fp [I] n P Md St)
    (Led : σ → List (Addr × Obj)) (ps : σ → List (Str × Value)) (stored : List Str) (Inv : Nat → σ → Prop) (c₀ : σ) (hI : h₀.get? I = none) (hfp : ∀ b ∈ fp, b = I ∨ ∃ o, ∀ c, (b, o) ∈ Led c) (hLI : env.locals ∉ fp) (hst : St 0 s.heap) (hlv : ∀ i h, St i h → ∃ o, h.get? I = some o)
    (F : Fr h₀ env.locals s.heap m₀) (N : News h₀ env.locals s.heap (Led c₀)) (hoff : ∀ p ∈ Led c₀, p.1 ≠ I) (hk : ∀ p ∈ ps c₀, m₀ p.1 = some p.2) (h0 : Inv 0 c₀)
    (turn : ∀ (i : Nat) (v : Value) (c : σ) (it : Obj) (u : Str → Option Value) (h : Heap) (tk : Nat), i < n → P i v h → Inv i c → St (i + 1) h → (∀ p ∈ Led c, p.1 ≠ I) → Fr h₀ env.locals h (fun y => if y = x then u y else kstB (fun z => if stored.contains z then u z else m₀ z) (ps c) y) → News h₀ env.locals h ((I, it) :: Led c) →
      wpAny (model prog w) A (assign target env v) (fun _ s₃ => wpAny (model prog w) A (execs body env) (ForPost h₀ env.locals { s with heap := h, toks := tk } Led ps x stored m₀ I it (Inv (i + 1)) Q) E s₃) E { s with heap := h, toks := tk })
    (done : ∀ (c : σ) (u : Str → Option Value) (h : Heap) (tk : Nat), Inv n c → Fr h₀ env.locals h (fun y => if y = x then u y else kstB (fun z => if stored.contains z then u z else m₀ z) (ps c) y) → News h₀ env.locals h (Led c) → Q .next { s with heap := h, toks := tk }) :
    TurnsAt prog w A h₀ env target body Q E (.ref I) s := by
  let J : Nat → (Str → Option Value) → List (Addr × Obj) → Prop := fun i m nx => ∃ c, nx = Led c ∧ (∀ p ∈ ps c, m p.1 = some p.2) ∧ (∀ z, z ≠ x → (∀ p ∈ ps c, z ≠ p.1) → stored.contains z = false → m z = m₀ z) ∧ Inv i c
  refine ⟨I, fp, [I], n, P, Md, St, m₀, Led c₀, J, rfl, W, hLI, fun b hb => by rw [List.mem_singleton.mp hb]; exact hI, fun p hp hm => hoff p hp (List.mem_singleton.mp hm), hst, F, N, ⟨c₀, rfl, hk, fun _ _ _ _ => rfl, h0⟩, ?_, ?_⟩
  · rintro i v m₁ news₁ h tk own hin hP ⟨c, rfl, h1, h2, hInv⟩ hoff₁ hsub hget hall hst₁ F₁ N₁
    have hIfp : I ∈ fp := W.sub I (List.mem_singleton.mpr rfl)
    have hoffc : ∀ p ∈ Led c, p.1 ≠ I := fun p hp e => hoff₁ p hp (List.mem_singleton.mpr e)
    obtain ⟨it, hit⟩ := hlv _ _ hst₁
    have hmI := hall I hIfp hI it hit
    have N₂ : News h₀ env.locals h ((I, it) :: Led c) := fun p hp => by
      rcases List.mem_cons.mp hp with rfl | hp
      · exact N₁ _ (List.mem_append_left _ hmI)
      · exact N₁ p (List.mem_append_right _ hp)
    have ownIn : ∀ p ∈ own, p = (I, it) ∨ ∀ c', p ∈ Led c' := fun p hp => by
      obtain ⟨b, ob⟩ := p
      rcases hfp b (hsub _ hp) with e | ⟨o, ho⟩
      · left
        have e : b = I := e
        have g := hget _ hp
        have g' : h.get? b = some ob := g
        rw [e, hit] at g'
        rw [e, Option.some.inj g']
      · right
        intro c'
        have g : h.get? b = some ob := hget _ hp
        have g2 := (N₁ _ (List.mem_append_right own (ho c))).1
        have g3 : h.get? b = some o := g2
        rw [g] at g3
        rw [Option.some.inj g3]
        exact ho c'
    refine wpAny_mono (turn i v c it m₁ h tk hin hP hInv hst₁ hoffc (kst_frOut h1 h2 F₁) N₂) (fun _ s₃ q => wpAny_mono q (fun f s₂ p => ?_) fun _ _ e => e) fun _ _ e => e
    have fin : ForEnd h₀ env.locals { s with heap := h, toks := tk } Led ps x stored m₀ I it (Inv (i + 1)) s₂ → LoopStepU h₀ env.locals [I] own (J (i + 1)) { s with heap := h, toks := tk } .next s₂ := by
      rintro ⟨c', h', tk', m', news', e, F', N', hI', hL', hoff', hps, hz, hInv'⟩
      refine ⟨rfl, h', tk', m', Led c', e, F', fun p hp => ?_, fun p hp hm => hoff' p hp (List.mem_singleton.mp hm), c', rfl, hps, hz, hInv'⟩
      rcases List.mem_append.mp hp with hp | hp
      · rcases ownIn p hp with e | e
        · rw [e]; exact N' _ hI'
        · exact N' _ (hL' p (e c'))
      · exact N' _ (hL' p hp)
    cases f with
    | ret v => exact .ret p
    | brk => exact .brk p
    | next => exact .next (fin p)
    | cont => exact .cont (fin p)
  · rintro h' tk m' news' F' N' _ ⟨c, rfl, h1, h2, hInv⟩
    exact done c m' h' tk hInv (kst_frOut h1 h2 F') N'
theorem forItems {σ : Type} {elts : List Expr} {kk : Nat} {pos : Pos} {d vw : Addr} {od : Obj} {kvs : List (Int × Value)} {m₀ : Str → Option Value} (Led : σ → List (Addr × Obj)) (ps : σ → List (Str × Value)) (stored : List Str) (Inv : Nat → σ → Prop) (c₀ : σ)
    (hh : A.handled = none) (hvw : ∃ ov, s.heap.get? vw = some ov ∧ ov.cls = .type "dict_items" ∧ ov.data = .fields #[.ref d]) (hm : ∀ c, (d, od) ∈ Led c) (hd : od.IsDictOf (PySem.intKind prog w) kvs)
    (F : Fr h₀ env.locals s.heap m₀) (N : News h₀ env.locals s.heap (Led c₀)) (hk : ∀ p ∈ ps c₀, m₀ p.1 = some p.2) (h0 : Inv 0 c₀)
    (turn : ∀ (i : Nat) (T I : Addr) (k : Int) (t : Tok) (v : Value) (c : σ) (it : Obj) (u : Str → Option Value) (h : Heap) (tk : Nat), i < kvs.length → kvs[i]? = some (k, v) → IsTup h T #[.int k t, v] → Inv i c → it.cls = .type "dict_itemiterator" → (∀ p ∈ Led c₀, @LT.lt Nat _ p.1 I) → (∀ p ∈ Led c, p.1 ≠ I) → Fr h₀ env.locals h (fun y => if y = x then u y else kstB (fun z => if stored.contains z then u z else m₀ z) (ps c) y) → News h₀ env.locals h ((I, it) :: Led c) →
      wpAny (model prog w) A (assign (.Tuple elts kk pos) env (.ref T)) (fun _ s₃ => wpAny (model prog w) A (execs body env) (ForPost h₀ env.locals { s with heap := h, toks := tk } Led ps x stored m₀ I it (Inv (i + 1)) Q) E s₃) E { s with heap := h, toks := tk })
    (done : ∀ (c : σ) (u : Str → Option Value) (h : Heap) (tk : Nat), Inv kvs.length c → Fr h₀ env.locals h (fun y => if y = x then u y else kstB (fun z => if stored.contains z then u z else m₀ z) (ps c) y) → News h₀ env.locals h (Led c) → Q .next { s with heap := h, toks := tk }) :
    wpAny (model prog w) A (pyIter (.ref vw)) (fun it s₂ => TurnsAt prog w A h₀ env (.Tuple elts kk pos) body Q E it s₂) E s := by
  have hax := N _ (hm c₀)
  obtain ⟨ep, hat⟩ := (kda_dict N (hm c₀) hd).dictAt
  have hne : d ≠ s.heap.objs.size := Nat.ne_of_lt hat.lt_size
  have hlt : ∀ p ∈ Led c₀, @LT.lt Nat _ p.1 s.heap.objs.size := fun p hp => Heap.lt_size (N p hp).1
  refine wpAny_pyIter_items hvw hat ?_
  refine forT (I := s.heap.objs.size) (s := { s with heap := s.heap.push _ }) (kti_itemsTurns (knd := PySem.intKind prog w) hh s.heap.objs.size d hne kvs ep) Led ps stored Inv c₀ (next_is_new F) (fun b hb => ?_) (fun hmm => ?_) ⟨⟨_, _, Heap.get?_push_size _ rfl⟩, hat.push _⟩ (fun i h hs => ?_) (F.push _) (fun p hp => ⟨Heap.get?_push_of_some _ (N p hp).1, (N p hp).2⟩) (fun p hp => Nat.ne_of_lt (hlt p hp)) hk h0 ?_ done
  · rcases List.mem_cons.mp hb with e | hb
    · exact .inl e
    · exact .inr ⟨od, fun c => List.mem_singleton.mp hb ▸ hm c⟩
  · rcases List.mem_cons.mp hmm with e | hmm
    · exact absurd F.ns.lt (e ▸ Nat.lt_irrefl _)
    · exact hax.2.1 (List.mem_singleton.mp hmm).symm
  · obtain ⟨⟨_, _, he⟩, _⟩ := hs
    exact ⟨_, he⟩
  · rintro i v c it u h tk hi ⟨T, key, k, x, rfl, hx, hkey, hT⟩ hInv hst₁ hoff F₁ N₁
    obtain ⟨⟨_, _, he⟩, _⟩ := hst₁
    have g := (N₁ _ (.head _)).1
    rw [show h.get? s.heap.objs.size = _ from he] at g
    have hc := congrArg Obj.cls (Option.some.inj g).symm
    obtain ⟨t, rfl⟩ := Value.isInt_shape hkey
    exact turn i T s.heap.objs.size k t x c it u h tk hi hx hT hInv hc hlt hoff F₁ N₁
end
end
-- DictD
section
open PySem PySem.W PyProof.Rows PySem.Calls
/-- the pairs of a dict of int keys and int tuples, told by the ledger -/
inductive DItems (news : Led) : List (Int × Value) → List (Int × List Int) → Prop
  | nil : DItems news [] []
  | cons {k : Int} {v : Value} {t : List Int} {kvs : List (Int × Value)} {D : List (Int × List Int)} : HItem news v t → DItems news kvs D → DItems news ((k, v) :: kvs) ((k, t) :: D)
theorem DItems.mono {news news' : Led} {kvs : List (Int × Value)} {D : List (Int × List Int)} (h : DItems news kvs D) (hs : ∀ p ∈ news, p ∈ news') : DItems news' kvs D := by
  induction h with
  | nil => exact .nil
  | cons h _ ih => exact .cons (h.mono hs) ih
/-- the store of a key -/
noncomputable def dput (D : List (Int × List Int)) (k : Int) (t : List Int) : List (Int × List Int) := if D.any (fun q => q.1 = k) then D.map (fun q => if q.1 = k then (q.1, t) else q) else D ++ [(k, t)]
noncomputable def dget (D : List (Int × List Int)) (k : Int) : Option (List Int) := (D.find? fun q => q.1 = k).map (·.2)
theorem DItems.any {news : Led} {kvs : List (Int × Value)} {D : List (Int × List Int)} (h : DItems news kvs D) (k : Int) : kvs.any (fun q => q.1 = k) = D.any (fun q => q.1 = k) := by
  induction h with
  | nil => rfl
  | cons _ _ ih => rw [List.any_cons, List.any_cons, ih]
theorem DItems.set {news : Led} {kvs : List (Int × Value)} {D : List (Int × List Int)} {k : Int} {v : Value} {t : List Int} (h : DItems news kvs D) (hv : HItem news v t) :
    DItems news (kvs.map fun q => if q.1 = k then (q.1, v) else q) (D.map fun q => if q.1 = k then (q.1, t) else q) := by
  induction h with
  | nil => exact .nil
  | cons h _ ih =>
    rw [List.map_cons, List.map_cons]
    split
    · exact .cons hv ih
    · exact .cons h ih
theorem DItems.snoc {news : Led} {kvs : List (Int × Value)} {D : List (Int × List Int)} {k : Int} {v : Value} {t : List Int} (h : DItems news kvs D) (hv : HItem news v t) : DItems news (kvs ++ [(k, v)]) (D ++ [(k, t)]) := by
  induction h with
  | nil => exact .cons hv .nil
  | cons h _ ih => exact .cons h ih
theorem DItems.put {news : Led} {kvs : List (Int × Value)} {D : List (Int × List Int)} {k : Int} {v : Value} {t : List Int} (h : DItems news kvs D) (hv : HItem news v t) : DItems news (stored kvs k v) (dput D k t) := by
  rw [stored, dput, h.any k]
  split
  · exact h.set hv
  · exact h.snoc hv
theorem DItems.get {news : Led} {kvs : List (Int × Value)} {D : List (Int × List Int)} (h : DItems news kvs D) (k : Int) :
    (dget D k = none ∧ valueAt kvs k = none) ∨ ∃ t v, dget D k = some t ∧ valueAt kvs k = some v ∧ HItem news v t := by
  induction h with
  | nil => exact .inl ⟨rfl, rfl⟩
  | @cons j v t kvs D h _ ih =>
    by_cases e : j = k
    · exact .inr ⟨t, v, by simp [dget, e], by simp [valueAt, e], h⟩
    · rcases ih with ⟨a, b⟩ | ⟨t, v, a, b, c⟩
      · exact .inl ⟨by simpa [dget, e] using a, by simpa [valueAt, e] using b⟩
      · exact .inr ⟨t, v, by simpa [dget, e] using a, by simpa [valueAt, e] using b, c⟩
theorem DItems.at {news : Led} {kvs : List (Int × Value)} {D : List (Int × List Int)} (h : DItems news kvs D) : ∀ {i : Nat} {k : Int} {v : Value}, kvs[i]? = some (k, v) → ∃ t, D[i]? = some (k, t) ∧ HItem news v t := by
  induction h with
  | nil => intro i k v e; simp at e
  | cons h _ ih =>
    intro i k v e
    cases i with
    | zero =>
      simp at e
      obtain ⟨rfl, rfl⟩ := e
      exact ⟨_, rfl, h⟩
    | succ i => exact ih (by simpa using e)
theorem stored_take {kvs : List (Int × Value)} {i : Nat} {k : Int} {v : Value} (hn : (kvs.map (·.1)).Nodup) (hx : kvs[i]? = some (k, v)) : stored (kvs.take i) k v = kvs.take (i + 1) := by
  rw [stored_absent (valueAt_none_of_not_mem fun hm => ?_), List.take_add_one, hx]
  · rfl
  · obtain ⟨q, hq, e⟩ := List.mem_map.mp hm
    obtain ⟨j, hj, e2⟩ := List.getElem_of_mem hq
    have hj' : j < i ∧ j < kvs.length := by rw [List.length_take] at hj; omega
    have hi : i < kvs.length := by
      rcases Nat.lt_or_ge i kvs.length with h | h
      · exact h
      · rw [List.getElem?_eq_none h] at hx; cases hx
    rw [List.getElem_take] at e2
    have h1 : (kvs.map (·.1))[j]'(by simpa using hj'.2) = k := by rw [List.getElem_map, e2, e]
    have h2 : (kvs.map (·.1))[i]'(by simpa using hi) = k := by
      rw [List.getElem_map]
      rw [List.getElem?_eq_getElem hi] at hx
      rw [Option.some.inj hx]
    exact absurd (h1.trans h2.symm) (List.pairwise_iff_getElem.mp hn j i (by simpa using hj'.2) (by simpa using hi) hj'.1)
section
variable {prog : Program} {w : World} {A : Around} {E : Value → Shared → Prop} {s : Shared} {h₀ : Heap} {L D : Addr} {m : Str → Option Value} {news : Led} {o : Obj} {kvs : List (Int × Value)} {k : Int} {u : Tok} {v : Value}
theorem dset {Q : Unit → Shared → Prop} (F : Fr h₀ L s.heap m) (N : News h₀ L s.heap ((D, o) :: news)) (hD : ∀ p ∈ news, p.1 ≠ D) (hd : o.IsDictOf (PySem.intKind prog w) kvs) (hsz : kvs.length ≤ 4096)
    (h : ∀ h' o', Fr h₀ L h' m → News h₀ L h' ((D, o') :: news) → o'.IsDictOf (PySem.intKind prog w) (stored kvs k v) → Q () { s with heap := h', toks := s.toks + 1 }) : wpAny (model prog w) A (setItem (.ref D) (.int k u) v) Q E s := by
  have hm := N (D, o) (.head _)
  refine wpAny_setItem_pairs (hsz := by rw [sizeLine_eq]; exact Nat.le_trans hsz (by decide)) (intKind_is _ _ _ _) (Heap.dictOf_iff.mpr ⟨o, hm.1, hd⟩) fun h' hmm hs => ?_
  obtain ⟨o', ho', hd'⟩ := Heap.dictOf_iff.mp hmm
  exact h h' o' (F.change hs hm.2.1 hm.2.2) (News.setIn (own := []) N (fun _ hp => nomatch hp) hD hs ho') hd'
end
theorem DItems.length {news : Led} {kvs : List (Int × Value)} {D : List (Int × List Int)} (h : DItems news kvs D) : kvs.length = D.length := by
  induction h with
  | nil => rfl
  | cons _ _ ih => simp [ih]
end
-- ZipTup
section
open PySem PySem.W PyProof.Rows PySem.Calls
/-- a string that is not told yet: the walker's try ends at once -/
theorem nilFits : (Str.ofString "").length ≤ sizeLine := Nat.zero_le _
local macro_rules | `(tactic| size_fits) => `(tactic| with_reducible exact nilFits)
/-- a zip object over two tuples, k pairs told -/
noncomputable abbrev ZipSt (z TI TO i1 i2 l1 l2 : Addr) (xs ys : Array Value) (f : Value) (k : Nat) (h : Heap) : Prop :=
  IsZip h z TI TO f ∧ IsPair h TI (.ref i1) (.ref i2) ∧ (∃ a b, IsPair h TO a b) ∧ h.IsTupleIter i1 l1 k ∧ h.IsTupleIter i2 l2 k ∧ h.IsTuple l1 xs ∧ h.IsTuple l2 ys
theorem ZipSt.moved {z TI TO i1 i2 l1 l2 : Addr} {xs ys : Array Value} {f g : Value} {k : Nat} {h h' : Heap} (D : ZipApart z TI TO i1 i2 l1 l2) (st : ZipSt z TI TO i1 i2 l1 l2 xs ys f k h) (hz : IsZip h' z TI TO g) (e : Heap.ExtBut z h h') : ZipSt z TI TO i1 i2 l1 l2 xs ys g k h' := by
  obtain ⟨_, t, ⟨a, b, o⟩, j1, j2, m1, m2⟩ := st
  exact ⟨hz, e _ _ D.TIz t, ⟨a, b, e _ _ D.TOz o⟩, j1.extBut e D.i1z, j2.extBut e D.i2z, m1.extBut e D.l1z, m2.extBut e D.l2z⟩
theorem ZipSt.framed {z TI TO i1 i2 l1 l2 : Addr} {xs ys : Array Value} {f : Value} {k : Nat} {h h' : Heap} (st : ZipSt z TI TO i1 i2 l1 l2 xs ys f k h) (e : ∀ b ∈ [z, TI, TO, i1, i2, l1, l2], ∀ o, h.get? b = some o → h'.get? b = some o) : ZipSt z TI TO i1 i2 l1 l2 xs ys f k h' := by
  simp only [List.forall_mem_cons, List.not_mem_nil, false_implies, implies_true, and_true] at e
  obtain ⟨e1, e2, e3, e4, e5, e6, e7⟩ := e
  obtain ⟨o, t, ⟨a, b, p⟩, ⟨_, q1, r1⟩, ⟨_, q2, r2⟩, ⟨_, q3, r3⟩, _, q4, r4⟩ := st
  exact ⟨e1 _ o, e2 _ t, ⟨a, b, e3 _ p⟩, ⟨_, e4 _ q1, r1⟩, ⟨_, e5 _ q2, r2⟩, ⟨_, e6 _ q3, r3⟩, _, e7 _ q4, r4⟩
section
variable {prog : Program} {w : World} {A : Around} {E : Value → Shared → Prop} {s : Shared}
theorem tupNext {it t : Addr} {i : Nat} {items : Array Value} {Q : Value → Shared → Prop} (hh : A.handled = none) (hit : s.heap.IsTupleIter it t i) (ht : s.heap.IsTuple t items)
    (hQ : ∀ x h', items[i]? = some x → h'.IsTupleIter it t (i + 1) → Heap.SameBut it s.heap h' → Q x { s with heap := h' })
    (hE : ∀ h' e, items[i]? = none → Heap.ExtBut it s.heap h' → (∃ o, h'.get? e = some o ∧ o.cls = .type "StopIteration") → E (.ref e) { s with heap := h' }) :
    wpAny (model prog w) A (Builtin.SmallTypes.nextOf (.ref it)) Q E s := by
  have hty := hit.typeIs
  have hh1 : A.in1.handled = none := hh
  obtain ⟨o, ho, hc, hd⟩ := hit
  obtain ⟨ot, hot, _, n, hdt⟩ := ht
  refine wpAny_bind (wpAny_callSpecial?_slot (name := Str.ofString "__next__") hty F.slot_tuple_iterator_next (wpAny_call_entry F.slot_tuple_iterator_next hty F.entry_tuple_iterator_next ?_ (F.args_tuple_iterator_next_1 _)))
  cases o
  cases ot
  cases hc
  cases hd
  cases hdt
  simp only [Builtin.«tuple_iterator.__next__»]
  wp_walk
  rw [Int.toNat_natCast]
  cases hx : items[i]?
  · wp_walk
    simp only [raiseNew]
    wp_walk
    exact hE _ _ hx (((Heap.SameBut.update ..).extBut.push _).push _) ⟨_, Heap.get?_push_size _ rfl, rfl⟩
  · wp_walk
    exact ⟨_, rfl, wpAny_pure (hQ _ _ hx ⟨_, Heap.get?_update_self _ ho rfl, rfl, rfl⟩ (.update ..))⟩
theorem zipNext {z TI TO i1 i2 l1 l2 : Addr} {k : Nat} {xs ys : Array Value} {Q : Value → Shared → Prop} (hh : A.handled = none) (D : ZipApart z TI TO i1 i2 l1 l2) (hn : ys.size = xs.size)
    (st : ZipSt z TI TO i1 i2 l1 l2 xs ys .none k s.heap)
    (hQ : ∀ x y h', xs[k]? = some x → ys[k]? = some y → ZipSt z TI TO i1 i2 l1 l2 xs ys (rawInt s.heap.objs.size) (k + 1) h' → IsPair h' s.heap.objs.size x y →
      (∀ c o, c ∉ [z, TO, i1, i2] → s.heap.get? c = some o → h'.get? c = some o) → Q (.ref s.heap.objs.size) { s with heap := h' })
    (hE : ∀ h' e, xs[k]? = none → (∀ c o, c ∉ [z, TO, i1, i2] → s.heap.get? c = some o → h'.get? c = some o) → (∃ o, h'.get? e = some o ∧ o.cls = .type "StopIteration") → E (.ref e) { s with heap := h' }) :
    wpAny (model prog w) A (Builtin.«zip.__next__» ⟨[.ref z], []⟩) (fun fin s' => ∃ v, fin = .done (.ret v) ∧ Q v s') E s := by
  obtain ⟨hz, hTI, ⟨a, b, hTO⟩, h1, h2, hl1, hl2⟩ := st
  have up : ∀ (p : Addr) (h : Heap) f, Heap.ExtBut p h (h.update p f) := fun p h f => (Heap.SameBut.update ..).extBut
  have nin : ∀ {c : Addr}, c ∉ [z, TO, i1, i2] → c ≠ z ∧ c ≠ TO ∧ c ≠ i1 ∧ c ≠ i2 := fun h => by simpa using h
  have hz1 : IsZip (s.heap.update z (Obj.mapFields fun x => x.setIfInBounds 0 Value.ellipsis)) z TI TO .ellipsis := Heap.get?_update_self _ hz rfl
  simp only [Builtin.«zip.__next__»]
  wp_walk using wpAny_onRaise, tupNext hh (h1.extBut (up _ _ _) D.i1z) (hl1.extBut (up _ _ _) D.l1z)
  · intro x h₂ hx g1 b1
    have e1 := b1.extBut
    dsimp only at b1 e1 ⊢
    have hz2 : IsZip h₂ z TI TO .ellipsis := e1 _ _ D.i1z.symm hz1
    have hTO2 : IsPair h₂ TO a b := e1 _ _ D.TOi1 (up _ _ _ _ _ D.TOz hTO)
    wp_walk using wpAny_onRaise, tupNext hh (((h2.extBut (up _ _ _) D.i2z).extBut e1 D.i12.symm).extBut (up _ _ _) D.TOi2.symm) (((hl2.extBut (up _ _ _) D.l2z).extBut e1 D.l2i1).extBut (up _ _ _) D.l2TO)
    · intro y h₄ hy g2 b2
      have e2 := b2.extBut
      dsimp only at b2 e2 ⊢
      have hTO3 : IsPair (h₂.update TO (Obj.mapSeq fun v => v.setIfInBounds 0 x)) TO x b := Heap.get?_update_self _ hTO2 rfl
      have hTO4 : IsPair h₄ TO x b := e2 _ _ D.TOi2 hTO3
      have hz4 : IsZip h₄ z TI TO .ellipsis := e2 _ _ D.i2z.symm (up _ _ _ _ _ D.TOz.symm hz2)
      have c1 : TO ≠ z := D.TOz
      wp_walk
      have hTO5 : IsPair (h₄.update TO (Obj.mapSeq fun v => v.setIfInBounds (0 + 1) y)) TO x y := Heap.get?_update_self _ hTO4 rfl
      have sz : (h₄.update TO (Obj.mapSeq fun v => v.setIfInBounds (0 + 1) y)).objs.size = s.heap.objs.size := by
        rw [Heap.size_after_update, b2.1, Heap.size_after_update, b1.1, Heap.size_after_update]
      have kp : ∀ c o, c ∉ [z, TO, i1, i2] → s.heap.get? c = some o → (h₄.update TO (Obj.mapSeq fun v => v.setIfInBounds (0 + 1) y)).get? c = some o := fun c o hc q => by
        obtain ⟨n1, n2, n3, n4⟩ := nin hc
        exact up _ _ _ _ _ n2 (e2 _ _ n4 (up _ _ _ _ _ n2 (e1 _ _ n3 (up _ _ _ _ _ n1 q))))
      have stK : ZipSt z TI TO i1 i2 l1 l2 xs ys .ellipsis (k + 1) (h₄.update TO (Obj.mapSeq fun v => v.setIfInBounds (0 + 1) y)) :=
        ⟨up _ _ _ _ _ D.TOz.symm hz4, kp _ _ (by simp [D.TIz, D.TITO, D.TIi1, D.TIi2]) hTI, ⟨_, _, hTO5⟩, ((g1.extBut (up _ _ _) D.TOi1.symm).extBut e2 D.i12).extBut (up _ _ _) D.TOi1.symm, g2.extBut (up _ _ _) D.TOi2.symm,
          (let ⟨_, q, r⟩ := hl1; ⟨_, kp _ _ (by simp [D.l1z, D.l1TO, D.l1i1, D.l1i2]) q, r⟩), (let ⟨_, q, r⟩ := hl2; ⟨_, kp _ _ (by simp [D.l2z, D.l2TO, D.l2i1, D.l2i2]) q, r⟩)⟩
      generalize h₄.update TO (Obj.mapSeq fun v => v.setIfInBounds (0 + 1) y) = K at *
      rw [← sz] at hQ
      refine ⟨_, rfl, hQ x y _ hx hy (stK.moved D (Heap.get?_update_self _ (Heap.get?_update_self _ (Heap.get?_push_of_some _ stK.1) rfl) rfl) fun c o hc q => up _ _ _ _ _ hc (up _ _ _ _ _ hc (Heap.get?_push_of_some _ q))) ?_ fun c o hc q => ?_⟩
      · have nz : K.objs.size ≠ z := Nat.ne_of_gt (Heap.lt_size stK.1)
        exact up _ _ _ _ _ nz (up _ _ _ _ _ nz (Heap.get?_push_size _ rfl))
      · have nz := (nin hc).1
        exact up _ _ _ _ _ nz (up _ _ _ _ _ nz (Heap.get?_push_of_some _ (kp c o hc q)))
    · intro h' e hy
      have q1 := (Array.getElem?_eq_some_iff.mp hx).1
      have q2 := Array.getElem?_eq_none_iff.mp hy
      exact absurd q1 (Nat.not_lt.mpr (hn ▸ q2))
  · intro h₂ e hx e1 he
    dsimp only at e1 ⊢
    have hz2 : IsZip h₂ z TI TO .ellipsis := e1 _ _ D.i1z.symm hz1
    obtain ⟨oe, ho, hc⟩ := he
    have nz : e ≠ z := fun q => by
      rw [q, hz2] at ho
      cases ho
      simp at hc
    wp_walk
    exact hE _ e hx (fun c o hc q => up _ _ _ _ _ (nin hc).1 (e1 _ _ (nin hc).2.2.1 (up _ _ _ _ _ (nin hc).1 q))) ⟨oe, up _ _ _ _ _ nz ho, hc⟩
/-- zip over two tuples of the same length -/
theorem zipTU (hh : A.handled = none) (z TI TO i1 i2 l1 l2 : Addr) (D : ZipApart z TI TO i1 i2 l1 l2) (xs ys : Array Value) (hn : ys.size = xs.size) :
    WalksU prog w A z [z, TI, TO, i1, i2, l1, l2] [z, TO, i1, i2] xs.size (fun i v => ∃ x y, xs[i]? = some x ∧ ys[i]? = some y ∧ v = #[x, y])
      (fun i h => ZipSt z TI TO i1 i2 l1 l2 xs ys .none i h) (fun i T h => ZipSt z TI TO i1 i2 l1 l2 xs ys (rawInt T) (i + 1) h ∧ T ∉ [z, TO, i1, i2]) where
  sub := by simp
  frame := fun _ _ _ st e => st.framed e
  apart := fun _ _ _ st => st.2
  self := fun _ _ _ _ st h => wpAny_pyIter_zip st.1 h
  go := fun _ _ _ _ _ _ _ _ st h => wpAny_letOwnedTupleGo_zip st.1.1 fun _ hz hs => h _ (st.1.moved D hz hs.extBut) fun c o hc e => hs.2 c (fun q => hc (by simp [q])) ▸ e
  item := fun i s Q E hi st h => by
    have ty : s.TypeIs (.ref z) "zip" := ⟨_, st.1, rfl⟩
    refine wpAny_bind (wpAny_attempt (wpAny_callSpecial?_slot (name := Str.ofString "__next__") ty F.slot_zip_next (wpAny_call_entry F.slot_zip_next ty F.entry_zip_next (zipNext hh D hn st (fun x y h' hx hy g p kp => wpAny_pure ?_) fun h' e hx => ?_) (F.args_zip_next_1 _))))
    · refine h _ _ h' s.toks ⟨x, y, hx, hy, rfl⟩ ⟨_, p, rfl, _, rfl⟩ ⟨g, fun q => ?_⟩ kp
      obtain ⟨o1, _, ⟨_, _, o3⟩, ⟨_, o4, _⟩, ⟨_, o5, _⟩, _⟩ := id st
      have lt := Nat.lt_irrefl s.heap.objs.size
      simp only [List.mem_cons, List.not_mem_nil, or_false] at q
      rcases q with q | q | q | q
      · exact lt (q ▸ Heap.lt_size o1)
      · exact lt (q ▸ Heap.lt_size o3)
      · exact lt (q ▸ Heap.lt_size o4)
      · exact lt (q ▸ Heap.lt_size o5)
    · exact absurd hi (Nat.not_lt.mpr (Array.getElem?_eq_none_iff.mp hx))
  done := fun s Q E st h => by
    have ty : s.TypeIs (.ref z) "zip" := ⟨_, st.1, rfl⟩
    refine wpAny_bind (wpAny_attempt (wpAny_callSpecial?_slot (name := Str.ofString "__next__") ty F.slot_zip_next (wpAny_call_entry F.slot_zip_next ty F.entry_zip_next (zipNext hh D hn st (fun x y h' hx => ?_) fun h' e _ kp he => ?_) (F.args_zip_next_1 _))))
    · exact absurd (Array.getElem?_eq_some_iff.mp hx).1 (Nat.lt_irrefl _)
    · obtain ⟨o, ho, hc⟩ := he
      exact wpAny_bind (wpAny_isInstance (T := "StopIteration") (b := true) ⟨o, ho, hc⟩ isSubtype_stop (wpAny_pure (h _ s.toks kp)))
end
end
-- ForG
section
open PySem PySem.W PyProof.Rows PySem.Calls PyProof.V PySem.Spec
/-- the end of a turn, the generators aside -/
noncomputable def EndG {σ : Type} (h₀ : Heap) (L : Addr) (os₀ : OsState) (Led : σ → List (Addr × Obj)) (ps : σ → List (Str × Value)) (free : Str → Prop) (m₀ : Str → Option Value) (own : List (Addr × Obj)) (Inv : σ → Prop) (s₂ : Shared) : Prop :=
  ∃ (c' : σ) (m' : Str → Option Value) (news' : List (Addr × Obj)), AllBare s₂.gens ∧ s₂.os = os₀ ∧ Fr h₀ L s₂.heap m' ∧ News h₀ L s₂.heap news' ∧ (∀ p ∈ own, p ∈ news') ∧ (∀ p ∈ Led c', p ∈ news') ∧ (∀ p ∈ Led c', ∀ q ∈ own, p.1 ≠ q.1) ∧ (∀ p ∈ ps c', m' p.1 = some p.2) ∧ (∀ z, ¬ free z → (∀ p ∈ ps c', z ≠ p.1) → m' z = m₀ z) ∧ Inv c'
noncomputable def PostG {σ : Type} (h₀ : Heap) (L : Addr) (os₀ : OsState) (Led : σ → List (Addr × Obj)) (ps : σ → List (Str × Value)) (free : Str → Prop) (m₀ : Str → Option Value) (own : List (Addr × Obj)) (Inv : σ → Prop) (Q : Flow → Shared → Prop) (f : Flow) (s₂ : Shared) : Prop :=
  match f with
  | .ret v => Q (.ret v) s₂
  | .brk => Q .next s₂
  | _ => EndG h₀ L os₀ Led ps free m₀ own Inv s₂
theorem EndG.intro {σ : Type} {h₀ : Heap} {L : Addr} {os₀ : OsState} {Led : σ → List (Addr × Obj)} {ps : σ → List (Str × Value)} {free : Str → Prop} {m₀ : Str → Option Value} {own : List (Addr × Obj)} {Inv : σ → Prop} {s₂ : Shared} {m' : Str → Option Value} {news' : List (Addr × Obj)} (c' : σ)
    (G : AllBare s₂.gens) (O : s₂.os = os₀) (F : Fr h₀ L s₂.heap m') (N : News h₀ L s₂.heap news') (h1 : ∀ p ∈ own, p ∈ news') (h2 : ∀ p ∈ Led c', p ∈ news') (h3 : ∀ p ∈ Led c', ∀ q ∈ own, p.1 ≠ q.1) (h4 : ∀ p ∈ ps c', m' p.1 = some p.2) (h5 : ∀ z, ¬ free z → (∀ p ∈ ps c', z ≠ p.1) → m' z = m₀ z) (h6 : Inv c') :
    EndG h₀ L os₀ Led ps free m₀ own Inv s₂ := ⟨c', m', news', G, O, F, N, h1, h2, h3, h4, h5, h6⟩
section
variable {prog : Program} {w : World} {A : Around} {E : Value → Shared → Prop} {s : Shared} {env : Env} {h₀ : Heap} {L : Addr} {body : List Stmt} {Q : Flow → Shared → Prop} {target : Expr}
theorem kst_frG {h : Heap} {ps : List (Str × Value)} {free : Str → Prop} [DecidablePred free] {m₀ m₁ : Str → Option Value} (h1 : ∀ p ∈ ps, m₁ p.1 = some p.2) (h2 : ∀ z, ¬ free z → (∀ p ∈ ps, z ≠ p.1) → m₁ z = m₀ z)
    (F : Fr h₀ L h m₁) : Fr h₀ L h (kstB (fun z => if free z then m₁ z else m₀ z) ps) := by
  have em : kstB (fun z => if free z then m₁ z else m₀ z) ps = m₁ := by
    funext y
    refine kstB_eq h1 fun hn => ?_
    show (if free y then m₁ y else m₀ y) = m₁ y
    by_cases h3 : free y
    · rw [if_pos h3]
    · rw [if_neg h3, h2 y h3 hn]
  rw [em]
  exact F
/-- a while whose turns may make generators -/
theorem whileG {σ : Type} {test : Expr} {pos : Pos} {m₀ : Str → Option Value} (Led : σ → List (Addr × Obj)) (ps : σ → List (Str × Value)) (stored : List Str) (P : σ → Prop) (μ : σ → Nat) (c₀ : σ)
    (F : Fr h₀ L s.heap m₀) (N : News h₀ L s.heap (Led c₀)) (G : AllBare s.gens) (hk : ∀ p ∈ ps c₀, m₀ p.1 = some p.2) (hp : P c₀)
    (turn : ∀ (c : σ) (u : Str → Option Value) (s₁ : Shared), P c → AllBare s₁.gens → s₁.os = s.os → Fr h₀ L s₁.heap (kstB (fun z => if stored.contains z = true then u z else m₀ z) (ps c)) → News h₀ L s₁.heap (Led c) →
      wpAny (model prog w) A (isTrue test env (eval test env)) (fun b s₂ =>
        if b = true then wpAny (model prog w) A (execs body env) (PostG h₀ L s.os Led ps (fun z => stored.contains z = true) m₀ [] (fun c' => P c' ∧ μ c' < μ c) Q) E s₂ else Q .next s₂) E s₁)
    (hE : PassesOwn (model prog w) A env E := by passes_own) :
    wpAny (model prog w) A (exec (.While test body [] pos) env) Q E s := by
  refine wpAny_While (codeAny_whileLoop (fun n s' => ∃ (c : σ) (m₁ : Str → Option Value), n = μ c ∧ P c ∧ AllBare s'.gens ∧ s'.os = s.os ∧ Fr h₀ L s'.heap m₁ ∧ News h₀ L s'.heap (Led c) ∧ (∀ p ∈ ps c, m₁ p.1 = some p.2) ∧ (∀ z, ¬ stored.contains z = true → (∀ p ∈ ps c, z ≠ p.1) → m₁ z = m₀ z)) ?_ (μ c₀)
    ⟨c₀, m₀, rfl, hp, G, rfl, F, N, hk, fun _ _ _ => rfl⟩)
  rintro n s' ⟨c, m₁, rfl, hp', G', O', F', N', h1, h2⟩
  refine wpAny_mono (turn c m₁ s' hp' G' O' (kst_frG (free := fun z => stored.contains z = true) h1 h2 F') N') (fun b s₂ p => ?_) hE
  cases b with
  | false =>
    simp only [Bool.false_eq_true, if_false] at p ⊢
    exact wpAny_execs_nil p
  | true =>
    simp only [if_true] at p ⊢
    refine wpAny_mono p (fun f s₃ q => ?_) hE
    cases f with
    | ret v => exact q
    | brk => exact q
    | next =>
      obtain ⟨c', m', news', g1, g2, g3, g4, _, g5, _, g6, g7, g8, g9⟩ := q
      exact ⟨μ c', g9, c', m', rfl, g8, g1, g2, g3, fun p hp => g4 p (g5 p hp), g6, g7⟩
    | cont =>
      obtain ⟨c', m', news', g1, g2, g3, g4, _, g5, _, g6, g7, g8, g9⟩ := q
      exact ⟨μ c', g9, c', m', rfl, g8, g1, g2, g3, fun p hp => g4 p (g5 p hp), g6, g7⟩
/-- a for whose turns may make generators: what the iterator must give -/
noncomputable def ForAtG (prog : Program) (w : World) (A : Around) (env : Env) (target : Expr) (body : List Stmt) (Q : Flow → Shared → Prop) (E : Value → Shared → Prop) (it : Value) (s₂ : Shared) : Prop :=
  ∃ (I : Addr) (fp wr : List Addr) (n : Nat) (P Md : Nat → Value → Heap → Prop) (St : Nat → Heap → Prop) (J : Nat → Shared → Prop), it = .ref I ∧ KTurns prog w A target I fp wr n P Md St ∧ J 0 s₂ ∧ (∀ i s', J i s' → St i s'.heap) ∧
    (∀ i v (s' : Shared) h' tk, i < n → J i s' → P i v h' → St (i + 1) h' → (∀ b o, b ∉ wr → s'.heap.get? b = some o → h'.get? b = some o) →
      wpAny (model prog w) A (assign target env v) (fun _ s₃ => wpAny (model prog w) A (execs body env) (fun f s₄ => match f with | .ret v => Q (.ret v) s₄ | .brk => Q .next s₄ | _ => J (i + 1) s₄) E s₃) E { s' with heap := h', toks := tk }) ∧
    ∀ (s' : Shared) h' tk, J n s' → (∀ b o, b ∉ wr → s'.heap.get? b = some o → h'.get? b = some o) → Q .next { s' with heap := h', toks := tk }
theorem For_G {iter : Expr} {pos : Pos}
    (h : wpAny (model prog w) A (eval iter env) (fun xv s₁ => wpAny (model prog w) A (pyIter xv) (fun it s₂ => ForAtG prog w A env target body Q E it s₂) E s₁) E s)
    (hs : ∀ x, foldedSetIterable iter env x = pure x := by intro _; rfl)
    (hE : PassesOwn (model prog w) A env E := by passes_own) :
    wpAny (model prog w) A (exec (.For target iter body [] pos) env) Q E s := by
  refine wpAny_For (wpAny_mono h (fun xv s₁ h₁ => wpAny_mono h₁ (fun it s₂ h₂ => ?_) fun _ _ e => e) fun _ _ e => e) hs
  obtain ⟨I, fp, wr, n, P, Md, St, J, rfl, W, h0, hJS, step, hQ⟩ := h₂
  refine codeAny_forLoop_any (fun k s' => ∃ i, k + i = n ∧ J i s') (fun k s' ⟨i, e, j⟩ => ?_) n ⟨0, rfl, h0⟩
  match k with
  | 0 => exact W.done _ _ _ (hJS _ s' ((Nat.zero_add i).symm.trans e ▸ j)) fun g tk up => wpAny_execs_nil (hQ s' g tk ((Nat.zero_add i).symm.trans e ▸ j) up)
  | k + 1 =>
    have lt : i < n := by omega
    refine W.item i _ _ _ lt (hJS i s' j) fun v g tk d up => W.go i v _ _ _ d fun g' p t up' => wpAny_mono (step i v s' g' tk lt j p t fun b o hb x => up' b o hb (up b o hb x)) (fun _ _ x => wpAny_mono (wpAny_passesOwn hE x) ?_ fun _ _ => id) hE
    rintro (_ | _ | _ | _) s₁ x
    · exact ⟨k, Nat.lt_succ_self k, i + 1, by omega, x⟩
    · exact x
    · exact ⟨k, Nat.lt_succ_self k, i + 1, by omega, x⟩
    · exact x
theorem forTG {σ : Type} {I : Addr} {fp : List Addr} {n : Nat} {P Md : Nat → Value → Heap → Prop} {St : Nat → Heap → Prop} {m₀ : Str → Option Value} (W : KTurns prog w A target I fp [I] n P Md St)
    (Led : σ → List (Addr × Obj)) (ps : σ → List (Str × Value)) (stored : List Str) (Inv : Nat → σ → Prop) (c₀ : σ) (hI : h₀.get? I = none) (hfp : ∀ b ∈ fp, b = I ∨ ∃ o, ∀ c, (b, o) ∈ Led c) (hLI : env.locals ∉ fp) (hst : St 0 s.heap) (hlv : ∀ i h, St i h → ∃ o, h.get? I = some o)
    (F : Fr h₀ env.locals s.heap m₀) (N : News h₀ env.locals s.heap (Led c₀)) (G : AllBare s.gens) (hoff : ∀ p ∈ Led c₀, p.1 ≠ I) (hk : ∀ p ∈ ps c₀, m₀ p.1 = some p.2) (h0 : Inv 0 c₀)
    (turn : ∀ (i : Nat) (v : Value) (c : σ) (it : Obj) (u : Str → Option Value) (s' : Shared), i < n → P i v s'.heap → Inv i c → St (i + 1) s'.heap → (∀ p ∈ Led c, p.1 ≠ I) → AllBare s'.gens → s'.os = s.os → Fr h₀ env.locals s'.heap (kstB (fun z => if stored.contains z = true then u z else m₀ z) (ps c)) → News h₀ env.locals s'.heap ((I, it) :: Led c) →
      wpAny (model prog w) A (assign target env v) (fun _ s₃ => wpAny (model prog w) A (execs body env) (PostG h₀ env.locals s.os Led ps (fun z => stored.contains z = true) m₀ [(I, it)] (Inv (i + 1)) Q) E s₃) E s')
    (done : ∀ (c : σ) (u : Str → Option Value) (s' : Shared), Inv n c → AllBare s'.gens → s'.os = s.os → Fr h₀ env.locals s'.heap (kstB (fun z => if stored.contains z = true then u z else m₀ z) (ps c)) → News h₀ env.locals s'.heap (Led c) → Q .next s') :
    ForAtG prog w A env target body Q E (.ref I) s := by
  have hLw : env.locals ≠ I := fun e => hLI (W.sub _ (List.mem_singleton.mpr e) )
  refine ⟨I, fp, [I], n, P, Md, St, fun i s' => ∃ (c : σ) (m : Str → Option Value), St i s'.heap ∧ AllBare s'.gens ∧ s'.os = s.os ∧ Fr h₀ env.locals s'.heap m ∧ News h₀ env.locals s'.heap (Led c) ∧ (∀ p ∈ Led c, p.1 ≠ I) ∧ (∀ p ∈ ps c, m p.1 = some p.2) ∧ (∀ z, ¬ stored.contains z = true → (∀ p ∈ ps c, z ≠ p.1) → m z = m₀ z) ∧ Inv i c, rfl, W,
    ⟨c₀, m₀, hst, G, rfl, F, N, hoff, hk, fun _ _ _ => rfl, h0⟩, fun i s' ⟨_, _, h, _⟩ => h, ?_, ?_⟩
  · rintro i v s' h' tk hi ⟨c, m, hs', G', O', F', N', ho, h1, h2, hInv⟩ hP hst₁ hkp
    have F₁ : Fr h₀ env.locals h' m := ⟨F'.ns.at' fun o e => hkp _ o (fun x => hLw (List.mem_singleton.mp x)) e, fun b o e => hkp b o (fun x => by rw [List.mem_singleton.mp x, hI] at e; cases e) (F'.keep b o e), F'.above⟩
    obtain ⟨it, hit⟩ := hlv _ _ hst₁
    have N₁ : News h₀ env.locals h' ((I, it) :: Led c) := fun p hp => by
      rcases List.mem_cons.mp hp with rfl | hp
      · exact ⟨hit, hLw.symm, hI⟩
      · exact ⟨hkp _ _ (fun x => ho p hp (List.mem_singleton.mp x)) (N' p hp).1, (N' p hp).2⟩
    refine wpAny_mono (turn i v c it m { s' with heap := h', toks := tk } hi hP hInv hst₁ ho G' O' (kst_frG (free := fun z => stored.contains z = true) h1 h2 F₁) N₁) (fun _ s₃ q => wpAny_mono q (fun f s₄ p => ?_) fun _ _ e => e) fun _ _ e => e
    have fin : EndG h₀ env.locals s.os Led ps (fun z => stored.contains z = true) m₀ [(I, it)] (Inv (i + 1)) s₄ → ∃ (c : σ) (m : Str → Option Value), St (i + 1) s₄.heap ∧ AllBare s₄.gens ∧ s₄.os = s.os ∧ Fr h₀ env.locals s₄.heap m ∧ News h₀ env.locals s₄.heap (Led c) ∧ (∀ p ∈ Led c, p.1 ≠ I) ∧ (∀ p ∈ ps c, m p.1 = some p.2) ∧ (∀ z, ¬ stored.contains z = true → (∀ p ∈ ps c, z ≠ p.1) → m z = m₀ z) ∧ Inv (i + 1) c := by
      rintro ⟨c', m', news', g1, g2, g3, g4, g5, g6, g7, g8, g9, g10⟩
      refine ⟨c', m', W.frame _ _ _ hst₁ fun b hb o e => ?_, g1, g2, g3, fun p hp => g4 p (g6 p hp), fun p hp => g7 p hp _ (.head _), g8, g9, g10⟩
      rcases hfp b hb with rfl | ⟨o', ho'⟩
      · rw [show h'.get? b = some o from e] at hit
        cases hit
        exact (g4 _ (g5 _ (.head _))).1
      · have e1 : h'.get? b = some o' := (N₁ _ (.tail _ (ho' c))).1
        rw [show h'.get? b = some o from e] at e1
        cases e1
        exact (g4 _ (g6 _ (ho' c'))).1
    cases f with
    | ret v => exact p
    | brk => exact p
    | next => exact fin p
    | cont => exact fin p
  · rintro s' h' tk ⟨c, m, hs', G', O', F', N', ho, h1, h2, hInv⟩ hkp
    have F₁ : Fr h₀ env.locals h' m := ⟨F'.ns.at' fun o e => hkp _ o (fun x => hLw (List.mem_singleton.mp x)) e, fun b o e => hkp b o (fun x => by rw [List.mem_singleton.mp x, hI] at e; cases e) (F'.keep b o e), F'.above⟩
    exact done c m { s' with heap := h', toks := tk } hInv G' O' (kst_frG (free := fun z => stored.contains z = true) h1 h2 F₁) fun p hp => ⟨hkp _ _ (fun x => ho p hp (List.mem_singleton.mp x)) (N' p hp).1, (N' p hp).2⟩
theorem forItemsG {σ : Type} {elts : List Expr} {kk : Nat} {pos : Pos} {d vw : Addr} {od : Obj} {kvs : List (Int × Value)} {m₀ : Str → Option Value} (Led : σ → List (Addr × Obj)) (ps : σ → List (Str × Value)) (stored : List Str) (Inv : Nat → σ → Prop) (c₀ : σ)
    (hh : A.handled = none) (hvw : ∃ ov, s.heap.get? vw = some ov ∧ ov.cls = .type "dict_items" ∧ ov.data = .fields #[.ref d]) (hm : ∀ c, (d, od) ∈ Led c) (hd : od.IsDictOf (PySem.intKind prog w) kvs)
    (F : Fr h₀ env.locals s.heap m₀) (N : News h₀ env.locals s.heap (Led c₀)) (G : AllBare s.gens) (hk : ∀ p ∈ ps c₀, m₀ p.1 = some p.2) (h0 : Inv 0 c₀)
    (turn : ∀ (i : Nat) (T I : Addr) (k : Int) (t : Tok) (v : Value) (c : σ) (it : Obj) (u : Str → Option Value) (s' : Shared), i < kvs.length → kvs[i]? = some (k, v) → IsTup s'.heap T #[.int k t, v] → Inv i c → it.cls = .type "dict_itemiterator" → (∀ p ∈ Led c₀, @LT.lt Nat _ p.1 I) → (∀ p ∈ Led c, p.1 ≠ I) → AllBare s'.gens → s'.os = s.os → Fr h₀ env.locals s'.heap (kstB (fun z => if stored.contains z = true then u z else m₀ z) (ps c)) → News h₀ env.locals s'.heap ((I, it) :: Led c) →
      wpAny (model prog w) A (assign (.Tuple elts kk pos) env (.ref T)) (fun _ s₃ => wpAny (model prog w) A (execs body env) (PostG h₀ env.locals s.os Led ps (fun z => stored.contains z = true) m₀ [(I, it)] (Inv (i + 1)) Q) E s₃) E s')
    (done : ∀ (c : σ) (u : Str → Option Value) (s' : Shared), Inv kvs.length c → AllBare s'.gens → s'.os = s.os → Fr h₀ env.locals s'.heap (kstB (fun z => if stored.contains z = true then u z else m₀ z) (ps c)) → News h₀ env.locals s'.heap (Led c) → Q .next s') :
    wpAny (model prog w) A (pyIter (.ref vw)) (fun it s₂ => ForAtG prog w A env (.Tuple elts kk pos) body Q E it s₂) E s := by
  have hax := N _ (hm c₀)
  obtain ⟨ep, hat⟩ := (kda_dict N (hm c₀) hd).dictAt
  have hne : d ≠ s.heap.objs.size := Nat.ne_of_lt hat.lt_size
  have hlt : ∀ p ∈ Led c₀, @LT.lt Nat _ p.1 s.heap.objs.size := fun p hp => Heap.lt_size (N p hp).1
  refine wpAny_pyIter_items hvw hat ?_
  refine forTG (I := s.heap.objs.size) (s := { s with heap := s.heap.push _ }) (kti_itemsTurns (knd := PySem.intKind prog w) hh s.heap.objs.size d hne kvs ep) Led ps stored Inv c₀ (next_is_new F) (fun b hb => ?_) (fun hmm => ?_) ⟨⟨_, _, Heap.get?_push_size _ rfl⟩, hat.push _⟩ (fun i h hs => ?_) (F.push _) (fun p hp => ⟨Heap.get?_push_of_some _ (N p hp).1, (N p hp).2⟩) G (fun p hp => Nat.ne_of_lt (hlt p hp)) hk h0 ?_ done
  · rcases List.mem_cons.mp hb with e | hb
    · exact .inl e
    · exact .inr ⟨od, fun c => List.mem_singleton.mp hb ▸ hm c⟩
  · rcases List.mem_cons.mp hmm with e | hmm
    · exact absurd F.ns.lt (e ▸ Nat.lt_irrefl _)
    · exact hax.2.1 (List.mem_singleton.mp hmm).symm
  · obtain ⟨⟨_, _, he⟩, _⟩ := hs
    exact ⟨_, he⟩
  · rintro i v c it u s' hi ⟨T, key, k, x, rfl, hx, hkey, hT⟩ hInv hst₁ hoff G₁ O₁ F₁ N₁
    obtain ⟨⟨_, _, he⟩, _⟩ := hst₁
    have g := (N₁ _ (.head _)).1
    rw [show s'.heap.get? s.heap.objs.size = _ from he] at g
    have hc := congrArg Obj.cls (Option.some.inj g).symm
    obtain ⟨t, rfl⟩ := Value.isInt_shape hkey
    exact turn i T s.heap.objs.size k t x c it u s' hi hx hT hInv hc hlt hoff G₁ O₁ F₁ N₁
end
end
-- GenZ
section
open PySem PySem.W PyProof.Rows PySem.Calls PySem.Spec
/-- objects laid one behind the other -/
noncomputable def pushes (h : Heap) : List Obj → Heap
  | [] => h
  | o :: r => pushes (h.push o) r
theorem pushes_old {h : Heap} {os : List Obj} {c : Addr} {o : Obj} (e : h.get? c = some o) : (pushes h os).get? c = some o := by
  induction os generalizing h with
  | nil => exact e
  | cons p r ih => exact ih (Heap.get?_push_of_some _ e)
theorem pushes_size {h : Heap} {os : List Obj} : (pushes h os).objs.size = h.objs.size + os.length := by
  induction os generalizing h with
  | nil => rfl
  | cons p r ih => rw [pushes, ih, Heap.size_push, List.length_cons, Nat.add_assoc, Nat.add_comm 1]
theorem pushes_get {h : Heap} {os : List Obj} {i : Nat} {o : Obj} (e : os[i]? = some o) (hf : o.isFreed = false) : (pushes h os).get? (h.objs.size + i) = some o := by
  induction os generalizing h i with
  | nil => simp at e
  | cons p r ih =>
    cases i with
    | zero =>
      cases e
      exact pushes_old (h := h.push _) (Heap.get?_push_size h hf)
    | succ i =>
      have z := ih (h := h.push p) (i := i) e
      rw [Heap.size_push, Nat.add_assoc, Nat.add_comm 1] at z
      exact z
/-- what zip(l1, l2) lays from the place n on -/
noncomputable def zipObjs (n l1 l2 : Addr) : List Obj := [{ cls := .type "tuple_iterator", data := .fields #[.ref l1, .int 0 0] }, { cls := .type "tuple_iterator", data := .fields #[.ref l2, .int 0 0] },
  { cls := .type "tuple", data := .seq #[.ref n, .ref (n + 1)] }, { cls := .type "tuple", data := .seq #[.none, .none] }, { cls := .type "zip", data := .fields #[.none, .bool false, .bool false, .ref (n + 2), .ref (n + 3)] }]
theorem zipSt_new {h : Heap} {l1 l2 : Addr} {xs ys : Array Value} (a : h.IsTuple l1 xs) (b : h.IsTuple l2 ys) :
    ZipSt (h.objs.size + 4) (h.objs.size + 2) (h.objs.size + 3) h.objs.size (h.objs.size + 1) l1 l2 xs ys .none 0 (pushes h (zipObjs h.objs.size l1 l2)) := by
  obtain ⟨_, a1, a2⟩ := a
  obtain ⟨_, b1, b2⟩ := b
  exact ⟨pushes_get (i := 4) rfl rfl, pushes_get (i := 2) rfl rfl, ⟨_, _, pushes_get (i := 3) rfl rfl⟩, ⟨_, pushes_get (i := 0) rfl rfl, rfl, rfl⟩, ⟨_, pushes_get (i := 1) rfl rfl, rfl, rfl⟩, ⟨_, pushes_old a1, a2⟩, _, pushes_old b1, b2⟩
theorem zip_made (l1 l2 : Addr) (xs ys : Array Value) : Meets (Builtin.«zip.__new__» ⟨[.type "zip", .ref l1, .ref l2], []⟩)
    (fun _ R s => (s.heap.IsTuple l1 xs ∧ s.heap.IsTuple l2 ys) ∧ R (.ok (.ret (.ref (s.heap.objs.size + 4)))) { s with heap := pushes s.heap (zipObjs s.heap.objs.size l1 l2) }) := by
  refine .of_wp fun prog w A R s h => ?_
  obtain ⟨⟨a, b⟩, h⟩ := h
  have sub := sub_zip
  wp_walk using wpAny_pyIter_tuple a, wpAny_pyIter_tuple (b.push _)
  simp only [zipObjs, pushes] at h
  simp only [Heap.size_push]
  exact ⟨_, rfl, h⟩
section
variable {prog : Program} {w : World} {A : Around} {E : Value → Shared → Prop} {s : Shared}
theorem call_zipT {l1 l2 : Addr} {xs ys : Array Value} {Q : Value → Shared → Prop} (a : s.heap.IsTuple l1 xs) (b : s.heap.IsTuple l2 ys) (h : Q (.ref (s.heap.objs.size + 4)) { s with heap := pushes s.heap (zipObjs s.heap.objs.size l1 l2) }) :
    wpAny (model prog w) A (call (.type "zip") [.ref l1, .ref l2]) Q E s :=
  callType_new F.called_zip (by decide) (F.typeCall_zip_2 _ _) (F.newCall_zip_2 _ _) (fun o => F.args_object_init_3 o _ _) F.entry_zip_new (zip_made l1 l2 xs ys) ⟨⟨a, b⟩, ⟨_, (zipSt_new a b).1, rfl⟩, h⟩
end
/-- the table of a def with one generator expression: not yet run, or run -/
inductive GTab (ln col : Int) : Array Value → Prop
  | none : GTab ln col #[]
  | some (c' : Addr) : GTab ln col #[rawInt ln, rawInt col, .ref c']
/-- what a zip of two tuples of ints stands for, and what is wanted of the generator over it -/
noncomputable def GenPostX (prog : Program) (w : World) (A : Around) (h₀ : Heap) (L : Addr) (m : Str → Option Value) (P : Addr) (ln col : Int) (Q : Value → Shared → Prop) (it : Value) (s₂ : Shared) : Prop :=
  ∃ (z TI TO i1 i2 l1 l2 K : Addr) (us vs : List Value) (ns ms : List Int) (ps : Array Value) (news : Led), it = .ref z ∧ ZipApart z TI TO i1 i2 l1 l2 ∧ IntsAre us ns ∧ IntsAre vs ms ∧ vs.length = us.length ∧
    ZipSt z TI TO i1 i2 l1 l2 us.toArray vs.toArray .none 0 s₂.heap ∧
    GTab ln col ps ∧ Fr h₀ L s₂.heap m ∧ News h₀ L s₂.heap ((P, tabObj ps) :: news) ∧ AllBare s₂.gens ∧ L ≤ K ∧ (K < z ∧ K < TO ∧ K < i1 ∧ K < i2) ∧ (∀ p ∈ (P, tabObj ps) :: news, p.1 ≤ K) ∧ (∀ p ∈ news, p.1 ≠ P) ∧ K < s₂.heap.objs.size ∧
    (∀ a s₅ ps', GTab ln col ps' → Fr h₀ L s₅.heap m → News h₀ L s₅.heap ((P, tabObj ps') :: news) → AllBare s₅.gens → s₅.os = s₂.os →
      Gen prog w A K a us.length (fun j y => ∃ (a b : Int) (t : Tok), ns[j]? = some a ∧ ms[j]? = some b ∧ y = .int (a + b) t) s₅ → Q (.ref a) s₅)
theorem ia_at {us : List Value} {ns : List Int} (h : IntsAre us ns) {i : Nat} {v : Value} (e : us[i]? = some v) : ∃ n t, ns[i]? = some n ∧ v = .int n t := by
  induction h generalizing i with
  | nil => simp at e
  | cons k t _ ih =>
    cases i with
    | zero => simp at e; subst e; exact ⟨_, _, rfl, rfl⟩
    | succ i => exact ih (by simpa using e)
theorem passing_all (n : Nat) : passing (fun _ => true) n 0 = List.range n := by simp [passing]
section
variable {prog : Program} {w : World} {A : Around} {E : Value → Shared → Prop} {s : Shared} {h₀ : Heap} {L c P : Addr} {m mg mb : Str → Option Value} {p : Program} {loose : List Str} {mean : ExcName → Option Value}
theorem genCode {env : Env} {ps : Array Value} {pos : Pos} {q : Str} {scope : Scope} {R : Value → Shared → Prop} (hc : env.code = .ref c) (C : CodeHd s.heap c P) (hP : s.heap.get? P = some (tabObj ps)) (g : GTab pos.line pos.col ps)
    (hR : ∀ c' h' tk ps', GTab pos.line pos.col ps' → Heap.ExtBut P s.heap h' → h'.get? P = some (tabObj ps') → s.heap.objs.size ≤ h'.objs.size → R (.ref c') { s with heap := h', toks := tk }) :
    wpAny (model prog w) A (genexprCode env pos q scope) R E s := by
  cases g with
  | none =>
    refine wpAny_genexprCodeX hc (C.code hP True.intro) (C.tab hP) rfl fun c' h' tk hx hge hlt _ _ ht _ => ?_
    have e : (#[] ++ #[rawInt pos.line, rawInt pos.col, Value.ref c'] : Array Value) = #[rawInt pos.line, rawInt pos.col, .ref c'] := by simp
    rw [e] at ht
    exact hR c' h' tk _ (.some c') hx ht.2 (Nat.le_trans hge (Nat.le_of_lt hlt))
  | some c' =>
    obtain ⟨o, _, _, _, _, _, _, _, _, q, ho, hd, hk, _, _, _, _, hq, hqd, _⟩ := C.code hP (by simp [TriplesOk, rawInt])
    unfold genexprCode codeAt
    rw [hc, if_neg (by exact Bool.false_ne_true)]
    have at0 : codeAmong pos (#[rawInt pos.line, rawInt pos.col, Value.ref c'] : Array Value).toList = some (.ref c') := by simp [codeAmong, rawInt]
    refine wpAny_bind (wpAny_fieldsOf ho hd (hk ▸ wpAny_bind (wpAny_fieldsOf hq hqd ?_)))
    rw [at0]
    exact wpAny_pure (hR c' s.heap s.toks _ (.some c') (Heap.ExtBut.refl _ _) hP (Nat.le_refl _))
theorem genZip {env : Env} {iter : Expr} {xa xb : Str} {pa pb pt pe p1 p2 : Pos} {kt : Nat} {scope : Scope} {cl : List (Str × Addr)} {pos : Pos} {Q : Value → Shared → Prop}
    (_F : Fr h₀ L s.heap m) (T : Top p loose mean mg mb h₀) (C : CodeHd h₀ c P) (hcode : env.code = .ref c) (hglob : env.globals = mainGlobals)
    (hh : A.handled = none) (hco : scope.isCoroutine = false) (hclos : closureFor scope env = pure cl) (hcell : ∀ y ∈ scope.names, y.2 ≠ .cell) (h0 : scope.names.lookup (".0" : Str) = some NameKind.local)
    (hxa : scope.names.lookup xa = some .local) (hxb : scope.names.lookup xb = some .local) (hab : xa ≠ xb) (hkind : scope.kind = .function) (hroom : A.depth < recursionLimit) (hda : (xa == ("__debug__" : Str)) = false) (hdb : (xb == ("__debug__" : Str)) = false)
    (h : wpAny (model prog w) A (eval iter env) (fun xv s₁ => wpAny (model prog w) A (pyIter xv) (GenPostX prog w A h₀ L m P pos.line pos.col Q) E s₁) E s)
    (hs : ∀ x, genFold iter env x = pure x) :
    wpAny (model prog w) A (eval (.GeneratorExp (.BinOp (.Name xa p1) .Add (.Name xb p2) pe) [⟨.Tuple [.Name xa pa, .Name xb pb] kt pt, iter, [], 0⟩] scope pos) env) Q E s := by
  refine wpAny_GeneratorExp_walksQTD hh hco hclos hcell h0 hxa hxb hab hkind hroom (wpAny_mono h (fun xv s₁ h₁' => wpAny_mono h₁' (fun it s₂ h₂ => ?_) fun _ _ e => e) fun _ _ e => e) hs
  obtain ⟨z, TI, TO, i1, i2, l1, l2, K, us, vs, ns, ms, ps, news, rfl, D, hI1, hI2, hlen, hst, hg, F, N, G, hLK, ⟨kz, kTO, k1, k2⟩, hnK, hnP, hKs, hQ⟩ := h₂
  have hP := N _ (.head _)
  have hPn : ∀ b o, h₀.get? b = some o → b ≠ P := fun b o e q => by rw [q, show h₀.get? P = none from hP.2.2] at e; cases e
  have hlo : ∀ b o, h₀.get? b = some o → b ≤ K := fun b o e => Nat.le_trans (Nat.le_of_lt (Nat.lt_of_lt_of_le (Heap.lt_size e) F.above)) hLK
  have hlim : h₀.NoLimit := T.nolimit
  have hcs : cStatics ≤ K := let ⟨_, ⟨o, _, _, e, _⟩, _⟩ := hlim; hlo _ o e
  obtain ⟨bm, ob, M⟩ := bmod_of_top T
  refine ⟨hlim.keeps F.keep, genCode hcode (C.keeps F.keep) hP.1 hg fun c' h₃ tk₃ ps' hg' hx₃ hP₃ hsz => ?_⟩
  have keep₃ : ∀ b o, h₀.get? b = some o → h₃.get? b = some o := fun b o e => hx₃ b o (hPn b o e) (F.keep b o e)
  have M₃ := M.keeps keep₃
  rw [hglob]
  refine wpAny_builtinsFor M₃.ns M₃.name M₃.ne M₃.obj M₃.cls M₃.dict M₃.data ?_
  have W := fun (A' : Around) (hA : A'.handled = none) => zipTU (prog := prog) (w := w) hA z TI TO i1 i2 l1 l2 D us.toArray vs.toArray (by simpa using hlen)
  have hfpP : ∀ b ∈ [z, TI, TO, i1, i2, l1, l2], b ≠ P ∧ b < s₂.heap.objs.size := by
    obtain ⟨hz, hTI, ⟨ta, tb, hTO⟩, ⟨o1, h1, c1, _⟩, ⟨o2, h2, c2, _⟩, ⟨ol1, hl1, cl1, _⟩, ⟨ol2, hl2, cl2, _⟩⟩ := hst
    have q : ∀ {b : Addr} {o : Obj}, s₂.heap.get? b = some o → o.cls ≠ .none → b ≠ P ∧ b < s₂.heap.objs.size := fun e hc => ⟨fun x => by rw [x, show s₂.heap.get? P = _ from hP.1] at e; cases e; exact hc rfl, Heap.lt_size e⟩
    simp only [List.forall_mem_cons, List.not_mem_nil, false_implies, implies_true, and_true]
    exact ⟨q hz (by simp), q hTI (by simp), q hTO (by simp), q h1 (by simp [c1]), q h2 (by simp [c2]), q hl1 (by simp [cl1]), q hl2 (by simp [cl2])⟩
  have hwr : ∀ b ∈ [z, TO, i1, i2], K < b := by
    simp only [List.forall_mem_cons, List.not_mem_nil, false_implies, implies_true, and_true]
    exact ⟨kz, kTO, k1, k2⟩
  refine ⟨z, _, _, _, _, _, _, fun _ => true, fun i y => ∃ (a b : Int) (t : Tok), ns[i]? = some a ∧ ms[i]? = some b ∧ y = .int (a + b) t, rfl, W, fun i vals hv => by obtain ⟨x, y, _, _, e⟩ := hv; exact ⟨x, y, e⟩,
    (W A hh).frame _ _ _ hst (fun b hb o e => hx₃ b o (hfpP b hb).1 e), fun b hb => Nat.lt_of_lt_of_le (hfpP b hb).2 hsz, hlim.keeps keep₃, fun hm => Nat.lt_irrefl _ (Nat.lt_of_le_of_lt hcs (hwr _ hm)),
    fun href hhref => ⟨fun A' E' i va vb t m₂ _ _ _ _ _ _ _ _ => wpAny_pure ⟨rfl, t.heap, t.toks, rfl, fun _ _ e => e⟩, fun A' E' i va vb t m₂ hA hD hU hPt _ hn hma hmb hkp => ?_⟩, fun a h₅ tk gs hgb hag hsz₅ hk₅ W5 hat => ?_⟩
  · obtain ⟨x, y, hx, hy, e⟩ := hPt
    obtain ⟨e1, e2⟩ : va = x ∧ vb = y := by simpa using congrArg Array.toList e
    subst e1 e2
    obtain ⟨n1, t1, hn1, rfl⟩ := ia_at hI1 (i := i) (by simpa using hx)
    obtain ⟨n2, t2, hn2, rfl⟩ := ia_at hI2 (i := i) (by simpa using hy)
    refine wpAny_BinOp (wpAny_Name (wpAny_loadName_local hkind (by simpa [genEnv, Env.kindOf] using hxa) hn hma (wpAny_Name (wpAny_loadName_local hkind (by simpa [genEnv, Env.kindOf] using hxb) hn hmb ?_) hdb)) hda)
    exact PyProof.Rows.add_int ⟨⟨n1, n2, _, hn1, hn2, rfl⟩, t.heap, _, rfl, fun _ _ e => e⟩
  · have F₅ : Fr h₀ L h₅ m := ⟨F.ns.at' fun o e => hk₅ _ o (hx₃ _ o hP.2.1.symm e), fun b o e => hk₅ b o (keep₃ b o e), F.above⟩
    have N₅ : News h₀ L h₅ ((P, tabObj ps') :: news) := fun q hq => by
      rcases List.mem_cons.mp hq with rfl | hq
      · exact ⟨hk₅ _ _ hP₃, hP.2⟩
      · exact ⟨hk₅ _ _ (hx₃ _ _ (hnP q hq) (N q (.tail _ hq)).1), (N q (.tail _ hq)).2⟩
    refine hQ a _ ps' hg' F₅ N₅ (G.push hgb) rfl ?_
    have e : (passing (fun _ => true) us.toArray.size 0).length = us.length := by rw [passing_all]; simp
    rw [e] at W5
    refine Gen.imp (F := fun j y => ∃ i, (passing (fun _ => true) us.toArray.size 0)[j]? = some i ∧ ∃ (a b : Int) (t : Tok), ns[i]? = some a ∧ ms[i]? = some b ∧ y = .int (a + b) t) ⟨_, _, _, _, W5, hat, (fun i s' st => st.1.typeIs), List.mem_cons_self, ?_, ?_⟩ fun j y hy => ?_
    · intro b hb
      show b < h₅.objs.size
      rw [hsz₅]
      rcases List.mem_cons.mp hb with rfl | hb
      · exact Nat.lt_succ_self _
      · rcases List.mem_cons.mp hb with rfl | hb
        · exact Nat.lt_succ_of_lt hag
        · exact Nat.lt_succ_of_lt (Nat.lt_trans (List.mem_range.mp hb) hag)
    · intro b hb
      rcases List.mem_cons.mp hb with rfl | hb
      · exact Nat.lt_of_lt_of_le hKs hsz
      · exact hwr b hb
    · obtain ⟨i, hi, r⟩ := hy
      rw [passing_all] at hi
      have hij : i = j := by
        rw [List.getElem?_eq_some_iff] at hi
        obtain ⟨_, h⟩ := hi
        simpa using h.symm
      exact hij ▸ r
theorem zipPost {news : Led} {va vb : Addr} {us vs : List Value} {ns ms : List Int} {e1 e2 : Nat} {ps : Array Value} {ln col : Int} {Q : Value → Shared → Prop} (F : Fr h₀ L s.heap m) (N : News h₀ L s.heap ((P, tabObj ps) :: news)) (G : AllBare s.gens) (g : GTab ln col ps)
    (h1 : (va, tupO us e1) ∈ news) (h2 : (vb, tupO vs e2) ∈ news) (hI1 : IntsAre us ns) (hI2 : IntsAre vs ms) (hlen : vs.length = us.length) (hnP : ∀ p ∈ news, p.1 ≠ P)
    (hQ : ∀ a s₅ ps' K, GTab ln col ps' → Fr h₀ L s₅.heap m → News h₀ L s₅.heap ((P, tabObj ps') :: news) → AllBare s₅.gens → s₅.os = s.os → L ≤ K → (∀ p ∈ (P, tabObj ps') :: news, p.1 ≤ K) →
      Gen prog w A K a us.length (fun j y => ∃ (a b : Int) (t : Tok), ns[j]? = some a ∧ ms[j]? = some b ∧ y = .int (a + b) t) s₅ → Q (.ref a) s₅) :
    wpAny (model prog w) A (call (.type "zip") [.ref va, .ref vb]) (fun xv s₁ => wpAny (model prog w) A (pyIter xv) (GenPostX prog w A h₀ L m P ln col Q) E s₁) E s := by
  have t1 : s.heap.IsTuple va us.toArray := ⟨_, (N _ (.tail _ h1)).1, rfl, _, rfl⟩
  have t2 : s.heap.IsTuple vb vs.toArray := ⟨_, (N _ (.tail _ h2)).1, rfl, _, rfl⟩
  have st := zipSt_new t1 t2
  have hk : ∀ c o, s.heap.get? c = some o → (pushes s.heap (zipObjs s.heap.objs.size va vb)).get? c = some o := fun c o e => pushes_old e
  have hsz : (pushes s.heap (zipObjs s.heap.objs.size va vb)).objs.size = s.heap.objs.size + 5 := pushes_size
  refine call_zipT t1 t2 ?_
  generalize pushes s.heap (zipObjs s.heap.objs.size va vb) = h' at st hk hsz ⊢
  refine wpAny_pyIter_zip st.1 ?_
  have hL := F.ns.lt
  have hlt : ∀ p ∈ (P, tabObj ps) :: news, @LT.lt Nat _ p.1 s.heap.objs.size := fun p hp => Heap.lt_size (N p hp).1
  obtain ⟨K, hK⟩ : ∃ K, s.heap.objs.size = K + 1 := ⟨s.heap.objs.size - 1, by have : 0 < s.heap.objs.size := Nat.lt_of_le_of_lt (Nat.zero_le _) hL; omega⟩
  rw [hK] at hlt
  have hLK : L ≤ K := by
    have hL' := hL
    rw [hK] at hL'
    exact Nat.le_of_lt_succ hL'
  have hnK : ∀ ps', ∀ p ∈ (P, tabObj ps') :: news, @LE.le Nat _ p.1 K := fun ps' p hp => by
    rcases List.mem_cons.mp hp with rfl | hp
    · exact Nat.le_of_lt_succ (hlt (P, tabObj ps) (.head _))
    · exact Nat.le_of_lt_succ (hlt _ (.tail _ hp))
  refine ⟨_, _, _, _, _, va, vb, K, us, vs, ns, ms, ps, news, rfl, zipApart_new (Heap.lt_size (N _ (.tail _ h1)).1) (Heap.lt_size (N _ (.tail _ h2)).1), hI1, hI2, hlen,
    st, g, F.keeps hk, fun p hp => ⟨hk _ _ (N p hp).1, (N p hp).2⟩, G, hLK, ⟨?_, ?_, ?_, ?_⟩, hnK ps, hnP, ?_, ?_⟩
  · show K < s.heap.objs.size + 4
    omega
  · show K < s.heap.objs.size + 3
    omega
  · show K < s.heap.objs.size
    omega
  · show K < s.heap.objs.size + 1
    omega
  · show K < h'.objs.size
    omega
  · exact fun a s₅ ps' g' F' N' G' O' X => hQ a s₅ ps' K g' F' N' G' O' hLK (hnK ps') X
theorem tupleGen {F : Nat → Value → Prop} {K a : Addr} {n : Nat} {news : Led} {Q : Value → Shared → Prop} (Fh : Fr h₀ L s.heap m) (N : News h₀ L s.heap news) (G : AllBare s.gens) (X : Gen prog w A K a n F s) (hLK : L ≤ K) (hnK : ∀ p ∈ news, p.1 ≤ K)
    (hQ : ∀ s' (D : Addr) (ys : List Value), Fr h₀ L s'.heap m → News h₀ L s'.heap ((D, tupO ys 0) :: news) → AllLt D news → AllBare s'.gens → s'.os = s.os → ys.length = n → (∀ j v, ys[j]? = some v → F j v) → Q (.ref D) s') (hsz : n ≤ sizeLine := by size_fits) :
    wpAny (model prog w) A (call (.type "tuple") [.ref a]) Q E s := by
  obtain ⟨fp, wr, g, St, W, hst, hT, hI, hfp, hwr⟩ := X
  refine call_tuple_gen (hsz := hsz) W.in4_3 hT hst hfp hI fun s' acc hm hacc => ?_
  have F₁ : Fr h₀ L s'.heap m := Fh.moved hm fun b hb => Nat.lt_of_le_of_lt hLK (hwr b hb)
  have N₁ : News h₀ L s'.heap news := fun p hp => ⟨hm.heap _ _ (fun hmem => Nat.lt_irrefl _ (Nat.lt_of_lt_of_le (hwr _ hmem) (hnK p hp))) (N p hp).1, (N p hp).2⟩
  refine hQ _ _ acc.toList (F₁.push _) (fun p hp => ?_) (allLt_of fun p hp => Heap.lt_size (N₁ p hp).1) (show AllBare s'.gens from AllBare.movedS G hm) hm.os (by simpa using hacc.1) fun j v hv => hacc.2 j v (by simpa using hv)
  rcases List.mem_cons.mp hp with rfl | hp
  · refine ⟨?_, Nat.ne_of_gt F₁.ns.lt, next_is_new F₁⟩
    have e : acc.toList.toArray = acc := by simp
    show (s'.heap.push _).get? s'.heap.objs.size = some (tupO acc.toList 0)
    rw [tupO, e]
    exact Heap.get?_push_size _ rfl
  · exact ⟨Heap.get?_push_of_some _ (N₁ p hp).1, (N₁ p hp).2⟩
end
end
-- BaseG
section
open PySem PySem.W PyProof.Rows PySem.Calls
/-- a contract as `Ok`, of a def that may make generators -/
noncomputable def OkG (w : World) (f : Addr) (vs : List Value) (dn cu : Nat) (news : Led) (R : Value → Led → Prop) : Prop :=
  ∀ (mean : ExcName → Option Value) (mg mb : Str → Option Value) (dp un : Nat) (gd : Option (List Code)) (cn : Str) (cs : Scope) (a : Addr) (ccd : Value) (cl : List (Str × Addr)) (outer : List Env) (A₀ : Around) (base h₀ : Heap) (L : Addr) (m : Str → Option Value) (s : Shared) (Q E : Value → Shared → Prop),
    AllBare s.gens → Below A₀ base outer h₀ → Fr h₀ L s.heap m → (hdX.heap_1 w.params).In h₀ → News h₀ L s.heap news → Top topProg looseG mean mg mb h₀ → cs.kind = .function → dp + dn < recursionLimit → un + cu < cLine →
    (∀ r news' s', R r news' → AllBare s'.gens → s'.os = s.os → Fr h₀ L s'.heap m → News h₀ L s'.heap news' → Q r s') →
    wpAny (model PySem.Challenge.rw_pg0199_01.row.prog w) (ktrTop dp un gd cn cs L a ccd cl outer) (call (.ref f) vs) Q E s
theorem OkG.use {w : World} {f : Addr} {vs : List Value} {dn cu : Nat} {news : Led} {R : Value → Led → Prop} (C : OkG w f vs dn cu news R)
    {mean : ExcName → Option Value} {mg mb : Str → Option Value} {dp un : Nat} {gd : Option (List Code)} {cn : Str} {cs : Scope} {a : Addr} {ccd : Value} {cl : List (Str × Addr)} {outer : List Env} {A₀ : Around} {base h₀ : Heap} {L : Addr} {m : Str → Option Value} {s : Shared} {Q E : Value → Shared → Prop}
    (G : AllBare s.gens) (B : Below A₀ base outer h₀) (F : Fr h₀ L s.heap m) (X : (hdX.heap_1 w.params).In h₀) (N : News h₀ L s.heap news) (T : Top topProg looseG mean mg mb h₀) (hk : cs.kind = .function) (hd : dp + dn < recursionLimit) (hu : un + cu < cLine)
    (h : ∀ r news' s', R r news' → AllBare s'.gens → s'.os = s.os → Fr h₀ L s'.heap m → News h₀ L s'.heap news' → Q r s') :
    wpAny (model PySem.Challenge.rw_pg0199_01.row.prog w) (ktrTop dp un gd cn cs L a ccd cl outer) (call (.ref f) vs) Q E s := C _ _ _ _ _ _ _ _ _ _ _ _ _ _ _ _ _ _ _ _ G B F X N T hk hd hu h
noncomputable abbrev KI (w : World) := PySem.intKind PySem.Challenge.rw_pg0199_01.row.prog w
noncomputable def addC (T : List (Int × List Int)) (k p q : Int) : List (Int × List Int) := dput T k (match dget T k with | some t => List.zipWith (· + ·) [p, q] t | none => [p, q])
theorem zip_ints {ns ms : List Int} {ys : List Value} (hl : ns.length = ms.length) (hn : ys.length = ns.length) (h : ∀ (j : Nat) (v : Value), ys[j]? = some v → ∃ (a b : Int) (t : Tok), ns[j]? = some a ∧ ms[j]? = some b ∧ v = Value.int (a + b) t) : IntsAre ys (List.zipWith (· + ·) ns ms) := by
  induction ys generalizing ns ms with
  | nil =>
    cases ns with
    | nil => exact .nil
    | cons _ _ => simp at hn
  | cons y ys ih =>
    cases ns with
    | nil => simp at hn
    | cons a ns =>
      cases ms with
      | nil => simp at hl
      | cons b ms =>
        obtain ⟨a', b', t, e1, e2, e3⟩ := h 0 y rfl
        simp at e1 e2
        subst e1 e2 e3
        exact .cons _ _ (ih (by simpa using hl) (by simpa using hn) fun j v e => h (j + 1) v (by simpa using e))
theorem addPerm1 {h₀ h : Heap} {L : Addr} {x y z : Addr × Obj} {news : Led} (N : News h₀ L h (x :: y :: z :: news)) : News h₀ L h (z :: x :: y :: news) := fun r hr => N r (by
  simp only [List.mem_cons] at hr ⊢
  rcases hr with e | e | e | e <;> simp [e])
theorem addPerm2 {h₀ h : Heap} {L : Addr} {x y z u : Addr × Obj} {news : Led} (N : News h₀ L h (x :: y :: z :: u :: news)) : News h₀ L h (u :: z :: x :: y :: news) := fun r hr => N r (by
  simp only [List.mem_cons] at hr ⊢
  rcases hr with e | e | e | e | e <;> simp [e])
theorem DItems.len2 {T : List (Int × List Int)} {k : Int} {t : List Int} (h : ∀ e ∈ T, e.2.length = 2) (e : dget T k = some t) : t.length = 2 := by
  unfold dget at e
  cases hf : T.find? (fun q => q.1 = k) with
  | none => rw [hf] at e; cases e
  | some q =>
    rw [hf] at e
    cases e
    exact h q (List.mem_of_find?_eq_some hf)
end
-- AcA
section
open PySem PySem.W PyProof.Rows PySem.Calls
structure AcSt where
  o : Obj
  ext : Led
  ps : Array Value
theorem addc_ok : ∀ (w : World) (sub news : Led) (ps : Array Value) (td sd : Addr) (to so : Obj) (kt ks : List (Int × Value)) (T : List (Int × List Int)) (k p q : Int), GTab 126 42 ps → (∀ p ∈ sub, p ∈ news) → (∀ p ∈ news, p.1 ≠ 100) → (td, to) ∈ news → (sd, so) ∈ news → (td == sysModules) = false → (sd == sysModules) = false → to.IsDictOf (KI w) kt → so.IsDictOf (KI w) ks → DItems sub kt T → DItems sub ks [(k, [p, q])] → (∀ e ∈ T, e.2.length = 2) → kt.length ≤ 1000 →
    OkG w 105 [.ref td, .ref sd] 3 60 ((100, tabObj ps) :: news) (fun r ne => ∃ D o ps' ext kvs, r = .ref D ∧ ne = (D, o) :: (ext ++ (100, tabObj ps') :: news) ∧ GTab 126 42 ps' ∧ (D == sysModules) = false ∧ o.IsDictOf (KI w) kvs ∧ DItems (ext ++ sub) kvs (addC T k p q) ∧ ∀ x ∈ (D, o) :: ext, AllLt x.1 ((100, tabObj ps) :: news)) := by
  k_with_none
  unfold OkG
  w_top off
  k_fill
  intro w sub news ps td sd to so kt ks T k p q hg hsub h100 htd hsd lt0 ls0 hto hso hT0 hS0 hT2 hlen mean mg mb dp un gd cn cs a ccd cl outer A₀ base h₀ L m s Q E hG Bw F X N Tp hk hd hu hret
  have hT := hT0.mono hsub
  have hS := hS0.mono hsub
  k_with "exec For Tuple Call cons nil" =>
    k_here
    (with_reducible show wpAny _ _ (exec (Stmt.For _ (Expr.Call (Expr.Attribute (Expr.Name (Str.ofString "target") _) _ _) _ _ _) _ _ _) _) _ _ _)
    rename Fr _ _ _ _ => lF'
    rename News _ _ _ _ => lN'
    rename Obj.IsDictOf (PySem.intKind _ _) _ [] => hD0
    with_unfolding_all ((refine' For_turns lF' ?_); k_whole; (refine MethodCall_ ?_); (refine ld lF' (by rfl) ?_); (refine kdl_method (knd := PySem.intKind _ _) PySem.F.slot_dict_items PySem.F.type_dict_items lN' (List.mem_cons_of_mem _ (List.mem_cons_of_mem _ htd)) hto ?_); (refine callWith_method0 ?_); (refine kta_callItems (knd := PySem.intKind _ _) lF' lN' (List.mem_cons_of_mem _ (List.mem_cons_of_mem _ htd)) hto lt0 ?_); intro h' hv' F' N')
    rename AllLt _ news => hlN
    rename @LT.lt Nat _ 100 _ => h1D
    have hDn := List.forall_mem_cons (a := ((100, tabObj ps) : Addr × Obj)) |>.mpr ⟨Nat.ne_of_lt h1D, tbn_neAll hlN⟩
    have hnd : (kt.map (·.1)).Nodup := let ⟨_, _, _, _, _, _, h⟩ := hto; h
    k_dflt (refine' forItems (σ := Obj) (x := Str.ofString "func") (fun c => (_, c) :: ((100, tabObj ps) :: news)) (fun _ => []) [Str.ofString "func", Str.ofString "caller"] (fun i c => c.IsDictOf (KI w) (kt.take i)) _ ?zqh hv' (fun _ => List.mem_cons_of_mem _ (List.mem_cons_of_mem _ htd)) hto F' N' (List.forall_mem_nil _) hD0 ?_ ?_; (case zqh => rfl))
    intro i Tu I k1 t1 v c it u h tk hi hx hTu hInv hic hlI hof fF fN
    obtain ⟨t3, ht3, hv3⟩ := hT.at hx
    obtain ⟨va, vus, vk, rfl, vm, vi⟩ := hv3
    dsimp only [kstB] at fF fN hof
    rotate_left
    intro c u h tk hInv fF fN
    rw [List.take_length] at hInv
    dsimp only [kstB] at fF fN
    rotate_right
  k_with "exec For Tuple Call cons nil" =>
    k_here
    (with_reducible show wpAny _ _ (exec (Stmt.For _ (Expr.Call (Expr.Attribute (Expr.Name (Str.ofString "source") _) _ _) _ _ _) _ _ _) _) _ _ _)
    rename Fr _ _ _ _ => lF'
    rename News _ _ _ _ => lN'
    with_unfolding_all ((refine' For_G ?_); k_whole; (refine MethodCall_ ?_); (refine ld lF' (by rfl) ?_); (refine kdl_method (knd := PySem.intKind _ _) PySem.F.slot_dict_items PySem.F.type_dict_items lN' (List.mem_cons_of_mem _ (List.mem_cons_of_mem _ hsd)) hso ?_); (refine callWith_method0 ?_); (refine kta_callItems (knd := PySem.intKind _ _) lF' lN' (List.mem_cons_of_mem _ (List.mem_cons_of_mem _ hsd)) hso ls0 ?_); intro h' hv' F' N')
    rename Obj.IsDictOf (KI _) _ kt => hD1
    have hkl := hS.length
    k_dflt (refine' forItemsG (σ := AcSt) (fun c => (_, c.o) :: (c.ext ++ ((100, tabObj c.ps) :: news))) (fun _ => []) [Str.ofString "func", Str.ofString "caller"] (fun i c => (i = 0 → c.ext = [] ∧ c.ps = ps ∧ c.o.IsDictOf (KI w) kt) ∧ (i = 1 → GTab 126 42 c.ps ∧ ∃ kvs, c.o.IsDictOf (KI w) kvs ∧ DItems (c.ext ++ sub) kvs (addC T k p q) ∧ ∀ x ∈ c.ext, AllLt x.1 ((100, tabObj ps) :: news))) ⟨_, [], ps⟩ ?zqh hv' (fun _ => List.mem_cons_of_mem _ (List.mem_append_right _ (List.mem_cons_of_mem _ hsd))) hso F' N' ?zqg (List.forall_mem_nil _) ⟨fun _ => ⟨rfl, rfl, hD1⟩, fun e => absurd e (by decide)⟩ ?_ ?_; (case zqh => rfl); (case zqg => assumption))
    intro i Tu I k1 t1 v c it u s' hi hx hTu hInv hic hlI hof hG' hO' fF fN
    obtain rfl : i = 0 := by rw [hkl] at hi; exact Nat.lt_one_iff.mp hi
    obtain ⟨t3, ht3, hv3⟩ := hS.at hx
    obtain ⟨t4, ht4, hsv⟩ := hS0.at hx
    obtain ⟨va, vus, vk, rfl, vm, vi⟩ := hv3
    simp only [List.getElem?_cons_zero, Option.some.injEq, Prod.mk.injEq] at ht3
    obtain ⟨hk1, ht31⟩ := ht3
    simp only [List.getElem?_cons_zero, Option.some.injEq, Prod.mk.injEq] at ht4
    obtain ⟨-, ht41⟩ := ht4
    subst hk1
    subst ht31
    subst ht41
    obtain ⟨co, cext, cps⟩ := c
    obtain ⟨hce, hcp, hcd⟩ := hInv.1 rfl
    dsimp only at hce hcd hcp
    subst hce
    subst hcp
    dsimp only [kstB, List.nil_append] at fF fN hof
    rotate_left
    intro c u s' hInv hG' hO' fF fN
    dsimp only [kstB] at fF fN
    rotate_right
  k_with "compareOp In int ref" =>
    k_here
    rename News _ _ _ _ => lN
    k_dflt (refine' kda_in (knd := PySem.intKind _ _) lN (List.mem_cons_of_mem _ (List.mem_cons_self ..)) hcd ?zq1 (intKind_is _ _ _ _) ((valueAt kt k).isSome) rfl ?_; (case zq1 => assumption))
  k_with "call builtin:isinstance" =>
    k_here
    rename News _ _ _ _ => lN
    k_dflt (refine' call_isinstance_yes (Tx := "tuple") ⟨_, (lN (va, tupO vus vk) (List.mem_cons_of_mem _ (List.mem_cons_of_mem _ (List.mem_cons_of_mem _ vm)))).1, rfl⟩ ?zq1 isSubtype_tuple_tuple ?_; (case zq1 => kernel_rfl))
  k_with "setItem ref int" =>
    k_here
    rename Fr _ _ _ _ => lF
    rename News _ _ _ _ => lN
    have hne := List.forall_mem_cons.mp hof
    k_dflt (refine' dset lF (swapN lN) (List.forall_mem_cons.mpr ⟨fun e => hne.1 e.symm, ?zq1⟩) hcd ?zq2 ?_; (case zq1 => assumption); (case zq2 => exact Nat.le_trans hlen (show 1000 ≤ 4096 by decide)))
    intro h' o' F' N' hd'
    (try k_sweep)
  k_with "setItem ref int" =>
    k_here
    rename Fr _ _ _ _ => lF
    rename News _ _ _ _ => lN
    have hne := List.forall_mem_cons.mp hof
    k_dflt (refine' dset lF (swapN lN) (List.forall_mem_cons.mpr ⟨fun e => hne.1 e.symm, ?zq1⟩) hInv ?zq2 ?_; (case zq1 => assumption); (case zq2 => exact Nat.le_trans (List.length_take_le' _ _) (Nat.le_trans hlen (show 1000 ≤ 4096 by decide))))
    intro h' o' F' N' hd'
    rw [stored_take hnd hx] at hd'
    (try k_sweep)
  k_with "eval GeneratorExp" =>
    k_here
    rename Frag.In _ _ => lX
    rename Fr _ _ _ _ => lF
    have hcd9 := codeHd_of_K (c := 104) (P := 100) lX (by kernel_rfl)
    k_dflt (refine' genZip lF ?zqT hcd9 rfl rfl rfl rfl rfl ?zq1 rfl rfl rfl ?zq2 rfl ?zq3 ?zq4 ?zq5 ?_ ?zq6; (case zqT => k_asm); (case zq1 => decide); (case zq2 => decide); (case zq3 => ktr_room); (case zq4 => decide); (case zq5 => decide); (case zq6 => (intro _; rfl)))
  k_with "subscriptTail Name Name ref int" =>
    k_here
    rename News _ _ _ _ => lN
    rename Option.isSome (valueAt kt _) = true => hsm
    obtain ⟨t2, v2, hg2, hv2, hi2⟩ := (hT.get k).resolve_left (fun x => by rw [x.2] at hsm; cases hsm)
    obtain ⟨vb, vbs, vbk, rfl, vbm, vbi⟩ := hi2
    k_dflt (refine' kda_item (knd := PySem.intKind _ _) lN (List.mem_cons_of_mem _ (List.mem_cons_self ..)) hcd (intKind_is _ _ _ _) hv2 ?_)
  k_with "call type:zip" =>
    k_here
    rename Fr _ _ _ _ => lF
    rename News _ _ _ _ => lN
    rename AllBare _ => lG
    have hne := List.forall_mem_cons.mp hof
    k_dflt (refine' zipPost (news := (I, it) :: (_, co) :: news) (P := 100) lF (addPerm1 lN) lG hg (List.mem_cons_of_mem _ (List.mem_cons_of_mem _ vm)) (List.mem_cons_of_mem _ (List.mem_cons_of_mem _ vbm)) vi vbi ?zq1 ?zq2 ?_; (case zq1 => exact vbi.length.trans ((DItems.len2 hT2 hg2).trans vi.length.symm)); (case zq2 => exact List.forall_mem_cons.mpr ⟨fun e => (List.forall_mem_cons.mp hne.2).1 e.symm, List.forall_mem_cons.mpr ⟨Nat.ne_of_gt h1D, h100⟩⟩))
    intro a5 s5 ps5 K5 hg5 F5 N5 G5 O5 hLK5 hnK5 X5
    (try dsimp only)
  k_with "call type:tuple" =>
    k_here
    k_dflt (refine' tupleGen F5 N5 G5 X5 hLK5 hnK5 ?_)
    intro s6 D6 ys6 F6 N6 lD6 G6 O6 hl6 hv6
    have hI6 := zip_ints (ns := [p, q]) (ms := t2) (DItems.len2 hT2 hg2).symm (hl6.trans vi.length) hv6
    (try dsimp only)
  k_with "setItem ref int" =>
    k_here
    rename Fr _ _ _ _ => lF
    with_reducible rename News _ _ _ ((_, tupO _ _) :: (100, _) :: _) => lN
    have hne := List.forall_mem_cons.mp hof
    k_dflt (refine' dset lF (addPerm2 lN) ?zq1 hcd ?zq2 ?_; (case zq1 => exact List.forall_mem_cons.mpr ⟨fun e => hne.1 e.symm, List.forall_mem_cons.mpr ⟨Nat.ne_of_gt (tb_ltOf lD6 _ (.tail _ (.tail _ (.head _)))), List.forall_mem_cons.mpr ⟨Nat.ne_of_lt h1D, tbn_neAll hlN⟩⟩⟩); (case zq2 => exact Nat.le_trans hlen (show 1000 ≤ 4096 by decide)))
    intro h' o' F' N' hd'
    (try k_sweep)
  refine wpAny_call ?_
  k_dflt ktr_enter
  k_steps
  · dsimp only [ForPost]
    rename Fr _ _ _ _ => fF
    rename News _ _ _ _ => fN
    refine ForEnd.intro _ fF fN (.tail _ (.head _)) ?_ ?_ (List.forall_mem_nil _) ?_ (by assumption)
    · exact List.forall_mem_cons.mpr ⟨.head _, fun p hp => .tail _ (.tail _ hp)⟩
    · exact List.forall_mem_cons.mpr (List.forall_mem_cons.mp hof)
    · intro z h1 h2 h3
      simp [h1] at h3 ⊢
      simp [h3]
  · dsimp only [PostG]
    rename Fr _ _ _ _ => fF
    rename News _ _ _ ((_, o') :: _) => fN
    have hne2 := List.forall_mem_cons.mp hne.2
    refine EndG.intro ⟨_, [(D6, tupO ys6 0)], ps5⟩ G6 (O6.trans (O5.trans hO')) fF fN (List.forall_mem_cons.mpr ⟨.tail _ (.head _), List.forall_mem_nil _⟩) (List.forall_mem_cons.mpr ⟨.head _, fun p hp => .tail _ (.tail _ hp)⟩) ?_ (List.forall_mem_nil _) ?_ ⟨fun e => absurd e (by decide), fun _ => ⟨hg5, _, hd', ?_, List.forall_mem_cons.mpr ⟨⟨lD6.1, lD6.2.2.2⟩, List.forall_mem_nil _⟩⟩⟩
    · intro p hp q hq
      rw [List.mem_singleton.mp hq]
      revert p
      exact List.forall_mem_cons.mpr ⟨hne.1, List.forall_mem_cons.mpr ⟨Nat.ne_of_gt (tb_ltOf lD6 _ (.tail _ (.head _))), List.forall_mem_cons.mpr hne2⟩⟩
    · intro z hz _
      simp at hz
      simp [hz]
    · rw [addC, hg2]
      exact DItems.put (hT0.mono fun p hp => .tail _ hp) ⟨D6, ys6, 0, rfl, .head _, hI6⟩
  · dsimp only [PostG]
    rename Fr _ _ _ _ => fF
    rename News _ _ _ ((_, o') :: _) => fN
    have hsm : (valueAt kt k).isSome = false := by first | assumption | (simpa using (by assumption : ¬ (valueAt kt k).isSome = true))
    have hne2 := List.forall_mem_cons.mp hne.2
    have hgn := ((hT.get k).resolve_right (fun ⟨t, v, _, e, _⟩ => by rw [e] at hsm; cases hsm)).1
    refine EndG.intro ⟨_, [], cps⟩ hG' hO' fF fN (List.forall_mem_cons.mpr ⟨.tail _ (.head _), List.forall_mem_nil _⟩) (List.forall_mem_cons.mpr ⟨.head _, fun p hp => .tail _ (.tail _ hp)⟩) ?_ (List.forall_mem_nil _) ?_ ⟨fun e => absurd e (by decide), fun _ => ⟨hg, _, hd', ?_, List.forall_mem_nil _⟩⟩
    · intro p hp q hq
      rw [List.mem_singleton.mp hq]
      revert p
      exact List.forall_mem_cons.mpr ⟨hne.1, List.forall_mem_cons.mpr hne2⟩
    · intro z hz _
      simp at hz
      simp [hz]
    · rw [addC, hgn]
      exact DItems.put hT0 hsv
  · obtain ⟨hg9, kvs, hd9, hi9, hx9⟩ := hInv.2 (by rw [hkl]; rfl)
    exact hret _ _ _ ⟨_, c.o, c.ps, c.ext, kvs, rfl, rfl, hg9, by assumption, hd9, hi9, List.forall_mem_cons.mpr ⟨⟨h1D, hlN⟩, hx9⟩⟩ hG' hO' (by assumption) (by assumption)
  all_goals trace_state
  all_goals w_report
end
-- AfsA
section
open PySem PySem.W PyProof.Rows PySem.Calls
structure Ent where
  n1 : Int
  n2 : Int
  n3 : Int
  n4 : Int
  D : List (Int × List Int)
noncomputable abbrev entO (n1 n2 n3 n4 : Int) (t1 t2 t3 t4 : Tok) (dd : Addr) : Obj := { cls := .type "tuple", data := .seq #[.int n1 t1, .int n2 t2, .int n3 t3, .int n4 t4, .ref dd] }
/-- the value is an entry of the book, told by the ledger -/
noncomputable def EItem (w : World) (news : Led) (v : Value) (e : Ent) : Prop :=
  ∃ (a dd : Addr) (od : Obj) (kvs : List (Int × Value)) (t1 t2 t3 t4 : Tok), v = .ref a ∧ (a, entO e.n1 e.n2 e.n3 e.n4 t1 t2 t3 t4 dd) ∈ news ∧ (dd, od) ∈ news ∧ (dd == sysModules) = false ∧ od.IsDictOf (KI w) kvs ∧ DItems news kvs e.D ∧ (∀ x ∈ e.D, x.2.length = 2)
theorem EItem.mono {w : World} {news news' : Led} {v : Value} {e : Ent} (h : EItem w news v e) (hs : ∀ p ∈ news, p ∈ news') : EItem w news' v e := by
  obtain ⟨a, dd, od, kvs, t1, t2, t3, t4, h1, h2, h3, h4, h5, h6, h7⟩ := h
  exact ⟨a, dd, od, kvs, t1, t2, t3, t4, h1, hs _ h2, hs _ h3, h4, h5, h6.mono hs, h7⟩
noncomputable def entAdd (t s : Ent) (k p q : Int) : Ent := ⟨s.n1 + t.n1, s.n2 + t.n2, s.n3 + t.n3, s.n4 + t.n4, addC t.D k p q⟩
theorem addC_two {T : List (Int × List Int)} {k p q : Int} (h : ∀ x ∈ T, x.2.length = 2) : ∀ x ∈ addC T k p q, x.2.length = 2 := by
  have hv : (match dget T k with | some t => List.zipWith (· + ·) [p, q] t | none => [p, q] : List Int).length = 2 := by
    cases e : dget T k with
    | none => rfl
    | some t =>
      have := DItems.len2 h e
      simp [List.length_zipWith, this]
  intro x hx
  rw [addC, dput] at hx
  split at hx
  · obtain ⟨y, hy, e⟩ := List.mem_map.mp hx
    split at e
    · rw [← e]; exact hv
    · rw [← e]; exact h y hy
  · rcases List.mem_append.mp hx with hx | hx
    · exact h x hx
    · rw [List.mem_singleton.mp hx]; exact hv
theorem addC_length {T : List (Int × List Int)} {k p q : Int} : (addC T k p q).length ≤ T.length + 1 := by
  rw [addC, dput]
  split
  · rw [List.length_map]; exact Nat.le_succ _
  · rw [List.length_append]; exact Nat.le_refl _
theorem afs_ok : ∀ (w : World) (sub news : Led) (ps : Array Value) (vt vs : Value) (et es : Ent) (k p q : Int), GTab 126 42 ps → (∀ p ∈ sub, p ∈ news) → (∀ p ∈ news, p.1 ≠ 100) → EItem w sub vt et → EItem w sub vs es → es.D = [(k, [p, q])] → et.D.length ≤ 1000 →
    OkG w 98 [vt, vs] 5 90 ((100, tabObj ps) :: news) (fun r ne => ∃ ps' ext, ne = ext ++ (100, tabObj ps') :: news ∧ GTab 126 42 ps' ∧ (∀ x ∈ ext, AllLt x.1 ((100, tabObj ps) :: news)) ∧ EItem w (ext ++ sub) r (entAdd et es k p q)) := by
  k_with_none
  unfold OkG
  w_top off
  k_fill
  intro w sub news ps vt vs et es k p q hg hsub h100 hvt hvs hes hlen mean mg mb dp un gd cn cs a ccd cl outer A₀ base h₀ L m s Q E hG Bw F X N Tp hk hd hu hret
  obtain ⟨at', dt, ot, kt, a1, a2, a3, a4, rfl, mt0, mdt0, lt0, hto, hT, hT2⟩ := hvt
  obtain ⟨as', ds, os', ks, b1, b2, b3, b4, rfl, ms0, mds0, ls0, hso, hS, _⟩ := hvs
  rw [hes] at hS
  have mt := hsub _ mt0
  have mdt := hsub _ mdt0
  have ms := hsub _ ms0
  have mds := hsub _ mds0
  k_with "call ref" =>
    k_here
    (with_reducible show wpAny _ _ (call (Value.ref 105) _) _ _ _)
    k_dflt (refine' OkG.use (addc_ok w sub news ps dt ds ot os' kt ks et.D k p q hg hsub h100 mdt mds lt0 ls0 hto hso hT hS hT2 (hT.length ▸ hlen)) ?zqG ?zqB ?zqF ?zqX ?zqN ?zqT ?zqk ?zqd ?zqu ?_; (case zqG => assumption); (case zqB => k_asm); (case zqF => k_asm); (case zqX => k_asm); (case zqN => k_asm); (case zqT => k_asm); (case zqk => exact rfl); (case zqd => first | exact zA hd rfl | exact zB hd rfl | ktr_room); (case zqu => first | exact zA hu rfl | exact zB hu rfl | ktr_units))
    intro r1 ne1 s1 hR G1 O1 F1 N1
    obtain ⟨D1, o1, ps1, ext1, kvs1, hr1, hne1, hg1, lD1, ho1, hi1, hx1⟩ := hR
    subst hr1
    rw [hne1] at N1
    clear hne1
    (try dsimp only)
    (try k_fold)
  k_with "assign Tuple" =>
    k_here
    (with_reducible show wpAny _ _ (assign _ _ (Value.ref as')) _ _ _)
    rename Fr _ _ _ _ => lF
    rename News _ _ _ _ => lN
    k_dflt (refine' unpackN_ lF lN ⟨_, (lN _ (List.mem_cons_of_mem _ ms)).1, rfl, _, rfl⟩ ?zq1 ?zq2 ?zq3 ?_; (case zq1 => exact rfl); (case zq2 => exact rfl); (case zq3 => exact rfl))
    intro h' F' N'
    (try k_sweep)
  k_with "assign Tuple" =>
    k_here
    (with_reducible show wpAny _ _ (assign _ _ (Value.ref at')) _ _ _)
    rename Fr _ _ _ _ => lF
    rename News _ _ _ _ => lN
    k_dflt (refine' unpackN_ lF lN ⟨_, (lN _ (List.mem_cons_of_mem _ mt)).1, rfl, _, rfl⟩ ?zq1 ?zq2 ?zq3 ?_; (case zq1 => exact rfl); (case zq2 => exact rfl); (case zq3 => exact rfl))
    intro h' F' N'
    (try k_sweep)
  refine wpAny_call ?_
  k_dflt ktr_enter
  k_steps
  · rename AllLt _ (ext1 ++ _) => l9
    rename News h₀ L _ _ => kN9
    refine hret _ _ _ ⟨ps1, _ :: (D1, o1) :: ext1, rfl, hg1, List.forall_mem_cons.mpr ⟨allLt_of (List.forall_mem_cons.mpr ⟨tb_ltOf l9 (100, tabObj ps1) (List.mem_append_right _ (.head _)), fun p hp => tb_ltOf l9 p (List.mem_append_right _ (.tail _ hp))⟩), hx1⟩, ?_⟩ G1 O1 (by assumption) kN9
    exact ⟨_, D1, o1, kvs1, _, _, _, _, rfl, .head _, .tail _ (.head _), lD1, ho1, hi1.mono fun p hp => .tail _ (.tail _ hp), addC_two hT2⟩
  all_goals trace_state
  all_goals w_report
end
-- MoreL
section
open PySem PySem.W PyProof.Rows PySem.Calls
theorem nameHead {h₀ h : Heap} {L D : Addr} {o : Obj} {news : Led} (_ : News h₀ L h ((D, o) :: news)) : ∃ D', D' = D := ⟨D, rfl⟩
theorem permA {h₀ h : Heap} {L : Addr} {x y : Addr × Obj} {ext news : Led} (N : News h₀ L h (x :: y :: (ext ++ news))) : News h₀ L h (y :: (ext ++ x :: news)) := fun r hr => N r (by
  rcases List.mem_cons.mp hr with e | hr
  · exact e ▸ .tail _ (.head _)
  · rcases List.mem_append.mp hr with hr | hr
    · exact .tail _ (.tail _ (List.mem_append_left _ hr))
    · rcases List.mem_cons.mp hr with e | hr
      · exact e ▸ .head _
      · exact .tail _ (.tail _ (List.mem_append_right _ hr)))
theorem rot2 {h₀ h : Heap} {L : Addr} {x y : Addr × Obj} {r : Led} (N : News h₀ L h (x :: y :: r)) : News h₀ L h (y :: x :: r) := fun q hq => N q (by
  simp only [List.mem_cons] at hq ⊢
  rcases hq with e | e | e <;> simp [e])
theorem rot3 {h₀ h : Heap} {L : Addr} {x y z : Addr × Obj} {r : Led} (N : News h₀ L h (x :: y :: z :: r)) : News h₀ L h (z :: x :: y :: r) := fun q hq => N q (by
  simp only [List.mem_cons] at hq ⊢
  rcases hq with e | e | e | e <;> simp [e])
section
variable {prog : Program} {w : World} {A : Around} {E : Value → Shared → Prop} {s : Shared} {h₀ : Heap} {L D : Addr} {m : Str → Option Value} {news : Led} {vs : List Value} {e : Nat} {v : Value}
theorem lapp {Q : Value → Shared → Prop} (F : Fr h₀ L s.heap m) (N : News h₀ L s.heap ((D, W.listOf vs.toArray e) :: news)) (hD : ∀ p ∈ news, p.1 ≠ D) (hsz : vs.length ≤ 100000)
    (h : ∀ h', Fr h₀ L h' m → News h₀ L h' ((D, W.listOf (vs ++ [v]).toArray (e + 1)) :: news) → Q .none { s with heap := h' }) :
    wpAny (model prog w) A (call (.builtin "list.append") [.ref D, v]) Q E s := by
  refine append_K F N (.head hD) (fun h' F' N' => h h' F' ?_) (by rw [sizeLine_eq]; exact Nat.le_trans (by simpa using hsz) (by decide))
  have e2 : (vs ++ [v]).toArray = vs.toArray.push v := by simp
  rw [e2]
  exact N'
end
end
-- ClsA
section
open PySem PySem.W PyProof.Rows PySem.Calls
noncomputable abbrev clsOk (d a b c : Int) : Prop := 4 * a * c = b * b + d ∧ (a < c ∨ (a = c ∧ b ≥ 0)) ∧ Int.gcd (Int.gcd a b) c = 1
/-- the forms found behind so many turns of the inner loop, then of the outer one -/
noncomputable def clsB (d a : Int) (acc : List (List Int)) : Nat → List (List Int)
  | 0 => acc
  | j + 1 => if clsOk d a (1 - a + (j : Int)) (Int.fdiv ((1 - a + (j : Int)) * (1 - a + (j : Int)) + d) (4 * a)) then clsB d a acc j ++ [[a, 1 - a + (j : Int), Int.fdiv ((1 - a + (j : Int)) * (1 - a + (j : Int)) + d) (4 * a)]] else clsB d a acc j
noncomputable def clsA (d : Int) : Nat → List (List Int)
  | 0 => []
  | i + 1 => if 3 * (1 + (i : Int)) * (1 + (i : Int)) ≤ d then clsB d (1 + (i : Int)) (clsA d i) (2 * (i + 1)) else clsA d i
noncomputable def classesF (d : Int) : List (List Int) := clsA d 8
theorem clsB_yes {d a : Int} {acc : List (List Int)} {j : Nat} (h : clsOk d a (1 - a + (j : Int)) (Int.fdiv ((1 - a + (j : Int)) * (1 - a + (j : Int)) + d) (4 * a))) :
    clsB d a acc (j + 1) = clsB d a acc j ++ [[a, 1 - a + (j : Int), Int.fdiv ((1 - a + (j : Int)) * (1 - a + (j : Int)) + d) (4 * a)]] := by rw [clsB, if_pos h]
theorem clsB_no {d a : Int} {acc : List (List Int)} {j : Nat} (h : ¬ clsOk d a (1 - a + (j : Int)) (Int.fdiv ((1 - a + (j : Int)) * (1 - a + (j : Int)) + d) (4 * a))) : clsB d a acc (j + 1) = clsB d a acc j := by rw [clsB, if_neg h]
theorem inner_small : ∀ i < 8, Builtin.Range.small (1 - (1 + ((i : Nat) : Int))) (1 + (i : Int) + 1) 1 = true := by decide
theorem inner_size : ∀ i < 8, Builtin.Range.rangeSize (1 - (1 + ((i : Nat) : Int))) (1 + (i : Int) + 1) 1 = ((2 * (i + 1) : Nat) : Int) := by decide
structure LsSt where
  vs : List Value
  e : Nat
  ext : Led
theorem cls_ok : ∀ (w : World) (news : Led) (d : Int) (td : Tok), -1000 < d → d < 1000 →
    Ok w 119 [.int d td] 3 60 news (fun r ne => ∃ D vs e ext, r = .ref D ∧ ne = (D, W.listOf vs.toArray e) :: (ext ++ news) ∧ HItems ext vs (classesF d) ∧ (∀ x ∈ ext, x.1 ≠ D) ∧ (∀ x ∈ (D, W.listOf vs.toArray e) :: ext, AllLt x.1 news)) := by
  k_with_none
  unfold Ok
  w_top off
  k_fill
  intro w news d td hd0 hd1 mean mg mb dp un gd cn cs a ccd cl outer A₀ base h₀ L m s Q E Bw F X N Tp hk hd hu hret
  k_with "exec For Name Call cons nil" => kpr_for
  k_with "isTrue Compare" =>
    k_here
    k_gentoks
  k_with "pyIter ref" =>
    k_here
    rename Fr _ _ _ _ => lF'
    rename News _ _ _ _ => lN'
    rename IsRange _ _ 1 9 _ _ _ _ => lR
    obtain ⟨D0, hD0⟩ := nameHead lN'
    subst hD0
    rename AllLt _ news => lD
    have hlD := tb_ltOf lD
    k_dflt (refine' forRange (σ := LsSt) (n := 8) (fun c => (D0, W.listOf c.vs.toArray c.e) :: (c.ext ++ news)) (fun _ => []) [Str.ofString "b", Str.ofString "c"] (fun i c => HItems c.ext c.vs (clsA d i) ∧ c.vs.length ≤ 16 * i ∧ (∀ x ∈ c.ext, x.1 ≠ D0) ∧ (∀ x ∈ c.ext, AllLt x.1 news)) ⟨[], _, []⟩ ?zqh lR ?zq1 ?zq2 lF' lN' (List.forall_mem_nil _) ⟨.nil, Nat.le_refl _, List.forall_mem_nil _, List.forall_mem_nil _⟩ ?_ ?_; (case zqh => rfl); (case zq1 => rfl); (case zq2 => rfl))
    intro i tok c I it u h tk hi hInv hic hlI hof fF fN
    rotate_left
    intro c u h tk hInv fF fN
    rotate_right
  k_with "pyIter ref" =>
    k_here
    rename IsRange _ _ (1 - (1 + _)) _ _ _ _ _ => lR
    rename Fr _ _ _ _ => lF'
    rename News _ _ _ _ => lN'
    k_dflt (refine' forRange (σ := LsSt) (n := 2 * (i + 1)) (fun c' => (D0, W.listOf c'.vs.toArray c'.e) :: (c'.ext ++ (I, it) :: news)) (fun _ => []) [Str.ofString "c"] (fun j c' => HItems c'.ext c'.vs (clsB d (1 + (i : Int)) (clsA d i) j) ∧ c'.vs.length ≤ 16 * i + j ∧ (∀ x ∈ c'.ext, x.1 ≠ D0) ∧ (∀ x ∈ c'.ext, x.1 ≠ I) ∧ (∀ x ∈ c'.ext, AllLt x.1 news)) ⟨c.vs, c.e, c.ext⟩ ?zqh lR ?zq1 ?zq2 lF' (permA lN') (List.forall_mem_nil _) ⟨hInv.1, hInv.2.1, hInv.2.2.1, fun x hx => (List.forall_mem_cons.mp hof).2 x (List.mem_append_left _ hx), hInv.2.2.2⟩ ?_ ?_; (case zqh => rfl); (case zq1 => exact inner_small i hi); (case zq2 => exact inner_size i hi))
    intro j tokj c2 I2 it2 u2 h2 tk2 hj hInv2 hic2 hlI2 hof2 fF2 fN2
    obtain ⟨hH2, hL2, hD2, hI2, hA2⟩ := hInv2
    dsimp only at hH2 hL2 hD2 hI2 hA2 fF2 fN2 hof2
    rotate_left
    intro c2 u2 h2 tk2 hInv2 fF2 fN2
    dsimp only at fF2 fN2
    rotate_right
  k_with "call ref" =>
    k_here
    (with_reducible show wpAny _ _ (call (Value.ref 112) _) _ _ _)
    rename News _ _ _ _ => lN
    k_dflt (refine' Ok.use (measure_ok w _ _ _ _ _) ?zqB ?zqF ?zqX lN ?zqT ?zqk ?zqd ?zqu ?_; (case zqB => k_asm); (case zqF => k_asm); (case zqX => k_asm); (case zqT => k_asm); (case zqk => exact rfl); (case zqd => first | exact zA hd rfl | exact zB hd rfl | ktr_room); (case zqu => first | exact zA hu rfl | exact zB hu rfl | ktr_units))
    intro r1 ne1 h1 tk1 hR F1 N1
    obtain ⟨hne1, tr1, hr1⟩ := hR
    subst hr1
    rw [hne1] at N1
    clear hne1
    (try dsimp only)
    (try k_fold)
  k_with "call builtin:list.append" =>
    k_here
    rename Fr _ _ _ _ => lF
    rename News _ _ _ ((_, _) :: (I2, _) :: _) => lN
    rename AllLt _ (c2.ext ++ _) => lA
    rename @LT.lt Nat _ D0 _ => lD9
    rename @LT.lt Nat _ I2 _ => lI9
    obtain ⟨T9, hT9⟩ := nameHead lN
    subst hT9
    have lA9 := tb_ltOf lA
    k_dflt (refine' lapp lF (rot3 lN) ?zq1 ?zq2 ?_; (case zq1 => exact List.forall_mem_cons.mpr ⟨Nat.ne_of_gt lD9, List.forall_mem_cons.mpr ⟨fun e => (List.forall_mem_cons.mp hof2).1 e.symm, fun x hx => (List.mem_append.mp hx).elim (hD2 x) fun hx => (List.mem_cons.mp hx).elim (fun e => e ▸ fun e => (List.forall_mem_cons.mp hof).1 e.symm) fun hx => Nat.ne_of_lt (hlD x hx)⟩⟩); (case zq2 => omega))
    intro h' F' N'
  refine wpAny_call ?_
  k_dflt ktr_enter
  k_steps
  · dsimp only [ForPost]
    rename Fr _ _ _ _ => fF
    refine ForEnd.intro ⟨c2.vs ++ [.ref T9], c2.e + 1, (T9, _) :: c2.ext⟩ fF N' (.tail _ (.tail _ (.head _))) (List.forall_mem_cons.mpr ⟨.head _, List.forall_mem_cons.mpr ⟨.tail _ (.head _), fun p hp => .tail _ (.tail _ (.tail _ hp))⟩⟩) (List.forall_mem_cons.mpr ⟨(List.forall_mem_cons.mp hof2).1, List.forall_mem_cons.mpr ⟨Nat.ne_of_gt lI9, (List.forall_mem_cons.mp hof2).2⟩⟩) (List.forall_mem_nil _) ?_ ⟨?_, ?_, List.forall_mem_cons.mpr ⟨Nat.ne_of_gt lD9, hD2⟩, List.forall_mem_cons.mpr ⟨Nat.ne_of_gt (lA9 (I, it) (List.mem_append_right _ (.head _))), hI2⟩, List.forall_mem_cons.mpr ⟨allLt_of fun p hp => lA9 p (List.mem_append_right _ (.tail _ hp)), hA2⟩⟩
    · intro z h1 h2 h3
      simp at h3
      simp [kstB, h1, h3]
    · have e3 : Int.gcd (Int.gcd (1 + (i : Int)) (1 - (1 + (i : Int)) + (j : Int))) (Int.fdiv ((1 - (1 + (i : Int)) + (j : Int)) * (1 - (1 + (i : Int)) + (j : Int)) + d) (4 * (1 + (i : Int)))) = 1 := Int.ofNat.inj (by assumption : ((Int.gcd _ _ : Nat) : Int) = 1)
      rw [clsB_yes ⟨by assumption, .inl (by assumption), e3⟩]
      exact HItems.append (hH2.mono fun p hp => .tail _ hp) (.cons ⟨T9, [_, _, _], 0, rfl, .head _, .cons _ _ (.cons _ _ (.cons _ _ .nil))⟩ .nil)
    · show (c2.vs ++ [_]).length ≤ _
      rw [List.length_append]
      exact Nat.succ_le_succ hL2
  · dsimp only [ForPost]
    rename Fr _ _ _ _ => fF
    rename News _ _ _ _ => fN
    have hno : ¬ clsOk d (1 + (i : Int)) (1 - (1 + (i : Int)) + (j : Int)) (Int.fdiv ((1 - (1 + (i : Int)) + (j : Int)) * (1 - (1 + (i : Int)) + (j : Int)) + d) (4 * (1 + (i : Int)))) := fun h => by
      obtain ⟨e1, e2, e3⟩ := h
      refine absurd ?_ (by assumption : ¬ ((Int.gcd _ _ : Nat) : Int) = 1); rw [e3]; rfl
    refine ForEnd.intro ⟨c2.vs, c2.e, c2.ext⟩ fF fN (.head _) (fun p hp => .tail _ hp) hof2 (List.forall_mem_nil _) ?_ ⟨by rw [clsB_no hno]; exact hH2, Nat.le_succ_of_le hL2, hD2, hI2, hA2⟩
    intro z h1 h2 h3
    simp at h3
    simp [kstB, h1, h3]
  · dsimp only [ForPost]
    rename Fr _ _ _ _ => fF
    refine ForEnd.intro ⟨c2.vs ++ [.ref T9], c2.e + 1, (T9, _) :: c2.ext⟩ fF N' (.tail _ (.tail _ (.head _))) (List.forall_mem_cons.mpr ⟨.head _, List.forall_mem_cons.mpr ⟨.tail _ (.head _), fun p hp => .tail _ (.tail _ (.tail _ hp))⟩⟩) (List.forall_mem_cons.mpr ⟨(List.forall_mem_cons.mp hof2).1, List.forall_mem_cons.mpr ⟨Nat.ne_of_gt lI9, (List.forall_mem_cons.mp hof2).2⟩⟩) (List.forall_mem_nil _) ?_ ⟨?_, ?_, List.forall_mem_cons.mpr ⟨Nat.ne_of_gt lD9, hD2⟩, List.forall_mem_cons.mpr ⟨Nat.ne_of_gt (lA9 (I, it) (List.mem_append_right _ (.head _))), hI2⟩, List.forall_mem_cons.mpr ⟨allLt_of fun p hp => lA9 p (List.mem_append_right _ (.tail _ hp)), hA2⟩⟩
    · intro z h1 h2 h3
      simp at h3
      simp [kstB, h1, h3]
    · have e3 : Int.gcd (Int.gcd (1 + (i : Int)) (1 - (1 + (i : Int)) + (j : Int))) (Int.fdiv ((1 - (1 + (i : Int)) + (j : Int)) * (1 - (1 + (i : Int)) + (j : Int)) + d) (4 * (1 + (i : Int)))) = 1 := Int.ofNat.inj (by assumption : ((Int.gcd _ _ : Nat) : Int) = 1)
      rw [clsB_yes ⟨by assumption, .inr ⟨by assumption, by assumption⟩, e3⟩]
      exact HItems.append (hH2.mono fun p hp => .tail _ hp) (.cons ⟨T9, [_, _, _], 0, rfl, .head _, .cons _ _ (.cons _ _ (.cons _ _ .nil))⟩ .nil)
    · show (c2.vs ++ [_]).length ≤ _
      rw [List.length_append]
      exact Nat.succ_le_succ hL2
  · dsimp only [ForPost]
    rename Fr _ _ _ _ => fF
    rename News _ _ _ _ => fN
    have hno : ¬ clsOk d (1 + (i : Int)) (1 - (1 + (i : Int)) + (j : Int)) (Int.fdiv ((1 - (1 + (i : Int)) + (j : Int)) * (1 - (1 + (i : Int)) + (j : Int)) + d) (4 * (1 + (i : Int)))) := fun h => by
      obtain ⟨e1, e2, e3⟩ := h
      refine absurd ?_ (by assumption : ¬ ((Int.gcd _ _ : Nat) : Int) = 1); rw [e3]; rfl
    refine ForEnd.intro ⟨c2.vs, c2.e, c2.ext⟩ fF fN (.head _) (fun p hp => .tail _ hp) hof2 (List.forall_mem_nil _) ?_ ⟨by rw [clsB_no hno]; exact hH2, Nat.le_succ_of_le hL2, hD2, hI2, hA2⟩
    intro z h1 h2 h3
    simp at h3
    simp [kstB, h1, h3]
  · dsimp only [ForPost]
    rename Fr _ _ _ _ => fF
    rename News _ _ _ _ => fN
    have hno : ¬ clsOk d (1 + (i : Int)) (1 - (1 + (i : Int)) + (j : Int)) (Int.fdiv ((1 - (1 + (i : Int)) + (j : Int)) * (1 - (1 + (i : Int)) + (j : Int)) + d) (4 * (1 + (i : Int)))) := fun h => by
      obtain ⟨e1, e2, e3⟩ := h
      exact e2.elim (fun e => absurd e (by assumption)) fun e => absurd e.2 (by assumption)
    refine ForEnd.intro ⟨c2.vs, c2.e, c2.ext⟩ fF fN (.head _) (fun p hp => .tail _ hp) hof2 (List.forall_mem_nil _) ?_ ⟨by rw [clsB_no hno]; exact hH2, Nat.le_succ_of_le hL2, hD2, hI2, hA2⟩
    intro z h1 h2 h3
    simp at h3
    simp [kstB, h1, h3]
  · dsimp only [ForPost]
    rename Fr _ _ _ _ => fF
    rename News _ _ _ _ => fN
    have hno : ¬ clsOk d (1 + (i : Int)) (1 - (1 + (i : Int)) + (j : Int)) (Int.fdiv ((1 - (1 + (i : Int)) + (j : Int)) * (1 - (1 + (i : Int)) + (j : Int)) + d) (4 * (1 + (i : Int)))) := fun h => by
      obtain ⟨e1, e2, e3⟩ := h
      exact e2.elim (fun e => absurd e (by assumption)) fun e => absurd e.1 (by assumption)
    refine ForEnd.intro ⟨c2.vs, c2.e, c2.ext⟩ fF fN (.head _) (fun p hp => .tail _ hp) hof2 (List.forall_mem_nil _) ?_ ⟨by rw [clsB_no hno]; exact hH2, Nat.le_succ_of_le hL2, hD2, hI2, hA2⟩
    intro z h1 h2 h3
    simp at h3
    simp [kstB, h1, h3]
  · dsimp only [ForPost]
    rename Fr _ _ _ _ => fF
    rename News _ _ _ _ => fN
    have hno : ¬ clsOk d (1 + (i : Int)) (1 - (1 + (i : Int)) + (j : Int)) (Int.fdiv ((1 - (1 + (i : Int)) + (j : Int)) * (1 - (1 + (i : Int)) + (j : Int)) + d) (4 * (1 + (i : Int)))) := fun h => by
      obtain ⟨e1, e2, e3⟩ := h
      exact absurd e1 (by assumption)
    refine ForEnd.intro ⟨c2.vs, c2.e, c2.ext⟩ fF fN (.head _) (fun p hp => .tail _ hp) hof2 (List.forall_mem_nil _) ?_ ⟨by rw [clsB_no hno]; exact hH2, Nat.le_succ_of_le hL2, hD2, hI2, hA2⟩
    intro z h1 h2 h3
    simp at h3
    simp [kstB, h1, h3]
  · dsimp only [ForPost]
    rename Fr _ _ _ _ => fF
    refine ForEnd.intro ⟨c2.vs, c2.e, c2.ext⟩ fF fN2 (.tail _ (List.mem_append_right _ (.head _))) (List.forall_mem_cons.mpr ⟨.head _, fun p hp => .tail _ ((List.mem_append.mp hp).elim (List.mem_append_left _) fun hp => List.mem_append_right _ (.tail _ hp))⟩) (List.forall_mem_cons.mpr ⟨(List.forall_mem_cons.mp hof).1, fun p hp => (List.mem_append.mp hp).elim (hInv2.2.2.2.1 p) fun hp => (List.forall_mem_cons.mp hof).2 p (List.mem_append_right _ hp)⟩) (List.forall_mem_nil _) ?_ ⟨by rw [clsA, if_pos (by assumption)]; exact hInv2.1, ?_, hInv2.2.2.1, hInv2.2.2.2.2⟩
    · intro z h1 h2 h3
      simp at h3
      simp [kstB, h1, h3]
    · have h9 := hInv2.2.1
      dsimp only
      omega
  · dsimp only [ForPost]
    rename Fr _ _ _ _ => fF
    refine ForEnd.intro c fF fN (.head _) (fun p hp => .tail _ hp) hof (List.forall_mem_nil _) ?_ ⟨by rw [clsA, if_neg (by assumption)]; exact hInv.1, ?_, hInv.2.2.1, hInv.2.2.2⟩
    · intro z h1 h2 h3
      simp at h3
      simp [kstB, h1, h3]
    · have h9 := hInv.2.1
      omega
  · exact hret _ _ _ _ ⟨D0, c.vs, c.e, c.ext, rfl, rfl, hInv.1, hInv.2.2.1, List.forall_mem_cons.mpr ⟨lD, hInv.2.2.2⟩⟩ (by assumption) (by assumption)
  all_goals trace_state
  all_goals w_report
end
-- CompE
section
open PySem PySem.W PyProof.Rows PySem.Calls PySem.Spec
/-- what the iterator of a comprehension must give, so that the made list may be stored -/
noncomputable def CompAt (prog : Program) (w : World) (A : Around) (h₀ : Heap) (L : Addr) (m : Str → Option Value) (env : Env) (target elt : PySem.Expr) (scope : Scope) (cl : List (Str × Addr)) (y : Str) (Q : Flow → Shared → Prop) (it : Value) (s₂ : Shared) : Prop :=
  ∃ (I : Addr) (fp wr : List Addr) (n : Nat) (P Md : Nat → Value → Heap → Prop) (St : Nat → Heap → Prop) (news : Led) (J : Nat → List Value → Led → Prop), it = .ref I ∧ KTurns prog w A target I fp wr n P Md St ∧ St 0 s₂.heap ∧ (∀ b ∈ fp, b < s₂.heap.objs.size) ∧ (∀ b ∈ wr, h₀.get? b = none ∧ b ≠ L) ∧
    (∀ (s' : Shared) (Q' : Value → Shared → Prop) (E' : Value → Shared → Prop), St 0 s'.heap → Q' (.ref I) s' → wpAny (model prog w) A (pyIter (.ref I)) Q' E' s') ∧
    Fr h₀ L s₂.heap m ∧ News h₀ L s₂.heap news ∧ (∀ p ∈ news, p.1 ∉ wr) ∧ J 0 [] [] ∧ n ≤ 100000 ∧
    (∀ (i : Nat) (v : Value) (h : Heap) (tk : Nat) (C : Addr) (ys : List Value) (ext : Led) (m₂ : Str → Option Value) (E' : Value → Shared → Prop), i < n → P i v h → J i ys ext → Fr h₀ L h m → News h₀ L h (ext ++ news) → h.Ns C m₂ → C ≠ L →
      wpAny (model prog w) A (assign target (compEnvC scope cl C env) v) (fun _ s₃ => wpAny (model prog w) A (eval elt (compEnvC scope cl C env)) (fun x s₄ =>
        ∃ h' tk' ext' m₃, s₄ = { s₂ with heap := h', toks := tk' } ∧ (∀ b o, b ≠ C → h.get? b = some o → h'.get? b = some o) ∧ h'.Ns C m₃ ∧ (∀ p ∈ ext', h'.get? p.1 = some p.2 ∧ @LT.lt Nat _ C p.1) ∧ J (i + 1) (ys ++ [x]) (ext' ++ ext)) E' s₃) E' { s₂ with heap := h, toks := tk }) ∧
    ∀ (D : Addr) (h : Heap) (tk : Nat) (ys : List Value) (ext : Led), J n ys ext → Fr h₀ L h (fun z => if z = y then some (.ref D) else m z) → News h₀ L h ((D, LCg.lst ys) :: (ext ++ news)) → (∀ p ∈ ext, p.1 ≠ D) → AllLt D news → (∀ p ∈ ext, AllLt p.1 news) → Q .next { s₂ with heap := h, toks := tk }
/-- a comprehension under way: the list D with its elements ys, the frame behind it, all that the elements made above both -/
structure CompSt (h₀ : Heap) (L : Addr) (m : Str → Option Value) (D : Nat) (news ext : Led) (ys : List Value) (h : Heap) : Prop where
  fr : Fr h₀ L h m
  acc : h.get? D = some (LCg.lst ys)
  own : ∃ u, h.Ns (D + 1) u
  base : ∀ p ∈ news, h.get? p.1 = some p.2
  more : ∀ p ∈ ext, h.get? p.1 = some p.2 ∧ D + 1 < p.1
/-- what stood before the list D was made -/
structure CompLow (h₀ : Heap) (L : Addr) (D : Nat) (news : Led) (wr : List Addr) : Prop where
  loc : @LT.lt Nat _ L D
  free : ∀ c : Nat, D ≤ c → h₀.get? c = none
  led : ∀ p ∈ news, @LT.lt Nat _ p.1 D ∧ p.1 ≠ L ∧ h₀.get? p.1 = none ∧ p.1 ∉ wr
  iter : ∀ b ∈ wr, @LT.lt Nat _ b D ∧ h₀.get? b = none ∧ b ≠ L
section
variable {h₀ h h' : Heap} {L : Addr} {m : Str → Option Value} {D : Nat} {news ext ext' : Led} {ys : List Value} {wr : List Addr}
theorem CompLow.old (B : CompLow h₀ L D news wr) {c : Nat} {o : Obj} (e : h₀.get? c = some o) : c < D := Nat.lt_of_not_le fun k => Option.some_ne_none _ (e.symm.trans (B.free c k))
theorem CompSt.led (B : CompLow h₀ L D news wr) (S : CompSt h₀ L m D news ext ys h) : News h₀ L h (ext ++ news) := List.forall_mem_append.mpr
  ⟨fun p hp => let ⟨e, k⟩ := S.more p hp; have k' := Nat.lt_of_succ_lt k; ⟨e, Nat.ne_of_gt (Nat.lt_trans B.loc k'), B.free _ (Nat.le_of_lt k')⟩, fun p hp => ⟨S.base p hp, (B.led p hp).2.1, (B.led p hp).2.2.1⟩⟩
theorem CompSt.moved (B : CompLow h₀ L D news wr) (S : CompSt h₀ L m D news ext ys h) (k : ∀ b o, b ∉ wr → h.get? b = some o → h'.get? b = some o) : CompSt h₀ L m D news ext ys h' :=
  have hi : ∀ b : Nat, D ≤ b → b ∉ wr := fun b hb x => absurd (B.iter b x).1 (Nat.not_lt.mpr hb)
  ⟨⟨S.fr.ns.at' fun o => k _ o fun x => (B.iter _ x).2.2 rfl, fun b o e => k b o (fun x => Option.some_ne_none _ (e.symm.trans (B.iter b x).2.1)) (S.fr.keep b o e), S.fr.above⟩, k _ _ (hi _ (Nat.le_refl _)) S.acc,
    S.own.imp fun _ x => x.at' fun o => k _ o (hi _ (Nat.le_succ _)), fun p hp => k _ _ (B.led p hp).2.2.2 (S.base p hp), fun p hp => let ⟨e, j⟩ := S.more p hp; ⟨k _ _ (hi _ (Nat.le_of_lt (Nat.lt_of_succ_lt j))) e, j⟩⟩
theorem CompSt.told (B : CompLow h₀ L D news wr) (S : CompSt h₀ L m D news ext ys h) (k : ∀ b o, b ≠ D + 1 → h.get? b = some o → h'.get? b = some o) (u : ∃ u, h'.Ns (D + 1) u) (x : ∀ p ∈ ext', h'.get? p.1 = some p.2 ∧ D + 1 < p.1) : CompSt h₀ L m D news (ext' ++ ext) ys h' :=
  have lo : ∀ b : Nat, b < D → b ≠ D + 1 := fun b hb => Nat.ne_of_lt (Nat.lt_succ_of_lt hb)
  ⟨⟨S.fr.ns.at' fun o => k _ o (lo _ B.loc), fun b o e => k b o (lo _ (B.old e)) (S.fr.keep b o e), S.fr.above⟩, k _ _ (Nat.ne_of_lt (Nat.lt_succ_self _)) S.acc, u, fun p hp => k _ _ (lo _ (B.led p hp).1) (S.base p hp),
    List.forall_mem_append.mpr ⟨x, fun p hp => let ⟨e, j⟩ := S.more p hp; ⟨k _ _ (Nat.ne_of_gt j) e, j⟩⟩⟩
theorem CompSt.put {ys' : List Value} (B : CompLow h₀ L D news wr) (S : CompSt h₀ L m D news ext ys h) (k : Heap.SameBut D h h') (e : h'.get? D = some (LCg.lst ys')) : CompSt h₀ L m D news ext ys' h' :=
  ⟨S.fr.change k (Nat.ne_of_gt B.loc) (B.free _ (Nat.le_refl _)), e, S.own.imp fun _ x => x.sameBut k (Nat.succ_ne_self _), fun p hp => k.extBut _ _ (Nat.ne_of_lt (B.led p hp).1) (S.base p hp),
    fun p hp => let ⟨g, j⟩ := S.more p hp; ⟨k.extBut _ _ (Nat.ne_of_gt (Nat.lt_of_succ_lt j)) g, j⟩⟩
/-- the list stands in the local m', the comprehension's frame is let go -/
theorem CompSt.stored {m' : Str → Option Value} {h'' : Heap} (B : CompLow h₀ L D news wr) (S : CompSt h₀ L m D news ext ys h) (n : h'.Ns L m') (k : Heap.SameBut L h h') (k' : Heap.SameBut (D + 1) h' h'') : Fr h₀ L h'' m' ∧ News h₀ L h'' ((D, LCg.lst ys) :: (ext ++ news)) :=
  have up : ∀ b o, b ≠ L → b ≠ D + 1 → h.get? b = some o → h''.get? b = some o := fun b o x y e => k'.extBut b o y (k.extBut b o x e)
  ⟨(S.fr.set n k).change k' (Nat.ne_of_gt (Nat.lt_succ_of_lt B.loc)) (B.free _ (Nat.le_succ _)),
    List.forall_mem_cons.mpr ⟨⟨up _ _ (Nat.ne_of_gt B.loc) (Nat.ne_of_lt (Nat.lt_succ_self _)) S.acc, Nat.ne_of_gt B.loc, B.free _ (Nat.le_refl _)⟩, fun p hp => let ⟨e, x⟩ := S.led B p hp
      ⟨up _ _ x.1 ((List.mem_append.mp hp).elim (fun q => Nat.ne_of_gt (S.more p q).2) fun q => Nat.ne_of_lt (Nat.lt_succ_of_lt (B.led p q).1)) e, x⟩⟩⟩
end
section
variable {prog : Program} {w : World} {A : Around} {E : Value → Shared → Prop} {s : Shared} {env : Env} {h₀ : Heap} {L : Addr} {m : Str → Option Value} {target : PySem.Expr}
/-- the list and the frame of a comprehension are made -/
theorem compMade {scope : Scope} {cl : List (Str × Addr)} {news : Led} {K : Value → Env → Shared → Prop} (F : Fr h₀ L s.heap m) (N : News h₀ L s.heap news) (hcell : ∀ z ∈ scope.names, z.2 ≠ .cell) (hkind : scope.kind = .function)
    (h : ∀ (cenv : Env) (h₁ : Heap) (tk : Nat), { cenv with scope := relabel scope env } = compEnvC scope cl (s.heap.objs.size + 1) env → cenv.locals = s.heap.objs.size + 1 → (∀ b o, s.heap.get? b = some o → h₁.get? b = some o) →
      CompSt h₀ L m s.heap.objs.size news [] [] h₁ → K (.ref s.heap.objs.size) cenv { s with heap := h₁, toks := tk }) :
    wpAny (model prog w) A (newList []) (fun acc s₃ => wpAny (model prog w) A (newFunctionEnv scope env.globals cl [] env.qual none .none (some env)) (K acc) E s₃) E s := by
  refine wpAny_newList (wpAny_newFunctionEnv hcell (fun _ q => nomatch q) (fun h₁ n k => ?_) hkind)
  have e := Heap.size_push s.heap { cls := .type "list", data := .seq ([] : List Value).toArray }
  have up : ∀ b o, (s.heap.push { cls := .type "list", data := .seq ([] : List Value).toArray }).get? b = some o → h₁.get? b = some o := fun b o g => k.extBut b o (Nat.ne_of_lt (Heap.lt_size g)) (Heap.get?_push_of_some _ g)
  refine h _ h₁ _ ?_ e (fun b o g => up b o (Heap.get?_push_of_some _ g)) ⟨F.keeps fun b o g => up b o (Heap.get?_push_of_some _ g), up _ _ (Heap.get?_push_size _ rfl), ⟨_, e ▸ n⟩, fun p hp => up _ _ (Heap.get?_push_of_some _ (N p hp).1), fun _ q => nomatch q⟩
  exact congrArg (fun c => compEnvC scope cl c env) e
theorem compAssign (_F : Fr h₀ L s.heap m) {elt iter : PySem.Expr} {y : Str} {py : Pos} {scope : Scope} {cl : List (Str × Addr)} {pos spos : Pos} {Q : Flow → Shared → Prop} (hLe : env.locals = L)
    (hsw : swapsWith (.ListComp elt [⟨target, iter, [], 0⟩] scope pos) (some (.Name y py)) spos.line env = pure true)
    (hclos : closureFor scope env = pure cl) (hcell : ∀ z ∈ scope.names, z.2 ≠ .cell) (hkind : scope.kind = .function)
    (hnames : ∀ z ∈ scope.names, z.2 = .local → scope.names.lookup z.1 = some .local)
    (hy : env.kindOf y = some .local) (hp : (env.scope.kind == .class || (env.scope.kind == .module && env.locals != env.globals)) = false)
    (h : wpAny (model prog w) A (eval iter env) (fun xv s₁ => wpAny (model prog w) A (pyIter xv) (CompAt prog w A h₀ L m env target elt scope cl y Q) E s₁) E s)
    (hs : ∀ x, foldedSetIterable iter env x = pure x := by intro _; rfl) :
    wpAny (model prog w) A (exec (.Assign [.Name y py] (.ListComp elt [⟨target, iter, [], 0⟩] scope pos) spos) env) Q E s := by
  rw [exec_Assign_Name_used _ _ _ _ hsw]
  refine wpAny_bind (wpAny_standAt (wpAny_bind (wpAny_bind (wpAny_mono (wpAny_comprehension_free (Q := fun _ => Q .next) rfl hs hclos hkind hnames (wpAny_mono h (fun _ _ q => wpAny_mono q (fun _ s₂ z => ?_) fun _ _ => id) fun _ _ => id)) (fun _ _ q => wpAny_pure (wpAny_pure q)) fun _ _ => id))))
  obtain ⟨I, fp, wr, n, P, Md, St, news, J, rfl, W, hst, hfp, hwr, hself, F, N, hoff, hJ, hsz, turn, done⟩ := z
  have B : CompLow h₀ L s₂.heap.objs.size news wr := ⟨F.ns.lt, fun c k => Heap.get?_none_of_le (Nat.le_trans F.above (Nat.le_trans (Nat.le_of_lt F.ns.lt) k)), fun p q => ⟨Heap.lt_size (N p q).1, (N p q).2.1, (N p q).2.2, hoff p q⟩, fun b q => ⟨hfp b (W.sub b q), hwr b q⟩⟩
  refine compMade (news := news) F N hcell hkind fun cenv h₁ tk₁ ec el hk S => ?_
  generalize s₂.heap.objs.size = D at *
  rw [ec, el]
  have go : codeAny (model prog w) A (.compLoop (.ListComp elt [⟨target, iter, [], 0⟩] scope pos) 0 (.ref I) (.ref D) (compEnvC scope cl (D + 1) env)) (compPost (model prog w) A E (some (assign (.Name y py) env)) (fun _ => Q .next) (.ref D) (D + 1)) { s₂ with heap := h₁, toks := tk₁ } := by
    refine kcp_loop (fun k s' => ∃ (i : Nat) (ys : List Value) (ext : Led) (g : Heap) (tk : Nat), k + i = n ∧ s' = { s₂ with heap := g, toks := tk } ∧ St i g ∧ ys.length = i ∧ J i ys ext ∧ CompSt h₀ L m D news ext ys g) ?_ n ⟨0, [], [], h₁, tk₁, rfl, rfl, W.frame _ _ _ hst fun b _ => hk b, rfl, hJ, S⟩
    rintro k _ ⟨i, ys, ext, g, tk, hi, rfl, t, hl, j, S⟩
    match k with
    | k + 1 =>
      have lt : i < n := by omega
      refine W.item i _ _ _ lt t fun v g₁ tk₁ d k₁ => W.go i v _ _ _ d fun g₂ p t k₂ => ?_
      have S₂ := S.moved B fun b o x e => k₂ b o x (k₁ b o x e)
      obtain ⟨u, hu⟩ := S₂.own
      refine wpAny_mono (turn i v g₂ tk₁ (D + 1) ys ext u _ lt p j S₂.fr (S₂.led B) hu (Nat.ne_of_gt (Nat.lt_succ_of_lt B.loc))) (fun _ _ q => wpAny_mono q (fun x _ r => ?_) fun _ _ => id) fun _ _ => id
      obtain ⟨g₃, tk₃, ext', u', rfl, k₃, hu', more, j'⟩ := r
      have S₃ := S₂.told B k₃ ⟨u', hu'⟩ more
      refine append_at (hsz := Nat.le_trans (Nat.le_of_eq hl) (Nat.le_trans (Nat.le_of_lt lt) (Nat.le_trans hsz (by rw [sizeLine_eq]; decide)))) S₃.acc fun g₄ k₄ e => ?_
      refine ⟨k, Nat.lt_succ_self k, i + 1, ys ++ [x], ext' ++ ext, g₄, tk₃, by omega, rfl, ?_, by rw [List.length_append, hl]; rfl, j', S₃.put B k₄ (e.trans (congrArg some (LCg.lst_snoc ys x)))⟩
      exact W.frame _ _ _ t fun b hb o e => k₄.extBut b o (Nat.ne_of_lt (hfp b hb)) (k₃ b o (Nat.ne_of_lt (Nat.lt_succ_of_lt (hfp b hb))) e)
    | 0 =>
      obtain rfl : i = n := by omega
      refine W.done _ _ _ t fun g₁ tk₁ k₁ => ?_
      have S₁ := S.moved B k₁
      obtain ⟨u, hu⟩ := S₁.own
      subst hLe
      refine wpAny_assign_Name (wpAny_storeName_local hy S₁.fr.ns (fun g₂ n₂ k₂ => ⟨u, hu.sameBut k₂ (Nat.ne_of_gt (Nat.lt_succ_of_lt B.loc)), fun g₃ k₃ => ?_⟩) hp)
      obtain ⟨F₃, N₃⟩ := S₁.stored B n₂ k₂ k₃
      exact done D g₃ _ ys ext j F₃ N₃ (fun p q => Nat.ne_of_gt (Nat.lt_of_succ_lt (S.more p q).2)) (allLt_of fun p q => (B.led p q).1) fun p q => allLt_of fun r x => Nat.lt_trans (B.led r x).1 (Nat.lt_of_succ_lt (S.more p q).2)
  exact codeAny_compStart_list go (hself _ _ _ (W.frame _ _ _ hst fun b _ => hk b) go)
end
end
-- ValS
section
open PySem PySem.W PyProof.Rows PySem.Calls
/-- the pairs of a dict of int keys, each value told by a relation -/
inductive KItems {α : Type} (R : Value → α → Prop) : List (Int × Value) → List (Int × α) → Prop
  | nil : KItems R [] []
  | cons {k : Int} {v : Value} {t : α} {kvs : List (Int × Value)} {D : List (Int × α)} : R v t → KItems R kvs D → KItems R ((k, v) :: kvs) ((k, t) :: D)
noncomputable def gput {α : Type} (D : List (Int × α)) (k : Int) (t : α) : List (Int × α) := if D.any (fun q => q.1 = k) then D.map (fun q => if q.1 = k then (q.1, t) else q) else D ++ [(k, t)]
noncomputable def gget {α : Type} (D : List (Int × α)) (k : Int) : Option α := (D.find? fun q => q.1 = k).map (·.2)
section
variable {α : Type} {R R' : Value → α → Prop} {kvs : List (Int × Value)} {D : List (Int × α)} {k : Int} {v : Value} {t : α}
theorem KItems.mono (h : KItems R kvs D) (hs : ∀ v t, R v t → R' v t) : KItems R' kvs D := by
  induction h with
  | nil => exact .nil
  | cons h _ ih => exact .cons (hs _ _ h) ih
theorem KItems.length (h : KItems R kvs D) : kvs.length = D.length := by
  induction h with
  | nil => rfl
  | cons _ _ ih => simp [ih]
theorem KItems.any (h : KItems R kvs D) (k : Int) : kvs.any (fun q => q.1 = k) = D.any (fun q => q.1 = k) := by
  induction h with
  | nil => rfl
  | cons _ _ ih => rw [List.any_cons, List.any_cons, ih]
theorem KItems.set (h : KItems R kvs D) (hv : R v t) : KItems R (kvs.map fun q => if q.1 = k then (q.1, v) else q) (D.map fun q => if q.1 = k then (q.1, t) else q) := by
  induction h with
  | nil => exact .nil
  | cons h _ ih =>
    rw [List.map_cons, List.map_cons]
    split
    · exact .cons hv ih
    · exact .cons h ih
theorem KItems.snoc (h : KItems R kvs D) (hv : R v t) : KItems R (kvs ++ [(k, v)]) (D ++ [(k, t)]) := by
  induction h with
  | nil => exact .cons hv .nil
  | cons h _ ih => exact .cons h ih
theorem KItems.put (h : KItems R kvs D) (hv : R v t) : KItems R (stored kvs k v) (gput D k t) := by
  rw [stored, gput, h.any k]
  split
  · exact h.set hv
  · exact h.snoc hv
theorem KItems.get (h : KItems R kvs D) (k : Int) : (gget D k = none ∧ valueAt kvs k = none) ∨ ∃ t v, gget D k = some t ∧ valueAt kvs k = some v ∧ R v t := by
  induction h with
  | nil => exact .inl ⟨rfl, rfl⟩
  | @cons j v t kvs D h _ ih =>
    by_cases e : j = k
    · exact .inr ⟨t, v, by simp [gget, e], by simp [valueAt, e], h⟩
    · rcases ih with ⟨a, b⟩ | ⟨t, v, a, b, c⟩
      · exact .inl ⟨by simpa [gget, e] using a, by simpa [valueAt, e] using b⟩
      · exact .inr ⟨t, v, by simpa [gget, e] using a, by simpa [valueAt, e] using b, c⟩
theorem gput_length : (gput D k t).length ≤ D.length + 1 := by
  rw [gput]
  split
  · rw [List.length_map]; exact Nat.le_succ _
  · rw [List.length_append]; exact Nat.le_refl _
end
structure VSt where
  h : List (List Int)
  told : List Int
  book : List (Int × Ent)
noncomputable def heap0 (cls : List (List Int)) : List (List Int) := cls.zipIdx.map fun p => [p.1.getD 0 0, (p.2 : Int), 0, 1, 1, 1]
/-- small numbers -/
noncomputable def sm (x : Int) : Bool := decide (-4096 < x) && decide (x < 4096)
theorem sm_iff {x : Int} (h : sm x = true) : -4096 < x ∧ x < 4096 := by
  have h := Bool.and_eq_true_iff.mp h
  exact ⟨of_decide_eq_true h.1, of_decide_eq_true h.2⟩
/-- the guards of a turn: what the walk needs -/
noncomputable def valOk (s : VSt) (value k y x step a b c d : Int) : Bool :=
  decide (0 ≤ k) && (decide (0 < a) && (decide (a < 16) && (sm b && (sm c && (sm d && (sm value && (sm k && (sm y && (sm x && (sm step && (decide (s.h.length < 900) && (decide (s.told.length < 900) && (decide (s.book.length < 900) && (decide (((gget s.book value).getD ⟨0, 0, 0, 0, []⟩).D.length < 900) && decide (Int.gcd x y ≠ 0)))))))))))))))
noncomputable def heap1 (s : VSt) (k y x step a b c : Int) : List (List Int) := sup (s.h.set 0 [a * (x + step) * (x + step) + b * (x + step) * y + c * y * y, k, y, x + step, step, 0]) 0
noncomputable def heap3 (h1 : List (List Int)) (k y a b d : Int) : List (List Int) :=
  hpush (hpush h1 [Int.fdiv (d * (y + 1) * (y + 1) + Int.fmod (b * y + b) (2 * a) * Int.fmod (b * y + b) (2 * a)) (4 * a), k, y + 1, -Int.fdiv (b * y + b) (2 * a), 1, 1])
    [Int.fdiv (d * (y + 1) * (y + 1) + (2 * a - Int.fmod (b * y + b) (2 * a)) * (2 * a - Int.fmod (b * y + b) (2 * a))) (4 * a), k, y + 1, -Int.fdiv (b * y + b) (2 * a) - 1, -1, 0]
noncomputable def ent0 (x y value k : Int) : Ent := ⟨if (Int.gcd x y : Int) = 1 then 1 else 0, 1, Int.gcd x y, Int.fdiv value ((Int.gcd x y : Int) * (Int.gcd x y : Int)), [(k, [if (Int.gcd x y : Int) = 1 then 1 else 0, 1])]⟩
noncomputable def valNext (s : VSt) (value k y x step first a b c d : Int) : VSt :=
  ⟨if first = 1 then heap3 (heap1 s k y x step a b c) k y a b d else heap1 s k y x step a b c, s.told ++ [value],
    gput s.book value (entAdd ((gget s.book value).getD ⟨0, 0, 0, 0, []⟩) (ent0 x y value k) k (if (Int.gcd x y : Int) = 1 then 1 else 0) 1)⟩
noncomputable def get6 : List (List Int) → Option (Int × Int × Int × Int × Int × Int)
  | [value, k, y, x, step, first] :: _ => some (value, k, y, x, step, first)
  | _ => none
noncomputable def get3 : Option (List Int) → Option (Int × Int × Int)
  | some [a, b, c] => some (a, b, c)
  | _ => none
theorem get6_iff {l : List (List Int)} {p : Int × Int × Int × Int × Int × Int} (h : get6 l = some p) : ∃ tl, l = [p.1, p.2.1, p.2.2.1, p.2.2.2.1, p.2.2.2.2.1, p.2.2.2.2.2] :: tl := by
  rcases l with _ | ⟨t, tl⟩
  · cases h
  rcases t with _ | ⟨v, t⟩
  · cases h
  rcases t with _ | ⟨k, t⟩
  · cases h
  rcases t with _ | ⟨y, t⟩
  · cases h
  rcases t with _ | ⟨x, t⟩
  · cases h
  rcases t with _ | ⟨s, t⟩
  · cases h
  rcases t with _ | ⟨f, t⟩
  · cases h
  rcases t with _ | ⟨_, t⟩
  · cases h; exact ⟨tl, rfl⟩
  · cases h
theorem get3_iff {o : Option (List Int)} {p : Int × Int × Int} (h : get3 o = some p) : o = some [p.1, p.2.1, p.2.2] := by
  rcases o with _ | t
  · cases h
  rcases t with _ | ⟨a, t⟩
  · cases h
  rcases t with _ | ⟨b, t⟩
  · cases h
  rcases t with _ | ⟨c, t⟩
  · cases h
  rcases t with _ | ⟨_, t⟩
  · cases h; rfl
  · cases h
noncomputable def valF (cls : List (List Int)) (d bound : Int) : Nat → VSt → Option VSt
  | 0, _ => none
  | n + 1, s =>
    match get6 s.h with
    | some (value, k, y, x, step, first) =>
      if value ≤ bound then
        match get3 cls[k.toNat]? with
        | some (a, b, c) => if valOk s value k y x step a b c d = true then valF cls d bound n (valNext s value k y x step first a b c d) else none
        | none => none
      else some s
    | none => none
noncomputable def valuesF (cls : List (List Int)) (d bound : Int) : Option VSt := valF cls d bound 400 ⟨hifyL ((heap0 cls).length / 2) (heap0 cls), [], []⟩
theorem valF_some {cls : List (List Int)} {d bound : Int} {m : Nat} {s Z : VSt} (h : valF cls d bound m s = some Z) : ∃ n value k y x step first tl, m = n + 1 ∧ s.h = [value, k, y, x, step, first] :: tl ∧
    ((value ≤ bound ∧ ∃ a b c, cls[k.toNat]? = some [a, b, c] ∧ valOk s value k y x step a b c d = true ∧ valF cls d bound n (valNext s value k y x step first a b c d) = some Z) ∨ (¬ value ≤ bound ∧ s = Z)) := by
  cases m with
  | zero => cases h
  | succ n =>
    rw [valF] at h
    split at h
    · rename_i value k y x step first h6
      obtain ⟨tl, hh⟩ := get6_iff h6
      refine ⟨n, value, k, y, x, step, first, tl, rfl, hh, ?_⟩
      split at h
      · rename_i hle
        split at h
        · rename_i a b c h3
          have hc := get3_iff h3
          split at h
          · rename_i ok
            exact .inl ⟨hle, a, b, c, hc, ok, h⟩
          · cases h
        · cases h
      · rename_i hle
        exact .inr ⟨hle, Option.some.inj h⟩
    · cases h
theorem valOk_iff {s : VSt} {value k y x step a b c d : Int} (h : valOk s value k y x step a b c d = true) : 0 ≤ k ∧ 0 < a ∧ a < 16 ∧ (-4096 < b ∧ b < 4096) ∧ (-4096 < c ∧ c < 4096) ∧ (-4096 < d ∧ d < 4096) ∧ (-4096 < value ∧ value < 4096) ∧ (-4096 < k ∧ k < 4096) ∧ (-4096 < y ∧ y < 4096) ∧ (-4096 < x ∧ x < 4096) ∧ (-4096 < step ∧ step < 4096) ∧
    s.h.length < 900 ∧ s.told.length < 900 ∧ s.book.length < 900 ∧ ((gget s.book value).getD ⟨0, 0, 0, 0, []⟩).D.length < 900 ∧ Int.gcd x y ≠ 0 := by
  unfold valOk at h
  simp only [Bool.and_eq_true, decide_eq_true_eq] at h
  obtain ⟨h1, h2, h3, h4, h5, h6, h7, h8, h9, h10, h11, h12, h13, h14, h16, h15⟩ := h
  exact ⟨h1, h2, h3, sm_iff h4, sm_iff h5, sm_iff h6, sm_iff h7, sm_iff h8, sm_iff h9, sm_iff h10, sm_iff h11, h12, h13, h14, h16, h15⟩
end
-- EnuC
section
open PySem PySem.W PyProof.Rows PySem.Calls PySem.Spec
theorem ints3 {us : List Value} {t : List Int} (h : IntsAre us t) (h3 : t.length = 3) : ∃ a b c ta tb tc, t = [a, b, c] ∧ us = [.int a ta, .int b tb, .int c tc] := by
  cases h with
  | nil => simp at h3
  | cons a ta h =>
    cases h with
    | nil => simp at h3
    | cons b tb h =>
      cases h with
      | nil => simp at h3
      | cons c tc h =>
        cases h with
        | nil => exact ⟨a, b, c, ta, tb, tc, rfl, rfl⟩
        | cons _ _ _ => simp at h3
theorem heap0_take {cls : List (List Int)} {i : Nat} {a b c : Int} (h : cls[i]? = some [a, b, c]) : (heap0 cls).take (i + 1) = (heap0 cls).take i ++ [[a, (i : Int), 0, 1, 1, 1]] := by
  have h2 : (heap0 cls)[i]? = some [a, (i : Int), 0, 1, 1, 1] := by
    rw [heap0, List.getElem?_map, List.getElem?_zipIdx, h]
    simp
  rw [List.take_add_one, h2]
  rfl
theorem heap0_length (cls : List (List Int)) : (heap0 cls).length = cls.length := by rw [heap0, List.length_map, List.length_zipIdx]
theorem compTail {R : Led → Prop} {s₀ : Shared} {h h₆ : Heap} {C : Addr} {m₆ : Str → Option Value} {obj : Obj} {tk : Nat} (hf : obj.isFreed = false) (up : ∀ b o, b ≠ C → h.get? b = some o → h₆.get? b = some o) (hn : h₆.Ns C m₆) (hR : R [(h₆.objs.size, obj)]) :
    ∃ h' tk' ext' m₃, ({ s₀ with heap := h₆.push obj, toks := tk } : Shared) = { s₀ with heap := h', toks := tk' } ∧ (∀ b o, b ≠ C → h.get? b = some o → h'.get? b = some o) ∧ h'.Ns C m₃ ∧ (∀ p ∈ ext', h'.get? p.1 = some p.2 ∧ @LT.lt Nat _ C p.1) ∧ R ext' :=
  ⟨_, tk, [(h₆.objs.size, obj)], _, rfl, fun q o hq e => Heap.get?_push_of_some _ (up q o hq e), hn.push _, fun p hp => by rw [List.mem_singleton.mp hp]; exact ⟨Heap.get?_push_size _ hf, hn.lt⟩, hR⟩
section
variable {prog : Program} {w : World} {A : Around} {E : Value → Shared → Prop} {s : Shared} {env : Env} {h₀ : Heap} {L : Addr} {m : Str → Option Value}
theorem enumComp {news : Led} {ca : Addr} {cvs : List Value} {ce : Nat} {cls : List (List Int)} {scope : Scope} {cl : List (Str × Addr)} {y : Str} {Q : Flow → Shared → Prop} {pk pa pb pc pt pt2 q1 q2 q3 q4 q5 q6 qt : Pos} {kk kk2 kk3 : Nat}
    (hh : A.handled = none) (F : Fr h₀ L s.heap m) (N : News h₀ L s.heap news) (hca : (ca, W.listOf cvs.toArray ce) ∈ news) (hH : HItems news cvs cls) (h3 : ∀ t ∈ cls, t.length = 3) (hlen : cls.length ≤ 1000)
    (hka : scope.names.lookup (Str.ofString "a") = some .local) (hkb : scope.names.lookup (Str.ofString "b") = some .local) (hkc : scope.names.lookup (Str.ofString "c") = some .local) (hkk : scope.names.lookup (Str.ofString "k") = some .local) (hkind : scope.kind = .function)
    (hQ : ∀ D h tk ys ext, HItems ext ys (heap0 cls) → Fr h₀ L h (fun z => if z = y then some (.ref D) else m z) → News h₀ L h ((D, W.listOf ys.toArray ys.length) :: (ext ++ news)) → (∀ p ∈ ext, p.1 ≠ D) → AllLt D news → (∀ p ∈ ext, AllLt p.1 news) → Q .next { s with heap := h, toks := tk }) :
    wpAny (model prog w) A (call (.type "enumerate") [.ref ca]) (fun xv s₁ => wpAny (model prog w) A (pyIter xv) (CompAt prog w A h₀ L m env
      (.Tuple [.Name (Str.ofString "k") pk, .Tuple [.Name (Str.ofString "a") pa, .Name (Str.ofString "b") pb, .Name (Str.ofString "c") pc] kk2 pt2] kk pt)
      (.Tuple [.Name (Str.ofString "a") q1, .Name (Str.ofString "k") q2, .Constant (.int 0) 0 q3, .Constant (.int 1) 0 q4, .Constant (.int 1) 0 q5, .Constant (.int 1) 0 q6] kk3 qt) scope cl y Q) E s₁) E s := by
  have hax := N _ hca
  have hl : s.heap.IsList ca cvs.toArray := ⟨_, hax.1, rfl, ce, rfl⟩
  have hlt : ca < s.heap.objs.size := Heap.lt_size hax.1
  have nlt : ∀ p ∈ news, @LT.lt Nat _ p.1 s.heap.objs.size := fun p hp => Heap.lt_size (N p hp).1
  have hcl := hH.length
  refine call_enumerate_list hl fun h' hE hI hsz hk => ?_
  refine wpAny_pyIter_enum hE ?_
  have W := (WalksT.enumerate (prog := prog) (w := w) hh (s.heap.objs.size + 1) s.heap.objs.size ca (Nat.succ_ne_self _) (Nat.ne_of_lt (Nat.lt_succ_of_lt hlt)) (Nat.ne_of_lt hlt) cvs.toArray).toU
  have e0 : cvs.toArray.size = cls.length := by simpa using hcl
  rw [e0] at W
  refine ⟨s.heap.objs.size + 1, _, _, _, _, _, _, news, fun i ys ext => HItems ext ys ((heap0 cls).take i), rfl, KTurns.ofWalksU (elts := [.Name (Str.ofString "k") pk, .Tuple [.Name (Str.ofString "a") pa, .Name (Str.ofString "b") pb, .Name (Str.ofString "c") pc] kk2 pt2]) (k := kk) (pos := pt) W,
    ⟨⟨_, hE⟩, hI, hl.at fun o e => hk _ o e⟩, fun b hb => ?_, fun b hb => ?_, fun s' Q' E' st q => ?_, F.keeps hk, fun p hp => ⟨hk _ _ (N p hp).1, (N p hp).2⟩, fun p hp hw => ?_, .nil, Nat.le_trans hlen (by decide), fun i v h tk C ys ext m₂ E' hi hP hJ F₁ N₁ hn hCL => ?_, fun D h tk ys ext hJ F₁ N₁ h1 h2 h4 => ?_⟩
  · show b < h'.objs.size
    rw [hsz]
    simp only [List.mem_cons, List.not_mem_nil, or_false] at hb
    rcases hb with rfl | rfl | rfl
    · exact Nat.lt_succ_self _
    · exact Nat.lt_succ_of_lt (Nat.lt_succ_self _)
    · exact Nat.lt_succ_of_lt (Nat.lt_succ_of_lt hlt)
  · have hLs : L < s.heap.objs.size := F.ns.lt
    simp only [List.mem_cons, List.not_mem_nil, or_false] at hb
    rcases hb with rfl | rfl
    · exact ⟨ktu_new F (Nat.le_succ _), Nat.ne_of_gt (Nat.lt_succ_of_lt hLs)⟩
    · exact ⟨ktu_new F (Nat.le_refl _), Nat.ne_of_gt hLs⟩
  · obtain ⟨⟨old, he⟩, _⟩ := st
    exact wpAny_pyIter_enum he q
  · have l := nlt p hp
    simp only [List.mem_cons, List.not_mem_nil, or_false] at hw
    rcases hw with e | e
    · rw [e] at l; exact absurd l (Nat.not_lt.mpr (Nat.le_succ _))
    · rw [e] at l; exact Nat.lt_irrefl _ l
  · obtain ⟨T, vals, rfl, ⟨t, x, hx, rfl⟩, hT⟩ := hP
    obtain ⟨x', hx', a9, us, kt, rfl, hm, hIa⟩ := hH.get (i := i) hi
    have hxx : x = .ref a9 := by
      have e : cvs[i]? = some x := by simpa using hx
      rw [e] at hx'
      exact Option.some.inj hx'
    subst hxx
    obtain ⟨a, b, c, ta, tb, tc, ht, rfl⟩ := ints3 hIa (h3 _ (by rw [List.getD_eq_getElem?_getD, List.getElem?_eq_getElem hi]; exact List.getElem_mem hi))
    have hci : cls[i]? = some [a, b, c] := by
      rw [List.getD_eq_getElem?_getD, List.getElem?_eq_getElem hi] at ht
      rw [List.getElem?_eq_getElem hi]
      exact congrArg some ht
    have hA9 := (N₁ _ (List.mem_append_right _ hm)).1
    have hCs := hn.lt
    have hp : ((compEnvC scope cl C env).scope.kind == .class || ((compEnvC scope cl C env).scope.kind == .module && (compEnvC scope cl C env).locals != (compEnvC scope cl C env).globals)) = false := by
      show (scope.kind == .class || (scope.kind == .module && _)) = false
      rw [hkind]; rfl
    have hka' : (compEnvC scope cl C env).kindOf (Str.ofString "a") = some .local := lookup_relabel_local hka
    have hkb' : (compEnvC scope cl C env).kindOf (Str.ofString "b") = some .local := lookup_relabel_local hkb
    have hkc' : (compEnvC scope cl C env).kindOf (Str.ofString "c") = some .local := lookup_relabel_local hkc
    have hkk' : (compEnvC scope cl C env).kindOf (Str.ofString "k") = some .local := lookup_relabel_local hkk
    have hkf : (compEnvC scope cl C env).scope.kind = .function := hkind
    refine wpAny_assign_Tuple hh hT rfl rfl fun h₁ he₁ => ?_
    have n1 : h₁.Ns C m₂ := hn.at' fun o e => he₁ _ o (Nat.ne_of_lt hCs) e
    show wpAny _ _ (assignInOrder [assign (.Name (Str.ofString "k") pk) _, assign (.Tuple [.Name (Str.ofString "a") pa, .Name (Str.ofString "b") pb, .Name (Str.ofString "c") pc] kk2 pt2) _] [_, _]) _ _ _
    refine assignInOrder_cons (wpAny_assign_Name (wpAny_storeName_local hkk' n1 (fun h₂ hn₂ hs₂ => assignInOrder_cons ?_) hp))
    have up2 : ∀ q o, q ≠ C → h.get? q = some o → h₂.get? q = some o := fun q o hq e => hs₂.extBut q o hq (he₁ q o (Nat.ne_of_lt (Heap.lt_size e)) e)
    have hCA : a9 ≠ C := fun e => by
      obtain ⟨o, es, ep, e1, e2, _⟩ := hn
      rw [← e, hA9] at e1
      cases e1
      cases e2
    have hT9 : h₂.IsTuple a9 #[.int a ta, .int b tb, .int c tc] := ⟨_, up2 _ _ hCA hA9, rfl, kt, rfl⟩
    refine wpAny_assign_Tuple hh hT9 rfl rfl fun h₃ he₃ => ?_
    have n3 : h₃.Ns C _ := hn₂.at' fun o e => he₃ _ o (Nat.ne_of_lt (Heap.lt_size e)) e
    show wpAny _ _ (assignInOrder [assign (.Name (Str.ofString "a") pa) _, assign (.Name (Str.ofString "b") pb) _, assign (.Name (Str.ofString "c") pc) _] [_, _, _]) _ _ _
    refine assignInOrder_cons (wpAny_assign_Name (wpAny_storeName_local hka' n3 (fun h₄ hn₄ hs₄ => assignInOrder_cons (wpAny_assign_Name (wpAny_storeName_local hkb' hn₄ (fun h₅ hn₅ hs₅ => assignInOrder_cons (wpAny_assign_Name (wpAny_storeName_local hkc' hn₅ (fun h₆ hn₆ hs₆ => assignInOrder_nil (assignInOrder_nil ?_)) hp))) hp))) hp))
    have up6 : ∀ q o, q ≠ C → h.get? q = some o → h₆.get? q = some o := fun q o hq e => hs₆.extBut q o hq (hs₅.extBut q o hq (hs₄.extBut q o hq (he₃ q o (Nat.ne_of_lt (Heap.lt_size (up2 q o hq e))) (up2 q o hq e))))
    refine wpAny_Tuple ?_
    refine wpAny_items_cons (wpAny_Name (wpAny_loadName_local hkf hka' hn₆ (v := .int a ta) rfl ?_))
    refine wpAny_items_cons (wpAny_Name (wpAny_loadName_local hkf hkk' hn₆ (v := .int i t) rfl ?_))
    refine wpAny_items_cons (wpAny_Constant_int ?_)
    refine wpAny_items_cons (wpAny_Constant_int ?_)
    refine wpAny_items_cons (wpAny_Constant_int ?_)
    refine wpAny_items_cons (wpAny_Constant_int ?_)
    refine spliced_none ⟨by show 6 ≤ sizeLine; rw [sizeLine_eq]; decide, ?_⟩
    refine compTail (R := fun ext' => HItems (ext' ++ ext) (ys ++ [.ref h₆.objs.size]) ((heap0 cls).take (i + 1))) ?hf up6 hn₆ ?_
    case hf => rfl
    rw [heap0_take hci]
    exact HItems.append (HItems.mono hJ fun p hp => .tail _ hp) (.cons ⟨h₆.objs.size, [_, _, _, _, _, _], 0, rfl, .head _, .cons _ _ (.cons _ _ (.cons _ _ (.cons _ _ (.cons _ _ (.cons _ _ .nil)))))⟩ .nil)
  · replace hJ : HItems ext ys ((heap0 cls).take cls.length) := hJ
    rw [List.take_of_length_le (by rw [heap0_length]; exact Nat.le_refl _)] at hJ
    exact hQ D h tk ys ext hJ F₁ N₁ h1 h2 h4
end
end
-- TupEq
section
open PySem PySem.W PyProof.Rows PySem.Calls PySem.Spec
theorem tup_reads {h : Heap} {a : Addr} {us : List Value} {k : Nat} {ns : List Int} (e : h.get? a = some (tupO us k)) (hi : IntsAre us ns) : Reads h (.ref a) (.tuple (ns.map PyData.int)) [] :=
  .tuple e rfl rfl (by simpa using (ke_carried hi).reads h)
theorem tup_shaped (ns : List Int) : SeqAt.shaped (.tuple (ns.map PyData.int)) = true := by
  simp [SeqAt.shaped, PyData.canLay0, PyData.depth, ke_canLayAll0, ke_depthAll]
theorem tup_eqv (ns ms : List Int) : PyData.eqv (.tuple (ns.map PyData.int)) (.tuple (ms.map PyData.int)) = decide (ns = ms) := by
  rw [PyData.eqv, ked_eqvAll]
section
variable {prog : Program} {w : World} {A : Around} {E : Value → Shared → Prop} {s : Shared} {a b : Addr} {us vs : List Value} {k j : Nat} {ns ms : List Int} {Q : Value → Shared → Prop}
theorem tup_eq (h1 : s.heap.get? a = some (tupO us k)) (h2 : s.heap.get? b = some (tupO vs j)) (i1 : IntsAre us ns) (i2 : IntsAre vs ms) (hu : A.units + 64 < cLine) (h : Q (.bool (decide (ns = ms))) s) : wpAny (model prog w) A (compareOp .Eq (.ref a) (.ref b)) Q E s :=
  eq_dataH (tup_reads h1 i1) (tup_reads h2 i2) (tup_shaped ns) (tup_shaped ms) hu (by rw [tup_eqv]; exact h)
theorem tup_ne_self (h1 : s.heap.get? a = some (tupO us k)) (i1 : IntsAre us ns) (hu : A.units + 64 < cLine) (h : Q (.bool false) s) : wpAny (model prog w) A (compareOp .NotEq (.ref a) (.ref a)) Q E s :=
  ne_dataH (tup_reads h1 i1) (tup_reads h1 i1) (tup_shaped ns) (tup_shaped ns) hu (by rw [tup_eqv, decide_eq_true rfl]; exact h)
end
end
-- ValA
section
open PySem PySem.W PyProof.Rows PySem.Calls
structure VaSt where
  hv : List Value
  he : Nat
  tv : List Value
  te : Nat
  kvs : List (Int × Value)
  bo : Obj
  TA : Led
  TB : Led
  ps : Array Value
  ext : Led
  V : VSt
  n : Nat
noncomputable def VaOff (lh tl bk : Addr) (p : Addr × Obj) : Prop := p.1 ≠ lh ∧ p.1 ≠ tl ∧ p.1 ≠ bk ∧ p.1 ≠ 30 ∧ p.1 ≠ 37 ∧ p.1 ≠ 100
noncomputable def VaInv (w : World) (news : Led) (lh tl bk : Addr) (cls : List (List Int)) (d bound : Int) (Z : VSt) (c : VaSt) : Prop :=
  Tab 30 32 4 qI2D c.TA ∧ Tab 37 47 4 qD2I c.TB ∧ GTab 126 42 c.ps ∧ HItems (c.ext ++ news) c.hv c.V.h ∧ IntsAre c.tv c.V.told ∧ c.bo.IsDictOf (KI w) c.kvs ∧ KItems (EItem w (c.ext ++ news)) c.kvs c.V.book ∧ (∀ p ∈ c.ext ++ news, VaOff lh tl bk p) ∧ valF cls d bound c.n c.V = some Z
noncomputable def vaLed (news : Led) (lh tl bk : Addr) (c : VaSt) : Led := (lh, W.listOf c.hv.toArray c.he) :: (tl, W.listOf c.tv.toArray c.te) :: (bk, c.bo) :: (c.TA ++ (c.TB ++ (100, tabObj c.ps) :: (c.ext ++ news)))
theorem permV {h₀ h : Heap} {L : Addr} {x y z t : Addr × Obj} {E TA TB news : Led} (N : News h₀ L h (z :: y :: x :: (E ++ (TA ++ (TB ++ t :: news))))) : News h₀ L h (x :: y :: z :: (TA ++ (TB ++ t :: (E ++ news)))) := fun r hr => N r (by
  simp only [List.mem_cons, List.mem_append] at hr ⊢
  rcases hr with e | e | e | e | e | e | e | e <;> simp [e])
theorem ints6 {us : List Value} {a b c d e f : Int} (h : IntsAre us [a, b, c, d, e, f]) : ∃ ta tb tc td te tf, us = [.int a ta, .int b tb, .int c tc, .int d td, .int e te, .int f tf] := by
  cases h with | cons _ ta h => cases h with | cons _ tb h => cases h with | cons _ tc h => cases h with | cons _ td h => cases h with | cons _ te h => cases h with | cons _ tf h => cases h with | nil => exact ⟨ta, tb, tc, td, te, tf, rfl⟩
theorem HItems.head {news : Led} {vs : List Value} {t : List Int} {ts : List (List Int)} (h : HItems news vs (t :: ts)) : ∃ a us k, vs[0]? = some (.ref a) ∧ (a, tupO us k) ∈ news ∧ IntsAre us t := by
  obtain ⟨v, hv, a, us, k, e, m, i⟩ := h.get (i := 0) (Nat.zero_lt_succ _)
  exact ⟨a, us, k, hv.trans (congrArg some e), m, i⟩
theorem HItems.at' {news : Led} {vs : List Value} {ts : List (List Int)} {k : Nat} {t : List Int} (h : HItems news vs ts) (e : ts[k]? = some t) : ∃ a us kk, vs[k]? = some (.ref a) ∧ (a, tupO us kk) ∈ news ∧ IntsAre us t := by
  have hk : k < ts.length := by
    rcases Nat.lt_or_ge k ts.length with h | h
    · exact h
    · rw [List.getElem?_eq_none h] at e; cases e
  obtain ⟨v, hv, a, us, kk, e2, m, i⟩ := h.get hk
  rw [List.getD_eq_getElem?_getD, e] at i
  exact ⟨a, us, kk, hv.trans (congrArg some e2), m, i⟩
noncomputable def NoTup (o : Obj) : Prop := ∀ us k, o ≠ tupO us k
theorem noTup_fields {o : Obj} {vs : Array Value} (h : o.data = .fields vs) : NoTup o := fun us k e => by rw [e] at h; cases h
theorem noTup_list {its : Array Value} {n : Nat} : NoTup (W.listOf its n) := fun us k e => absurd (Value.type.inj (congrArg Obj.cls e)) (by decide)
theorem noTup_dict {w : World} {o : Obj} {kvs : List (Int × Value)} (h : o.IsDictOf (KI w) kvs) : NoTup o := fun us k e => by
  obtain ⟨es, ep, _, e2, _⟩ := h
  rw [e] at e2
  cases e2
theorem Tab.noTup {P : Addr} {ln col : Int} {q : Str} {T : Led} (h : Tab P ln col q T) : ∀ p ∈ T, NoTup p.2 := by
  cases h with
  | none => intro p hp; rw [List.mem_singleton.mp hp]; exact noTup_fields rfl
  | some hd _ _ =>
    intro p hp
    rcases List.mem_cons.mp hp with rfl | hp
    · exact noTup_fields hd
    · rw [List.mem_singleton.mp hp]; exact noTup_fields rfl
theorem HItems.filter {N1 N2 : Led} {vs : List Value} {ts : List (List Int)} (h : HItems N1 vs ts) (hs : ∀ p ∈ N1, p ∈ N2 ∨ NoTup p.2) : HItems N2 vs ts := by
  induction h with
  | nil => exact .nil
  | cons h _ ih =>
    obtain ⟨a, us, k, e, m, i⟩ := h
    exact .cons ⟨a, us, k, e, (hs _ m).resolve_right fun x => x us k rfl, i⟩ ih
theorem core_or {TA TB news ext : Led} {ps : Array Value} (hA : Tab 30 32 4 qI2D TA) (hB : Tab 37 47 4 qD2I TB) : ∀ p ∈ TA ++ (TB ++ (100, tabObj ps) :: (ext ++ news)), p ∈ ext ++ news ∨ NoTup p.2 := fun p hp => by
  rcases List.mem_append.mp hp with hp | hp
  · exact .inr (hA.noTup p hp)
  · rcases List.mem_append.mp hp with hp | hp
    · exact .inr (hB.noTup p hp)
    · rcases List.mem_cons.mp hp with rfl | hp
      · exact .inr (noTup_fields rfl)
      · exact .inl hp
theorem vaOff_new {lh tl bk : Addr} {TA TB news ext : Led} {ps : Array Value} (hA : Tab 30 32 4 qI2D TA) (hB : Tab 37 47 4 qD2I TB) (h : ∀ p ∈ ext, AllLt p.1 (TA ++ (TB ++ (100, tabObj ps) :: news))) (h1 : ∀ p ∈ ext, p.1 ≠ lh) (h2 : AllLt tl ext) (h3 : AllLt bk ext) : ∀ p ∈ ext, VaOff lh tl bk p := fun p hp => by
  have l := tb_ltOf (h p hp)
  obtain ⟨oA, hoA⟩ := hA.at
  obtain ⟨oB, hoB⟩ := hB.at
  exact ⟨h1 p hp, Nat.ne_of_lt (tb_ltOf h2 p hp), Nat.ne_of_lt (tb_ltOf h3 p hp), Nat.ne_of_gt (l _ (List.mem_append_left _ hoA)), Nat.ne_of_gt (l _ (List.mem_append_right _ (List.mem_append_left _ hoB))), Nat.ne_of_gt (l (100, tabObj ps) (List.mem_append_right _ (List.mem_append_right _ (.head _))))⟩
theorem allLt_append {d : Addr} {l r : Led} (h : AllLt d (l ++ r)) : AllLt d l ∧ AllLt d r := ⟨allLt_of fun p hp => tb_ltOf h p (List.mem_append_left _ hp), allLt_of fun p hp => tb_ltOf h p (List.mem_append_right _ hp)⟩
theorem vaOff_old {lh tl bk : Addr} {TA TB news : Led} {ps : Array Value} (h30 : ∀ p ∈ news, p.1 ≠ 30) (h37 : ∀ p ∈ news, p.1 ≠ 37) (h100 : ∀ p ∈ news, p.1 ≠ 100) (h1 : AllLt lh (TA ++ (TB ++ (100, tabObj ps) :: news))) (h2 : AllLt tl (TA ++ (TB ++ (100, tabObj ps) :: news))) (h3 : AllLt bk (TA ++ (TB ++ (100, tabObj ps) :: news))) : ∀ p ∈ news, VaOff lh tl bk p := fun p hp =>
  have m : p ∈ TA ++ (TB ++ (100, tabObj ps) :: news) := List.mem_append_right _ (List.mem_append_right _ (.tail _ hp))
  ⟨Nat.ne_of_lt (tb_ltOf h1 p m), Nat.ne_of_lt (tb_ltOf h2 p m), Nat.ne_of_lt (tb_ltOf h3 p m), h30 p hp, h37 p hp, h100 p hp⟩
theorem ne_of_objs {h₀ h : Heap} {L a b : Addr} {l : Led} {o1 o2 : Obj} (N : News h₀ L h l) (h1 : (a, o1) ∈ l) (h2 : (b, o2) ∈ l) (hne : o1 ≠ o2) : a ≠ b := fun e => by
  have e1 := (N _ h1).1
  have e2 := (N _ h2).1
  have e3 : h.get? a = some o1 := e1
  have e4 : h.get? b = some o2 := e2
  rw [e, e4] at e3
  exact hne (Option.some.inj e3).symm
theorem Tab.flds {P : Addr} {ln col : Int} {q : Str} {T : Led} (h : Tab P ln col q T) : ∀ p ∈ T, ∃ vs, p.2.data = .fields vs := by
  cases h with
  | none => intro p hp; rw [List.mem_singleton.mp hp]; exact ⟨_, rfl⟩
  | some hd _ _ =>
    intro p hp
    rcases List.mem_cons.mp hp with rfl | hp
    · exact ⟨_, hd⟩
    · rw [List.mem_singleton.mp hp]; exact ⟨_, rfl⟩
theorem vaCore {w : World} {h₀ h : Heap} {L lh tl bk : Addr} {H T : Array Value} {e1 e2 : Nat} {bo : Obj} {kvs : List (Int × Value)} {TA TB ext : Led} {ps : Array Value} (N : News h₀ L h ((lh, W.listOf H e1) :: (tl, W.listOf T e2) :: (bk, bo) :: (TA ++ (TB ++ (100, tabObj ps) :: ext)))) (hA : Tab 30 32 4 qI2D TA) (hB : Tab 37 47 4 qD2I TB) (hD : bo.IsDictOf (KI w) kvs) (hO : ∀ p ∈ ext, VaOff lh tl bk p) (hlt : tl ≠ lh) :
    tl ≠ lh ∧ bk ≠ lh ∧ bk ≠ tl ∧ (∀ p ∈ TA ++ (TB ++ (100, tabObj ps) :: ext), p.1 ≠ lh) ∧ (∀ p ∈ TA ++ (TB ++ (100, tabObj ps) :: ext), p.1 ≠ tl) ∧ (∀ p ∈ TA ++ (TB ++ (100, tabObj ps) :: ext), p.1 ≠ bk) := by
  have hbd : ∃ es ep, bo.data = .dict es ep := let ⟨es, ep, _, e, _⟩ := hD; ⟨es, ep, e⟩
  obtain ⟨es, ep, hbd⟩ := hbd
  have key : ∀ (q : Addr) (o : Obj), (q, o) ∈ (lh, W.listOf H e1) :: (tl, W.listOf T e2) :: (bk, bo) :: (TA ++ (TB ++ (100, tabObj ps) :: ext)) → (∀ vs, o.data ≠ .fields vs) → (∀ p ∈ ext, p.1 ≠ q) → ∀ p ∈ TA ++ (TB ++ (100, tabObj ps) :: ext), p.1 ≠ q := fun q o hq hf hx p hp => by
    have hp' : p ∈ (lh, W.listOf H e1) :: (tl, W.listOf T e2) :: (bk, bo) :: (TA ++ (TB ++ (100, tabObj ps) :: ext)) := .tail _ (.tail _ (.tail _ hp))
    have fl : ∀ vs, p.2.data = .fields vs → p.1 ≠ q := fun vs hd => ne_of_objs N (o1 := p.2) hp' hq fun e => hf vs (e ▸ hd)
    rcases List.mem_append.mp hp with hp | hp
    · obtain ⟨vs, hd⟩ := hA.flds p hp; exact fl vs hd
    · rcases List.mem_append.mp hp with hp | hp
      · obtain ⟨vs, hd⟩ := hB.flds p hp; exact fl vs hd
      · rcases List.mem_cons.mp hp with rfl | hp
        · exact fl _ rfl
        · exact hx p hp
  refine ⟨hlt, ne_of_objs N (.tail _ (.tail _ (.head _))) (.head _) fun e => ?_, ne_of_objs N (.tail _ (.tail _ (.head _))) (.tail _ (.head _)) fun e => ?_, key lh _ (.head _) (fun _ e => ?_) fun p hp => (hO p hp).1, key tl _ (.tail _ (.head _)) (fun _ e => ?_) fun p hp => (hO p hp).2.1, key bk _ (.tail _ (.tail _ (.head _))) (fun _ e => ?_) fun p hp => (hO p hp).2.2.1⟩
  · rw [e] at hbd; cases hbd
  · rw [e] at hbd; cases hbd
  · cases e
  · cases e
  · rw [hbd] at e; cases e
theorem permI {h₀ h : Heap} {L : Addr} {x1 x2 x3 x4 t : Addr × Obj} {TA TB r : Led} (N : News h₀ L h (x1 :: x2 :: x3 :: x4 :: (TA ++ (TB ++ t :: r)))) : News h₀ L h (TA ++ (TB ++ (x1 :: x2 :: x3 :: x4 :: t :: r))) := fun p hp => N p (by
  simp only [List.mem_cons, List.mem_append] at hp ⊢
  rcases hp with e | e | e | e | e | e | e | e <;> simp [e])
theorem permP {h₀ h : Heap} {L : Addr} {a b l x y z t : Addr × Obj} {TA TB r : Led} (N : News h₀ L h (a :: b :: (TA ++ (TB ++ (l :: x :: y :: z :: t :: r))))) : News h₀ L h (l :: a :: b :: (TA ++ (TB ++ (x :: y :: z :: t :: r)))) := fun p hp => N p (by
  simp only [List.mem_cons, List.mem_append] at hp ⊢
  rcases hp with e | e | e | e | e | e | e | e | e | e <;> simp [e])
theorem permF {h₀ h : Heap} {L : Addr} {a b c l x y z t : Addr × Obj} {TA TB r : Led} (N : News h₀ L h (l :: a :: b :: c :: (TA ++ (TB ++ (x :: y :: z :: t :: r))))) : News h₀ L h (l :: y :: z :: (TA ++ (TB ++ t :: ([a, b, c, x] ++ r)))) := fun p hp => N p (by
  simp only [List.mem_cons, List.mem_append, List.not_mem_nil, or_false] at hp ⊢
  rcases hp with e | e | e | e | e | e | (e | e | e | e) | e <;> simp [e])
theorem permE {h₀ h : Heap} {L : Addr} {l x y z t : Addr × Obj} {TA TB r : Led} (N : News h₀ L h (l :: x :: y :: z :: (TA ++ (TB ++ t :: r)))) : News h₀ L h (l :: y :: z :: (TA ++ (TB ++ t :: ([x] ++ r)))) := fun p hp => N p (by
  simp only [List.mem_cons, List.mem_append, List.not_mem_nil, or_false] at hp ⊢
  rcases hp with e | e | e | e | e | e | e | e <;> simp [e])
theorem mul_sm {a b : Int} (ha : -4096 < a ∧ a < 4096) (hb : -4096 < b ∧ b < 4096) : -16777216 < a * b ∧ a * b < 16777216 := by
  have h : (a * b).natAbs < 16777216 := by
    rw [Int.natAbs_mul]
    have h1 : a.natAbs ≤ 4095 := by omega
    have h2 : b.natAbs ≤ 4095 := by omega
    exact Nat.lt_of_le_of_lt (Nat.mul_le_mul h1 h2) (by decide)
  omega
theorem vaOff_top {lh tl bk q : Addr} {TA TB : Led} {o : Obj} (hA : Tab 30 32 4 qI2D TA) (hB : Tab 37 47 4 qD2I TB) (h1 : lh ≠ q) (h2 : tl ≠ q) (h3 : bk ≠ q) (hTA : AllLt q TA) (hTB : AllLt q TB) (h100 : 100 < q) : VaOff lh tl bk (q, o) := by
  obtain ⟨oA, hoA⟩ := hA.at
  obtain ⟨oB, hoB⟩ := hB.at
  exact ⟨h1.symm, h2.symm, h3.symm, Nat.ne_of_gt (tb_ltOf hTA _ hoA), Nat.ne_of_gt (tb_ltOf hTB _ hoB), Nat.ne_of_gt h100⟩
noncomputable def VaJoin0 (news : Led) (lh tl bk : Addr) (c : VaSt) (h₀ : Heap) (L : Addr) (m : Str → Option Value) (s₁ : Shared) (hp : List (List Int)) (s' : Shared) : Prop :=
  ∃ (h' : Heap) (tk : Nat) (u : Str → Option Value) (hv : List Value) (e : Nat) (A' B' ext' : Led), s' = { s₁ with heap := h', toks := tk } ∧ Fr h₀ L h' (fun z => if [Str.ofString "q", Str.ofString "r", Str.ofString "level"].contains z = true then u z else m z) ∧
    News h₀ L h' ((lh, W.listOf hv.toArray e) :: (tl, W.listOf c.tv.toArray c.te) :: (bk, c.bo) :: (A' ++ (B' ++ (100, tabObj c.ps) :: (ext' ++ (c.ext ++ news))))) ∧ Tab 30 32 4 qI2D A' ∧ Tab 37 47 4 qD2I B' ∧ HItems (ext' ++ (c.ext ++ news)) hv hp ∧ (∀ p ∈ ext', VaOff lh tl bk p)
theorem vaIf {M : Model} {A : Around} {E : Value → Shared → Prop} {st : Stmt} {env : Env} {Q : Flow → Shared → Prop} {s : Shared} {h₀ : Heap} {L : Addr} {m : Str → Option Value} {news : Led} {lh tl bk : Addr} {c : VaSt} (hp : List (List Int)) (_F : Fr h₀ L s.heap m)
    (h1 : ∀ Qj : Flow → Shared → Prop, (∀ s', VaJoin0 news lh tl bk c h₀ L m s hp s' → Qj .next s') → wpAny M A (exec st env) Qj E s) (h2 : ∀ s', VaJoin0 news lh tl bk c h₀ L m s hp s' → Q .next s') : wpAny M A (exec st env) Q E s := h1 Q h2
theorem gcd_sm {x y : Int} (hy : -4096 < y ∧ y < 4096) (hx : -4096 < x ∧ x < 4096) (h : Int.gcd x y ≠ 0) : 0 < (Int.gcd x y : Int) ∧ (Int.gcd x y : Int) < 4096 ∧ 0 < (Int.gcd x y : Int) * (Int.gcd x y : Int) ∧ (Int.gcd x y : Int) * (Int.gcd x y : Int) < 16777216 ∧ (Int.gcd x y : Int) * (Int.gcd x y : Int) ≠ 0 := by
  have h0 : 0 < (Int.gcd x y : Int) := by omega
  have h1 : (Int.gcd x y : Int) < 4096 := by
    rcases Int.lt_or_le 0 x.natAbs with hx' | hx'
    · have := Nat.le_of_dvd (by omega) (Nat.gcd_dvd_left x.natAbs y.natAbs)
      have e : Int.gcd x y = Nat.gcd x.natAbs y.natAbs := rfl
      omega
    · have e : Int.gcd x y = Nat.gcd x.natAbs y.natAbs := rfl
      have ex : x.natAbs = 0 := by omega
      rw [ex, Nat.gcd_zero_left] at e
      omega
  have h2 := mul_sm (a := (Int.gcd x y : Int)) (b := (Int.gcd x y : Int)) ⟨by omega, h1⟩ ⟨by omega, h1⟩
  have h3 : 0 < (Int.gcd x y : Int) * (Int.gcd x y : Int) := Int.mul_pos h0 h0
  exact ⟨h0, h1, h3, h2.2, Int.ne_of_gt h3⟩
noncomputable def AlJoin (g : Int) (s : Shared) (v : Value) (s' : Shared) : Prop := ∃ t tk, v = .int (if g = 1 then 1 else 0) t ∧ s' = { s with toks := tk }
theorem alIf {M : Model} {A : Around} {E : Value → Shared → Prop} {e : PySem.Expr} {env : Env} {Q : Value → Shared → Prop} {s : Shared} (g : Int)
    (h1 : wpAny M A (eval e env) (AlJoin g s) E s) (h2 : ∀ t tk, Q (.int (if g = 1 then 1 else 0) t) { s with toks := tk }) : wpAny M A (eval e env) Q E s :=
  wpAny_mono h1 (fun v s' ⟨t, tk, e1, e2⟩ => by rw [e1, e2]; exact h2 t tk) fun _ _ x => x
theorem pairs_one (k : Int) (t : Tok) (v : Value) : ((intKeyPairs [(.int k t, v)]).map (·.1)).Nodup := by simp [intKeyPairs]
theorem Tab.off100 {P : Addr} {ln col : Int} {q : Str} {T l : Led} {h₀ h : Heap} {L : Addr} {ps : Array Value} (hT : Tab P ln col q T) (hP : P ≠ 100) (g : GTab 126 42 ps) (N : News h₀ L h l) (h1 : ∀ p ∈ T, p ∈ l) (h2 : (100, tabObj ps) ∈ l) : ∀ p ∈ T, p.1 ≠ 100 := by
  cases hT with
  | none => intro p hp; rw [List.mem_singleton.mp hp]; exact hP
  | some hd hv _ =>
    intro p hp
    rcases List.mem_cons.mp hp with rfl | hp
    · refine ne_of_objs N (h1 _ (.head _)) h2 fun e => ?_
      rw [e] at hd
      cases hd
      cases g with
      | none => cases hv
      | some c' => cases hv
    · rw [List.mem_singleton.mp hp]; exact hP
theorem ent_old {w : World} {l : Led} {kvs : List (Int × Value)} {B : List (Int × Ent)} {value : Int} {T6 : Addr} (hK : KItems (EItem w l) kvs B) (h6 : EItem w l (.ref T6) ⟨0, 0, 0, 0, []⟩) : EItem w l ((valueAt kvs value).getD (.ref T6)) ((gget B value).getD ⟨0, 0, 0, 0, []⟩) := by
  rcases hK.get value with ⟨e1, e2⟩ | ⟨t, v, e1, e2, h⟩
  · rw [e1, e2]; exact h6
  · rw [e1, e2]; exact h
theorem permQ {h₀ h : Heap} {L : Addr} {a1 a2 a3 a4 a5 l x z t : Addr × Obj} {TA TB r : Led} (N : News h₀ L h (a1 :: a2 :: a3 :: a4 :: a5 :: l :: x :: z :: (TA ++ (TB ++ t :: r)))) : News h₀ L h (t :: l :: x :: z :: (TA ++ (TB ++ (a1 :: a2 :: a3 :: a4 :: a5 :: r)))) := fun p hp => N p (by
  simp only [List.mem_cons, List.mem_append] at hp ⊢
  rcases hp with e | e | e | e | e | e | e | e | e | e | e | e <;> simp [e])
theorem permR {h₀ h : Heap} {L : Addr} {t l x z : Addr × Obj} {E r : Led} (N : News h₀ L h (E ++ t :: l :: x :: z :: r)) : News h₀ L h (z :: l :: x :: (E ++ t :: r)) := fun p hp => N p (by
  simp only [List.mem_cons, List.mem_append] at hp ⊢
  rcases hp with e | e | e | e | e | e <;> simp [e])
theorem afsCall {w : World} {mean : ExcName → Option Value} {mg mb : Str → Option Value} {dp un : Nat} {gd : Option (List Code)} {cn : Str} {cs : Scope} {a : Addr} {ccd : Value} {cl : List (Str × Addr)} {outer : List Env} {A₀ : Around} {base h₀ : Heap} {L : Addr} {m : Str → Option Value} {s : Shared} {Q E : Value → Shared → Prop}
    {a1 a2 a3 a4 a5 l x z : Addr × Obj} {TA TB r : Led} {ps : Array Value} {vt vs : Value} {k : Int} (et es : Ent) (p q : Int)
    (N : News h₀ L s.heap (a1 :: a2 :: a3 :: a4 :: a5 :: l :: x :: z :: (TA ++ (TB ++ (100, tabObj ps) :: r)))) (hg : GTab 126 42 ps) (h100 : ∀ y ∈ l :: x :: z :: (TA ++ (TB ++ (a1 :: a2 :: a3 :: a4 :: a5 :: r))), y.1 ≠ 100)
    (hvt : EItem w (a1 :: a2 :: a3 :: a4 :: a5 :: r) vt et) (hvs : EItem w (a1 :: a2 :: a3 :: a4 :: a5 :: r) vs es) (hes : es.D = [(k, [p, q])]) (hlen : et.D.length ≤ 1000)
    (G : AllBare s.gens) (B : Below A₀ base outer h₀) (F : Fr h₀ L s.heap m) (X : (hdX.heap_1 w.params).In h₀) (T : Top topProg looseG mean mg mb h₀) (hk : cs.kind = .function) (hd : dp + 5 < recursionLimit) (hu : un + 90 < cLine)
    (h : ∀ r' s' ps' ext, AllBare s'.gens → s'.os = s.os → Fr h₀ L s'.heap m → News h₀ L s'.heap (ext ++ (100, tabObj ps') :: l :: x :: z :: (TA ++ (TB ++ (a1 :: a2 :: a3 :: a4 :: a5 :: r)))) → GTab 126 42 ps' → (∀ y ∈ ext, AllLt y.1 ((100, tabObj ps) :: l :: x :: z :: (TA ++ (TB ++ (a1 :: a2 :: a3 :: a4 :: a5 :: r))))) → EItem w (ext ++ (a1 :: a2 :: a3 :: a4 :: a5 :: r)) r' (entAdd et es k p q) → Q r' s') :
    wpAny (model PySem.Challenge.rw_pg0199_01.row.prog w) (ktrTop dp un gd cn cs L a ccd cl outer) (call (.ref 98) [vt, vs]) Q E s :=
  OkG.use (afs_ok w (a1 :: a2 :: a3 :: a4 :: a5 :: r) (l :: x :: z :: (TA ++ (TB ++ (a1 :: a2 :: a3 :: a4 :: a5 :: r)))) ps vt vs et es k p q hg (fun _ hp => .tail _ (.tail _ (.tail _ (List.mem_append_right _ (List.mem_append_right _ hp))))) h100 hvt hvs hes hlen) G B F X (permQ N) T hk hd hu
    fun r' ne s' hR G' O' F' N' => by
      obtain ⟨ps', ext, hne, hg', hx, hE⟩ := hR
      rw [hne] at N'
      exact h r' s' ps' ext G' O' F' N' hg' hx hE
theorem offX {q : Addr} {E TA TB r : Led} {t t' a1 a2 a3 a4 a5 : Addr × Obj} (ht : t'.1 = t.1) (h : ∀ p ∈ TA ++ (TB ++ t :: r), p.1 ≠ q) (hE : ∀ y ∈ E, @LT.lt Nat _ q y.1) (h1 : @LT.lt Nat _ q a1.1) (h2 : @LT.lt Nat _ q a2.1) (h3 : @LT.lt Nat _ q a3.1) (h4 : @LT.lt Nat _ q a4.1) (h5 : @LT.lt Nat _ q a5.1) :
    ∀ p ∈ E ++ t' :: (TA ++ (TB ++ (a1 :: a2 :: a3 :: a4 :: a5 :: r))), p.1 ≠ q := fun p hp => by
  simp only [List.mem_cons, List.mem_append] at hp
  rcases hp with e | rfl | e | e | rfl | rfl | rfl | rfl | rfl | e
  · exact Nat.ne_of_gt (hE p e)
  · rw [ht]; exact h t (List.mem_append_right _ (List.mem_append_right _ (.head _)))
  · exact h p (List.mem_append_left _ e)
  · exact h p (List.mem_append_right _ (List.mem_append_left _ e))
  · exact Nat.ne_of_gt h1
  · exact Nat.ne_of_gt h2
  · exact Nat.ne_of_gt h3
  · exact Nat.ne_of_gt h4
  · exact Nat.ne_of_gt h5
  · exact h p (List.mem_append_right _ (List.mem_append_right _ (.tail _ e)))
theorem vaOff_all {lh tl bk q : Addr} {TA TB r : Led} {ps : Array Value} {o : Obj} (hA : Tab 30 32 4 qI2D TA) (hB : Tab 37 47 4 qD2I TB) (h1 : @LT.lt Nat _ lh q) (h2 : @LT.lt Nat _ tl q) (h3 : @LT.lt Nat _ bk q) (l : AllLt q (TA ++ (TB ++ (100, tabObj ps) :: r))) : VaOff lh tl bk (q, o) :=
  vaOff_top hA hB (Nat.ne_of_lt h1) (Nat.ne_of_lt h2) (Nat.ne_of_lt h3) (allLt_append l).1 (allLt_append (allLt_append l).2).1 (tb_ltOf l (100, tabObj ps) (List.mem_append_right _ (List.mem_append_right _ (.head _))))
theorem vaEnd {w : World} {news : Led} {lh tl bk : Addr} {cls : List (List Int)} {d bound : Int} {Z V' : VSt} {c : VaSt} {cn' : Nat} {h₀ : Heap} {L : Addr} {os₀ : OsState} {free : Str → Prop} {m₀ m' : Str → Option Value} {s' : Shared} {a1 a2 a3 a4 a5 : Addr × Obj} {hv2 tv' : List Value} {he2 te' : Nat} {bo' : Obj} {kvs' : List (Int × Value)} {TA2 TB2 ext2 ext9 : Led} {ps9 : Array Value}
    (N : News h₀ L s'.heap ((tl, W.listOf tv'.toArray te') :: (bk, bo') :: (lh, W.listOf hv2.toArray he2) :: (ext9 ++ (100, tabObj ps9) :: (TA2 ++ (TB2 ++ (a1 :: a2 :: a3 :: a4 :: a5 :: (ext2 ++ (c.ext ++ news)))))))) (F : Fr h₀ L s'.heap m') (G : AllBare s'.gens) (O : s'.os = os₀) (hz : ∀ z, ¬ free z → m' z = m₀ z)
    (hA : Tab 30 32 4 qI2D TA2) (hB : Tab 37 47 4 qD2I TB2) (hg : GTab 126 42 ps9) (hI : HItems (ext2 ++ (c.ext ++ news)) hv2 V'.h) (hT : IntsAre tv' V'.told) (hD : bo'.IsDictOf (KI w) kvs') (hK : KItems (EItem w (ext9 ++ (a1 :: a2 :: a3 :: a4 :: a5 :: (ext2 ++ (c.ext ++ news))))) kvs' V'.book)
    (o9 : ∀ p ∈ ext9, VaOff lh tl bk p) (o1 : VaOff lh tl bk a1) (o2 : VaOff lh tl bk a2) (o3 : VaOff lh tl bk a3) (o4 : VaOff lh tl bk a4) (o5 : VaOff lh tl bk a5) (oe : ∀ p ∈ ext2, VaOff lh tl bk p) (oc : ∀ p ∈ c.ext ++ news, VaOff lh tl bk p) (hV : valF cls d bound cn' V' = some Z) (hn : c.n = cn' + 1) :
    EndG h₀ L os₀ (vaLed news lh tl bk) (fun _ => []) free m₀ [] (fun c' => VaInv w news lh tl bk cls d bound Z c' ∧ c'.n < c.n) s' := by
  have sub : ∀ p ∈ ext9 ++ (a1 :: a2 :: a3 :: a4 :: a5 :: (ext2 ++ (c.ext ++ news))), p ∈ (ext9 ++ (a1 :: a2 :: a3 :: a4 :: a5 :: (ext2 ++ c.ext))) ++ news := fun p hp => by
    simp only [List.mem_cons, List.mem_append] at hp ⊢
    rcases hp with e | e | e | e | e | e | e | e | e <;> simp [e]
  refine EndG.intro ⟨hv2, he2, tv', te', kvs', bo', TA2, TB2, ps9, ext9 ++ (a1 :: a2 :: a3 :: a4 :: a5 :: (ext2 ++ c.ext)), V', cn'⟩ G O F N (List.forall_mem_nil _) (fun p hp => ?_) (fun _ _ _ h => nomatch h) (List.forall_mem_nil _) (fun z h _ => hz z h)
    ⟨⟨hA, hB, hg, hI.mono fun p hp => sub p (List.mem_append_right _ (.tail _ (.tail _ (.tail _ (.tail _ (.tail _ hp)))))), hT, hD, hK.mono fun v t h => h.mono sub, fun p hp => ?_, hV⟩, by show cn' < c.n; omega⟩
  · simp only [vaLed, List.mem_cons, List.mem_append] at hp ⊢
    rcases hp with e | e | e | e | e | e | (e | e | e | e | e | e | e | e) | e <;> simp [e]
  · simp only [List.mem_cons, List.mem_append] at hp
    rcases hp with (e | rfl | rfl | rfl | rfl | rfl | e | e) | e
    · exact o9 p e
    · exact o1
    · exact o2
    · exact o3
    · exact o4
    · exact o5
    · exact oe p e
    · exact oc p (List.mem_append_left _ e)
    · exact oc p (List.mem_append_right _ e)
theorem ints_snoc {us : List Value} {ns : List Int} {n : Int} {t : Tok} (h : IntsAre us ns) : IntsAre (us ++ [.int n t]) (ns ++ [n]) := by
  induction h with
  | nil => exact .cons _ _ .nil
  | cons m u _ ih => exact .cons m u ih
theorem idivCall {w : World} {mean : ExcName → Option Value} {mg mb : Str → Option Value} {dp un : Nat} {gd : Option (List Code)} {cn : Str} {cs : Scope} {a : Addr} {ccd : Value} {cl : List (Str × Addr)} {outer : List Env} {A₀ : Around} {base h₀ : Heap} {L : Addr} {m : Str → Option Value} {s : Shared} {Q E : Value → Shared → Prop}
    {l x1 x2 x3 t : Addr × Obj} {TA TB r : Led} {X b : Int} {tx tb : Tok} (N : News h₀ L s.heap (l :: x1 :: x2 :: x3 :: (TA ++ (TB ++ t :: r)))) (h0 : -(2 ^ 40) < X) (h1 : X < 2 ^ 40) (h2 : 0 < b) (h3 : b < 64) (hA : Tab 30 32 4 qI2D TA) (hB : Tab 37 47 4 qD2I TB)
    (h30 : ∀ p ∈ l :: x1 :: x2 :: x3 :: t :: r, p.1 ≠ 30) (h37 : ∀ p ∈ l :: x1 :: x2 :: x3 :: t :: r, p.1 ≠ 37)
    (B : Below A₀ base outer h₀) (F : Fr h₀ L s.heap m) (K : (hdX.heap_1 w.params).In h₀) (T : Top topProg looseG mean mg mb h₀) (hk : cs.kind = .function) (hd : dp + 220 < recursionLimit) (hu : un + 1800 < cLine)
    (h : ∀ D t1 t2 A' B' h' tk', Fr h₀ L h' m → News h₀ L h' ((D, tup2 (Int.fdiv X b) (Int.fmod X b) t1 t2) :: (A' ++ (B' ++ (l :: x1 :: x2 :: x3 :: t :: r)))) → Tab 30 32 4 qI2D A' → Tab 37 47 4 qD2I B' → AllLt D (A' ++ (B' ++ (l :: x1 :: x2 :: x3 :: t :: r))) → Q (.ref D) { s with heap := h', toks := tk' }) :
    wpAny (model PySem.Challenge.rw_pg0199_01.row.prog w) (ktrTop dp un gd cn cs L a ccd cl outer) (call (.ref 56) [.int X tx, .int b tb]) Q E s :=
  Ok.use (idiv_ok w TA TB (l :: x1 :: x2 :: x3 :: t :: r) X b tx tb h0 h1 h2 h3 hA hB h30 h37) B F K (permI N) T hk hd hu fun r' ne h' tk' hR F' N' => by
    obtain ⟨D, t1, t2, A', B', rfl, hne, hA', hB', hlt⟩ := hR
    rw [hne] at N'
    exact h D t1 t2 A' B' h' tk' F' N' hA' hB' hlt
theorem hpushG {w : World} {mean : ExcName → Option Value} {mg mb : Str → Option Value} {dp un : Nat} {gd : Option (List Code)} {cn : Str} {cs : Scope} {a : Addr} {ccd : Value} {cl : List (Str × Addr)} {outer : List Env} {A₀ : Around} {base h₀ : Heap} {L : Addr} {m : Str → Option Value} {s : Shared} {Q E : Value → Shared → Prop}
    {lh T : Addr} {us hv : List Value} {e : Nat} {l sub : Led} {hp : List (List Int)} {ts : List Int} (N : News h₀ L s.heap ((lh, W.listOf hv.toArray e) :: (T, tupO us 0) :: l)) (hH : HItems sub hv hp) (hi : IntsAre us ts) (hlen : hp.length < 1000)
    (hs : ∀ p ∈ sub, p ∈ l) (hn : ∀ p ∈ l, p ∈ sub ∨ NoTup p.2) (hT : @LT.lt Nat _ lh T) (ho : ∀ p ∈ l, p.1 ≠ lh)
    (B : Below A₀ base outer h₀) (F : Fr h₀ L s.heap m) (K : (hdX.heap_1 w.params).In h₀) (Tp : Top topProg looseG mean mg mb h₀) (hk : cs.kind = .function) (hd : dp + 3 < recursionLimit) (hu : un + 60 < cLine)
    (h : ∀ hv' e' h' tk', Fr h₀ L h' m → News h₀ L h' ((lh, W.listOf hv'.toArray e') :: (T, tupO us 0) :: l) → HItems ((T, tupO us 0) :: sub) hv' (hpush hp ts) → Q .none { s with heap := h', toks := tk' }) :
    wpAny (model PySem.Challenge.rw_pg0199_01.row.prog w) (ktrTop dp un gd cn cs L a ccd cl outer) (call (.ref 63) [.ref lh, .ref T]) Q E s :=
  Ok.use (hpush_ok w ((T, tupO us 0) :: l) lh hv hp e (.ref T) ts (hH.mono fun p m => .tail _ (hs p m)) ⟨T, us, 0, rfl, .head _, hi⟩ (List.forall_mem_cons.mpr ⟨Nat.ne_of_gt hT, ho⟩) hlen) B F K N Tp hk hd hu fun r' ne h' tk' hR F' N' => by
    obtain ⟨rfl, vs', e', rfl, hI⟩ := hR
    exact h vs' e' h' tk' F' N' (hI.filter fun p hp => (List.mem_cons.mp hp).elim (fun e => .inl (e ▸ .head _)) fun hp => (hn p hp).imp (.tail _) id)
theorem pickD {d x y z t : Addr × Obj} {TA TB r : Led} (hA : Tab 30 32 4 qI2D TA) (hB : Tab 37 47 4 qD2I TB) (ny : NoTup y.2) (nz : NoTup z.2) (nt : NoTup t.2) : ∀ p ∈ d :: (TA ++ (TB ++ (x :: y :: z :: t :: r))), p ∈ d :: x :: r ∨ NoTup p.2 := fun p hp => by
  simp only [List.mem_cons, List.mem_append] at hp
  rcases hp with e | e | e | e | rfl | rfl | rfl | e
  · exact .inl (e ▸ .head _)
  · exact .inr (hA.noTup p e)
  · exact .inr (hB.noTup p e)
  · exact .inl (e ▸ .tail _ (.head _))
  · exact .inr ny
  · exact .inr nz
  · exact .inr nt
  · exact .inl (.tail _ (.tail _ e))
theorem offD {lh : Addr} {d x y z t : Addr × Obj} {TA TB r : Led} (hA : ∀ p ∈ TA, p.1 ≠ lh) (hB : ∀ p ∈ TB, p.1 ≠ lh) (h1 : d.1 ≠ lh) (h2 : ∀ p ∈ x :: y :: z :: t :: r, p.1 ≠ lh) : ∀ p ∈ d :: (TA ++ (TB ++ (x :: y :: z :: t :: r))), p.1 ≠ lh := fun p hp => by
  rcases List.mem_cons.mp hp with rfl | hp
  · exact h1
  · rcases List.mem_append.mp hp with hp | hp
    · exact hA p hp
    · rcases List.mem_append.mp hp with hp | hp
      · exact hB p hp
      · exact h2 p hp
theorem Tab.offL {P lh : Addr} {ln col : Int} {q : Str} {T l : Led} {h₀ h : Heap} {L : Addr} {its : Array Value} {n : Nat} (hT : Tab P ln col q T) (N : News h₀ L h l) (h1 : ∀ p ∈ T, p ∈ l) (h2 : (lh, W.listOf its n) ∈ l) : ∀ p ∈ T, p.1 ≠ lh := fun p hp => by
  obtain ⟨vs, hv⟩ := hT.flds p hp
  exact ne_of_objs N (h1 p hp) h2 fun e => by rw [e] at hv; cases hv
theorem frSet {h₀ h : Heap} {L : Addr} {m m' : Str → Option Value} (ns : List Str) (F : Fr h₀ L h m') (hz : ∀ z, ns.contains z = false → m' z = m z) : Fr h₀ L h (fun z => if ns.contains z = true then m' z else m z) := by
  have e : (fun z => if ns.contains z = true then m' z else m z) = m' := funext fun z => by
    cases hc : ns.contains z with
    | true => exact if_pos rfl
    | false => exact (if_neg Bool.false_ne_true).trans (hz z hc).symm
  rw [e]; exact F
theorem heap1_length (s : VSt) (k y x step a b c : Int) : (heap1 s k y x step a b c).length = s.h.length := by rw [heap1, sup_length, List.length_set]
theorem hpush_length (h : List (List Int)) (x : List Int) : (hpush h x).length = h.length + 1 := by rw [hpush, sdown, sdLoop_length, List.length_append]; rfl
theorem pickSub {d x y z t : Addr × Obj} {TA TB r : Led} : ∀ p ∈ d :: x :: r, p ∈ d :: (TA ++ (TB ++ (x :: y :: z :: t :: r))) := fun p hp => by
  rcases List.mem_cons.mp hp with rfl | hp
  · exact .head _
  · refine .tail _ (List.mem_append_right _ (List.mem_append_right _ ?_))
    rcases List.mem_cons.mp hp with rfl | hp
    · exact .head _
    · exact .tail _ (.tail _ (.tail _ (.tail _ hp)))
theorem consPick {a : Addr × Obj} {l sub : Led} (h : ∀ p ∈ l, p ∈ sub ∨ NoTup p.2) : ∀ p ∈ a :: l, p ∈ a :: sub ∨ NoTup p.2 := fun p hp => (List.mem_cons.mp hp).elim (fun e => .inl (e ▸ .head _)) fun hp => (h p hp).imp (.tail _) id
theorem consSub {a : Addr × Obj} {l sub : Led} (h : ∀ p ∈ sub, p ∈ l) : ∀ p ∈ a :: sub, p ∈ a :: l := fun p hp => (List.mem_cons.mp hp).elim (fun e => e ▸ .head _) fun hp => .tail _ (h p hp)
theorem vaOffN {lh tl bk q : Addr} {TA TB r : Led} {o ot ob o3 : Obj} {x1 : Addr × Obj} (hA : Tab 30 32 4 qI2D TA) (hB : Tab 37 47 4 qD2I TB) (h1 : @LT.lt Nat _ lh q) (l : AllLt q (TA ++ (TB ++ (x1 :: (tl, ot) :: (bk, ob) :: (100, o3) :: r)))) : VaOff lh tl bk (q, o) :=
  have m : ∀ p ∈ x1 :: (tl, ot) :: (bk, ob) :: (100, o3) :: r, @LT.lt Nat _ p.1 q := fun p hp => tb_ltOf l p (List.mem_append_right _ (List.mem_append_right _ hp))
  vaOff_top hA hB (Nat.ne_of_lt h1) (Nat.ne_of_lt (m (tl, ot) (.tail _ (.head _)))) (Nat.ne_of_lt (m (bk, ob) (.tail _ (.tail _ (.head _))))) (allLt_append l).1 (allLt_append (allLt_append l).2).1 (m (100, o3) (.tail _ (.tail _ (.tail _ (.head _)))))
theorem vaOffN' {lh tl bk q : Addr} {TA TB r : Led} {o ot ob o3 o0 : Obj} {x1 : Addr × Obj} (hA : Tab 30 32 4 qI2D TA) (hB : Tab 37 47 4 qD2I TB) (l : AllLt q (TA ++ (TB ++ ((lh, o0) :: x1 :: (tl, ot) :: (bk, ob) :: (100, o3) :: r)))) : VaOff lh tl bk (q, o) :=
  have m : ∀ p ∈ (lh, o0) :: x1 :: (tl, ot) :: (bk, ob) :: (100, o3) :: r, @LT.lt Nat _ p.1 q := fun p hp => tb_ltOf l p (List.mem_append_right _ (List.mem_append_right _ hp))
  vaOff_top hA hB (Nat.ne_of_lt (m (lh, o0) (.head _))) (Nat.ne_of_lt (m (tl, ot) (.tail _ (.tail _ (.head _))))) (Nat.ne_of_lt (m (bk, ob) (.tail _ (.tail _ (.tail _ (.head _)))))) (allLt_append l).1 (allLt_append (allLt_append l).2).1 (m (100, o3) (.tail _ (.tail _ (.tail _ (.tail _ (.head _))))))
theorem hX1of {lh T1 tl bk : Addr} {o1 ot ob o3 : Obj} {TA TB r : Led} (h1 : @LT.lt Nat _ lh T1) (h2 : tl ≠ lh) (h3 : bk ≠ lh) (h4 : ∀ p ∈ TA ++ (TB ++ (100, o3) :: r), p.1 ≠ lh) : ∀ p ∈ (T1, o1) :: (tl, ot) :: (bk, ob) :: (100, o3) :: r, p.1 ≠ lh :=
  List.forall_mem_cons.mpr ⟨Nat.ne_of_gt h1, List.forall_mem_cons.mpr ⟨h2, List.forall_mem_cons.mpr ⟨h3, fun p hp => h4 p (List.mem_append_right _ (List.mem_append_right _ hp))⟩⟩⟩
theorem HItems.weak {d : Addr × Obj} {l : Led} {vs : List Value} {ts : List (List Int)} (h : HItems l vs ts) : HItems (d :: l) vs ts := h.mono fun _ hp => .tail _ hp
theorem whileQ {prog : Program} {w : World} {A : Around} {E : Value → Shared → Prop} {s : Shared} {env : Env} {h₀ : Heap} {L : Addr} {body : List Stmt} {Q : Flow → Shared → Prop} {σ : Type} {test : PySem.Expr} {pos : Pos} {m₀ : Str → Option Value} (Led : σ → List (Addr × Obj)) (ps : σ → List (Str × Value)) (stored : List Str) (P : σ → Prop) (μ : σ → Nat) (c₀ : σ)
    (F : Fr h₀ L s.heap m₀) (N : News h₀ L s.heap (Led c₀)) (G : AllBare s.gens) (hk : ∀ p ∈ ps c₀, m₀ p.1 = some p.2) (hp : P c₀)
    (turn : ∀ (c : σ) (u : Str → Option Value) (s₁ : Shared) (Qp : Flow → Shared → Prop), (∀ s₂, EndG h₀ L s.os Led ps (fun z => stored.contains z = true) m₀ [] (fun c' => P c' ∧ μ c' < μ c) s₂ → Qp .next s₂) → P c → AllBare s₁.gens → s₁.os = s.os → Fr h₀ L s₁.heap (kstB (fun z => if stored.contains z = true then u z else m₀ z) (ps c)) → News h₀ L s₁.heap (Led c) →
      wpAny (model prog w) A (isTrue test env (eval test env)) (fun b s₂ => if b = true then wpAny (model prog w) A (execs body env) Qp E s₂ else Q .next s₂) E s₁)
    (hE : PassesOwn (model prog w) A env E := by passes_own) :
    wpAny (model prog w) A (exec (.While test body [] pos) env) Q E s :=
  whileG Led ps stored P μ c₀ F N G hk hp (fun c u s₁ h1 h2 h3 h4 h5 => turn c u s₁ _ (fun _ h => h) h1 h2 h3 h4 h5) hE
theorem vals_ok : ∀ (w : World) (TA TB news : Led) (ps : Array Value) (ca : Addr) (cvs : List Value) (ce : Nat) (cls : List (List Int)) (d bound : Int) (td tb : Tok) (Z : VSt), Tab 30 32 4 qI2D TA → Tab 37 47 4 qD2I TB → GTab 126 42 ps → (∀ p ∈ news, p.1 ≠ 30) → (∀ p ∈ news, p.1 ≠ 37) → (∀ p ∈ news, p.1 ≠ 100) → (ca, W.listOf cvs.toArray ce) ∈ news → HItems news cvs cls → (∀ t ∈ cls, t.length = 3) → cls.length ≤ 100 → valuesF cls d bound = some Z →
    OkG w 131 [.ref ca, .int d td, .int bound tb] 240 2500 (TA ++ (TB ++ (100, tabObj ps) :: news)) (fun r ne => ∃ T lh tl bk hv he tvs te bo kvs A' B' ps' ext, r = .ref T ∧ ne = (T, tupO [.ref tl, .ref bk] 0) :: (lh, W.listOf hv he) :: (tl, W.listOf (tvs : List Value).toArray te) :: (bk, bo) :: (A' ++ (B' ++ (100, tabObj ps') :: (ext ++ news))) ∧ Tab 30 32 4 qI2D A' ∧ Tab 37 47 4 qD2I B' ∧ GTab 126 42 ps' ∧ IntsAre tvs Z.told ∧ bo.IsDictOf (KI w) kvs ∧ (bk == sysModules) = false ∧ KItems (EItem w (ext ++ news)) kvs Z.book ∧
      (∀ p ∈ ext, p.1 ≠ 30 ∧ p.1 ≠ 37 ∧ p.1 ≠ 100) ∧ (∀ q ∈ [T, lh, tl, bk], q ≠ 30 ∧ q ≠ 37 ∧ q ≠ 100)) := by
  k_with_none
  unfold OkG
  w_top off
  k_fill
  intro w TA TB news ps ca cvs ce cls d bound td tb Z hTA hTB hg h30 h37 h100 hca hcl hc3 hclen hval mean mg mb dp un gd cn cs a ccd cl outer A₀ base h₀ L m s Q E hG Bw F X N Tp hk hd hu hret
  have hcaN : (ca, W.listOf cvs.toArray ce) ∈ TA ++ (TB ++ (100, tabObj ps) :: news) := List.mem_append_right _ (List.mem_append_right _ (.tail _ hca))
  have hclN : HItems (TA ++ (TB ++ (100, tabObj ps) :: news)) cvs cls := hcl.mono fun p hp => List.mem_append_right _ (List.mem_append_right _ (.tail _ hp))
  k_with "exec Assign cons ListComp" =>
    k_here
    rename Fr _ _ _ _ => lF
    k_dflt (refine' compAssign lF rfl ?zq1 rfl ?zq2 rfl ?zq3 rfl rfl ?_ ?zq4; (case zq1 => rfl); (case zq2 => decide); (case zq3 => decide); (case zq4 => (intro _; rfl)))
  k_with "call type:enumerate" =>
    k_here
    rename Fr _ _ _ _ => lF
    rename News _ _ _ _ => lN
    k_dflt (refine' enumComp ?zqh lF lN hcaN hclN hc3 ?zq1 rfl rfl rfl rfl rfl ?_; (case zqh => rfl); (case zq1 => omega))
    intro lh h' tk' hv0 ext0 hH0 F' N' hE0 hlh hlE0
  k_with "call ref" =>
    k_here
    (with_reducible show wpAny _ _ (call (Value.ref 77) _) _ _ _)
    rename News _ _ _ _ => lN
    have hlhN := tb_ltOf hlh
    k_dflt (refine' Ok.use (hfy_ok w _ lh hv0 (heap0 cls) _ (hH0.mono fun p hp => List.mem_append_left _ hp) ?zq1 (by rw [heap0_length]; omega)) ?zqB ?zqF ?zqX lN ?zqT ?zqk ?zqd ?zqu ?_; (case zqB => k_asm); (case zqF => k_asm); (case zqX => k_asm); (case zqT => k_asm); (case zqk => exact rfl); (case zqd => first | exact zA hd rfl | exact zB hd rfl | ktr_room); (case zqu => first | exact zA hu rfl | exact zB hu rfl | ktr_units); (case zq1 => exact fun p hp => (List.mem_append.mp hp).elim (hE0 p) fun hp => Nat.ne_of_lt (hlhN p hp)))
    intro r1 ne1 h1 tk1 hR F1 N1
    obtain ⟨hr1, hv1, he1, hne1, hI1⟩ := hR
    subst hr1
    rw [hne1] at N1
    clear hne1
    (try dsimp only)
    (try k_fold)
  k_with "exec While Compare cons nil" =>
    k_here
    rename Fr _ _ _ _ => lF'
    rename News _ _ _ _ => lN'
    rename Obj.IsDictOf (PySem.intKind _ _) _ [] => hD0
    obtain ⟨bk, hbk⟩ := nameHead lN'
    subst hbk
    obtain ⟨tl, htl⟩ := nameHead (fun p hp => lN' p (List.mem_cons_of_mem _ hp))
    subst htl
    rename AllLt bk (ext0 ++ _) => hb9
    rename AllLt tl (ext0 ++ _) => ht9
    rename (bk == sysModules) = false => hbs
    have hoN : ∀ p ∈ ext0 ++ news, VaOff lh tl bk p := fun p hp => (List.mem_append.mp hp).elim (vaOff_new hTA hTB hlE0 hE0 (allLt_append ht9).1 (allLt_append hb9).1 p) (vaOff_old h30 h37 h100 hlh (allLt_append ht9).2 (allLt_append hb9).2 p)
    have htlh0 : tl ≠ lh := Nat.ne_of_gt (by assumption : @LT.lt Nat _ lh tl)
    with_unfolding_all (refine' whileQ (vaLed news lh tl bk) (fun _ => []) [Str.ofString "top", Str.ofString "value", Str.ofString "k", Str.ofString "y", Str.ofString "x", Str.ofString "step", Str.ofString "first", Str.ofString "a", Str.ofString "b", Str.ofString "c", Str.ofString "further", Str.ofString "behind", Str.ofString "q", Str.ofString "r", Str.ofString "level", Str.ofString "g", Str.ofString "alone", Str.ofString "entry"] (VaInv w news lh tl bk cls d bound Z) (fun c => c.n) ⟨hv1, he1, [], 0, [], _, TA, TB, ps, ext0, ⟨hifyL ((heap0 cls).length / 2) (heap0 cls), [], []⟩, 400⟩ lF' (permV lN') ?zqG (List.forall_mem_nil _) ⟨hTA, hTB, hg, ?zqH, .nil, hD0, .nil, hoN, hval⟩ ?_; (case zqG => assumption); (case zqH => exact hI1.filter fun p hp => (List.mem_append.mp hp).elim (fun h => .inl (List.mem_append_left _ h)) fun h => (core_or (ext := []) hTA hTB p h).imp (fun h => List.mem_append_right _ h) id))
    intro c u s1 Qp1 hQ1 hInv hG1 hO1 fF fN
    dsimp only [kstB] at fF
    dsimp only [vaLed] at fN
    obtain ⟨iA, iB, iG, iH, iT, iD, iK, iO, iV⟩ := hInv
    obtain ⟨cn', value, k, y, x, step, first, tls, hcn, hch, hV⟩ := valF_some iV
    have iH1 := iH
    rw [hch] at iH1
    obtain ⟨top, tus, tk0, hv0, htm, hti⟩ := iH1.head
    obtain ⟨e1, e2, e3, e4, e5, e6, rfl⟩ := ints6 hti
    have htm2 : (top, tupO _ tk0) ∈ c.TA ++ (c.TB ++ (100, tabObj c.ps) :: (c.ext ++ news)) := List.mem_append_right _ (List.mem_append_right _ (.tail _ htm))
    have hca2 : (ca, W.listOf cvs.toArray ce) ∈ c.TA ++ (c.TB ++ (100, tabObj c.ps) :: (c.ext ++ news)) := List.mem_append_right _ (List.mem_append_right _ (.tail _ (List.mem_append_right _ hca)))
    have hcore := vaCore fN iA iB iD iO htlh0
    obtain ⟨htlh, hbklh, hbktl, hRlh, hRtl, hRbk⟩ := hcore
    rcases hV with ⟨hle, ka, kb, kc, hck, hok, hV⟩ | ⟨hgt, hZ⟩
    obtain ⟨kad, kus, kk0, hck2, hkm, hki⟩ := hcl.at' hck
    obtain ⟨_, _, _, f1, f2, f3, hkl, rfl⟩ := ints3 hki rfl
    obtain ⟨rfl, rfl, rfl⟩ : ka = _ ∧ kb = _ ∧ kc = _ := by simpa using hkl
    have hkm2 : (kad, tupO _ kk0) ∈ c.TA ++ (c.TB ++ (100, tabObj c.ps) :: (c.ext ++ news)) := List.mem_append_right _ (List.mem_append_right _ (.tail _ (List.mem_append_right _ hkm)))
    obtain ⟨b1, b2, b3, b4, b5, b6, b7, b8, b9, b10, b11, b12, b13, b14, b16, b15⟩ := valOk_iff hok
  k_with "subscriptTail" =>
    k_here
    (with_reducible show wpAny _ _ (subscriptTail _ _ (Value.ref lh) (Value.int 0 _)) _ _ _)
    rename News _ _ _ _ => lN
    k_dflt (refine' lget lN ?zqm (by decide) (by decide) hv0 ?_; (case zqm => repeat (first | exact List.Mem.head _ | refine List.Mem.tail _ ?_)))
  k_with "subscriptTail" =>
    k_here
    (with_reducible show wpAny _ _ (subscriptTail _ _ (Value.ref top) (Value.int 0 _)) _ _ _)
    rename News _ _ _ _ => lN
    k_dflt (refine' item_tupleT ⟨_, (lN (top, tupO [.int value e1, .int k e2, .int y e3, .int x e4, .int step e5, .int first e6] tk0) ?zqm).1, rfl, _, rfl⟩ (by decide) (by decide) rfl rfl ?_; (case zqm => repeat (first | exact htm2 | refine List.Mem.tail _ ?_)))
  k_with "subscriptTail" =>
    k_here
    (with_reducible show wpAny _ _ (subscriptTail _ _ (Value.ref ca) (Value.int k _)) _ _ _)
    rename News _ _ _ _ => lN
    k_dflt (refine' lget lN ?zqm b1 ?zqk hck2 ?_; (case zqm => repeat (first | exact hca2 | refine List.Mem.tail _ ?_)); (case zqk => omega))
  k_with "assign Tuple" =>
    k_here
    (with_reducible show wpAny _ _ (assign _ _ (Value.ref top)) _ _ _)
    rename Fr _ _ _ _ => lF
    rename News _ _ _ _ => lN
    k_dflt (refine' unpackN_ lF lN ⟨_, (lN (top, tupO [.int value e1, .int k e2, .int y e3, .int x e4, .int step e5, .int first e6] tk0) ?zqm).1, rfl, _, rfl⟩ ?zq1 ?zq2 ?zq3 ?_; (case zqm => repeat (first | exact htm2 | refine List.Mem.tail _ ?_)); (case zq1 => exact rfl); (case zq2 => exact rfl); (case zq3 => exact rfl))
    intro h' F' N'
    (try k_sweep)
  k_with "assign Tuple" =>
    k_here
    (with_reducible show wpAny _ _ (assign _ _ (Value.ref kad)) _ _ _)
    rename Fr _ _ _ _ => lF
    rename News _ _ _ _ => lN
    k_dflt (refine' unpackN_ lF lN ⟨_, (lN (kad, tupO [.int ka f1, .int kb f2, .int kc f3] kk0) ?zqm).1, rfl, _, rfl⟩ ?zq1 ?zq2 ?zq3 ?_; (case zqm => repeat (first | exact hkm2 | refine List.Mem.tail _ ?_)); (case zq1 => exact rfl); (case zq2 => exact rfl); (case zq3 => exact rfl))
    intro h' F' N'
    (try k_sweep)
  k_with "newTuple" =>
    k_here
    rename Fr _ _ _ _ => lF
    rename News _ _ _ _ => lN
    k_dflt (refine' kup_newTuple lF lN ?_ ?zqz; (case zqz => kmk_size))
    intro D' h' F' N' l1
    (try k_lt l1)
    (try k_sweep)
  k_with "call ref" =>
    k_here
    (with_reducible show wpAny _ _ (call (Value.ref 70) _) _ _ _)
    rename News _ _ _ _ => lN
    obtain ⟨T1, hT1⟩ := nameHead lN
    subst hT1
    rename @LT.lt Nat _ lh T1 => lT1
    rename @LT.lt Nat _ tl T1 => lT2
    rename @LT.lt Nat _ bk T1 => lT3
    rename AllLt T1 _ => lTR
    k_dflt (refine' Ok.use (hrep_ok w _ lh c.hv c.V.h c.he (.ref T1) [ka * (x + step) * (x + step) + kb * (x + step) * y + kc * y * y, k, y, x + step, step, 0] (iH.mono fun p hp => .tail _ (.tail _ (.tail _ (List.mem_append_right _ (List.mem_append_right _ (.tail _ hp)))))) ⟨T1, [_, _, _, _, _, _], 0, rfl, .head _, .cons _ _ (.cons _ _ (.cons _ _ (.cons _ _ (.cons _ _ (.cons _ _ .nil)))))⟩ ?zq1 ?zq2 ?zq3) ?zqB ?zqF ?zqX (rot2 lN) ?zqT ?zqk ?zqd ?zqu ?_; (case zqB => k_asm); (case zqF => k_asm); (case zqX => k_asm); (case zqT => k_asm); (case zqk => exact rfl); (case zqd => first | exact zA hd rfl | exact zB hd rfl | ktr_room); (case zqu => first | exact zA hu rfl | exact zB hu rfl | ktr_units); (case zq1 => exact List.forall_mem_cons.mpr ⟨Nat.ne_of_gt lT1, List.forall_mem_cons.mpr ⟨htlh, List.forall_mem_cons.mpr ⟨hbklh, hRlh⟩⟩⟩); (case zq2 => (rw [hch]; exact Nat.zero_lt_succ _)); (case zq3 => omega))
    intro r1 ne1 h1 tk1 hR F1 N1
    obtain ⟨hr1, hv1, he1, hne1, hI1⟩ := hR
    rw [hv0] at hr1
    obtain rfl := Option.some.inj hr1
    rw [hne1] at N1
    clear hne1
    k_dflt (
      have hI1' : HItems ((T1, tupO [.int (ka * (x + step) * (x + step) + kb * (x + step) * y + kc * y * y) _, .int k _, .int y _, .int (x + step) _, .int step _, .int 0 _] 0) :: (c.ext ++ news)) hv1 (heap1 c.V k y x step ka kb kc) := hI1.filter fun p hp => by
        rcases List.mem_cons.mp hp with rfl | hp
        · exact .inl (.head _)
        · rcases List.mem_cons.mp hp with rfl | hp
          · exact .inr noTup_list
          · rcases List.mem_cons.mp hp with rfl | hp
            · exact .inr (noTup_dict iD)
            · exact (core_or iA iB p hp).imp (.tail _) id
      )
    have l30 : ∃ o, (30, o) ∈ c.TA := iA.at
    have l37 : ∃ o, (37, o) ∈ c.TB := iB.at
    (try dsimp only)
    (try k_fold)
  k_with "compareOp NotEq ref ref" =>
    k_here
    rename News _ _ _ _ => lN
    k_dflt (refine' tup_ne_self (lN (top, tupO [.int value e1, .int k e2, .int y e3, .int x e4, .int step e5, .int first e6] tk0) ?zqm).1 hti ?zqu ?_; (case zqm => repeat (first | exact htm2 | refine List.Mem.tail _ ?_)); (case zqu => first | exact zA hu rfl | exact zB hu rfl | ktr_units))
  k_with "exec If" =>
    k_here
    (fail_if_success (have hx9 := hVJ))
    (with_reducible show wpAny _ _ (exec (Stmt.If (PySem.Expr.Compare (PySem.Expr.Name (Str.ofString "first") _) _ _ _) _ _ _) _) _ _ _)
    rename Fr _ _ _ _ => lF
    (try dsimp only at lF)
    k_dflt (refine' vaIf (news := news) (lh := lh) (tl := tl) (bk := bk) (c := c) (if first = 1 then heap3 (heap1 c.V k y x step ka kb kc) k y ka kb d else heap1 c.V k y x step ka kb kc) lF ?_ ?_)
    rotate_left
    intro sJ hJ
    unfold VaJoin0 at hJ
    obtain ⟨hJh, tkJ, uJ, hv2, he2, TA2, TB2, ext2, hJe, FJ, NJ, hA2, hB2, hI2, hO2⟩ := hJ
    subst hJe
    dsimp only
    rotate_right
    intro QVJ hVJ
  k_with "call ref" =>
    k_here
    (with_reducible show wpAny _ _ (call (Value.ref 112) _) _ _ _)
    rename News _ _ _ _ => lN
    k_dflt (refine' Ok.use (measure_ok w _ _ _ _ _) ?zqB ?zqF ?zqX lN ?zqT ?zqk ?zqd ?zqu ?_; (case zqB => k_asm); (case zqF => k_asm); (case zqX => k_asm); (case zqT => k_asm); (case zqk => exact rfl); (case zqd => first | exact zA hd rfl | exact zB hd rfl | ktr_room); (case zqu => first | exact zA hu rfl | exact zB hu rfl | ktr_units))
    intro r1 ne1 h1 tk1 hR F1 N1
    obtain ⟨hne1, tr1, hr1⟩ := hR
    subst hr1
    rw [hne1] at N1
    clear hne1
    have hgb := gcd_sm b9 b10 b15
    (try dsimp only)
    generalize hgx : (Int.gcd x y : Int) = g at *
    obtain ⟨hg1, hg2, hg3, hg4, hg5⟩ := hgb
    (try k_fold)
  k_with "eval IfExp" =>
    k_here
    goal_lacks Mine.AlJoin
    k_dflt (refine' alIf g ?_ ?_)
    rotate_left
    intro tal tkal
    (try dsimp only)
    rotate_right
  k_with "eval Dict cons cons" =>
    k_here
    rename Fr _ _ _ _ => lF
    rename News _ _ _ _ => lN
    k_dflt (refine' kdn_eval (knd := PySem.intKind _ _) lF lN ?zqb rfl rfl (List.cons_ne_nil _ _) ?zqn ?_; (case zqb => exact Top.nolimit (by k_asm)); (case zqn => decide))
    intro dD hD' oD FD ND lD9 loD hdD
    have lD8 := allLt_of lD9
    have lDlh : @LT.lt Nat _ lh dD := lD9 (lh, _) (.head _)
    have lDtl : @LT.lt Nat _ tl dD := lD9 (tl, _) (.tail _ (.head _))
    have lDbk : @LT.lt Nat _ bk dD := lD9 (bk, _) (.tail _ (.tail _ (.head _)))
  k_with "KdnMade" =>
    rename Fr _ _ _ _ => lF
    rename News _ _ _ _ => lN
    obtain ⟨T4, hT4⟩ := nameHead lN
    subst hT4
    rename @LT.lt Nat _ dD T4 => lT4
    k_dflt (refine' kdn_made_int lF lN (.tail (Nat.ne_of_gt lT4) (.head fun p hp => Nat.ne_of_lt (lD9 p hp))) hdD rfl (pairs_one _ _ _) ?_)
    intro hE' oD2 FE NE hdD2
    (try dsimp only)
  k_with "getMethod ref" =>
    k_here
    (with_reducible show wpAny _ _ (getMethod (Value.ref bk) _ _) _ _ _)
    rename News _ _ _ _ => lN
    k_dflt (refine' kdg_method (knd := PySem.intKind _ _) lN ?zqm iD ?_; (case zqm => repeat (first | exact List.Mem.head _ | refine List.Mem.tail _ ?_)))
  k_with "call builtin:dict.get" =>
    k_here
    rename News _ _ _ _ => lN
    k_dflt (refine' kdg_get2 (knd := PySem.intKind _ _) lN ?zqm iD hbs (intKind_is _ _ _ _) (valueAt c.kvs value) rfl ?_; (case zqm => repeat (first | exact List.Mem.head _ | refine List.Mem.tail _ ?_)))
  k_with "call ref" =>
    k_here
    (with_reducible show wpAny _ _ (call (Value.ref 98) _) _ _ _)
    rename News _ _ _ _ => lN
    subst hgx
    obtain ⟨T6, hT6⟩ := nameHead lN
    subst hT6
    obtain ⟨d6, hd6⟩ := nameHead (fun p hp => lN p (List.mem_cons_of_mem _ hp))
    subst hd6
    obtain ⟨T5, hT5⟩ := nameHead (fun p hp => lN p (List.mem_cons_of_mem _ (List.mem_cons_of_mem _ hp)))
    subst hT5
    rename AllLt T6 (TA2 ++ _) => l6
    rename AllLt d6 (TA2 ++ _) => l6d
    rename AllLt T5 (TA2 ++ _) => l5
    rename AllLt T4 (TA2 ++ _) => l4
    have l3 := (allLt_append (l := [_, _, _]) lD8).2
    have N2 : News _ _ _ ((lh, W.listOf hv2.toArray he2) :: (tl, W.listOf c.tv.toArray c.te) :: (bk, c.bo) :: (TA2 ++ (TB2 ++ (100, tabObj c.ps) :: (ext2 ++ (c.ext ++ news))))) := fun p hp => lN p (.tail _ (.tail _ (.tail _ (.tail _ (.tail _ hp)))))
    have hc2 := vaCore N2 hA2 hB2 iD (fun p hp => (List.mem_append.mp hp).elim (hO2 p) (iO p)) htlh
    have k100 : ((100, tabObj c.ps) : Addr × Obj) ∈ TA2 ++ (TB2 ++ (100, tabObj c.ps) :: (ext2 ++ (c.ext ++ news))) := List.mem_append_right _ (List.mem_append_right _ (.head _))
    have hsubE : ∀ p ∈ c.ext ++ news, p ∈ ext2 ++ (c.ext ++ news) := fun p hp => List.mem_append_right _ hp
    k_dflt (refine' afsCall (k := k) ((gget c.V.book value).getD ⟨0, 0, 0, 0, []⟩) (ent0 x y value k) (if (Int.gcd x y : Int) = 1 then 1 else 0) 1 lN iG ?zq2 ?zq3 ?zq4 rfl ?zq5 ?zqG ?zqB ?zqF ?zqX ?zqT ?zqk ?zqd ?zqu ?_; (case zqG => assumption); (case zqB => k_asm); (case zqF => k_asm); (case zqX => k_asm); (case zqT => k_asm); (case zqk => exact rfl); (case zqd => first | exact zA hd rfl | exact zB hd rfl | ktr_room); (case zqu => first | exact zA hu rfl | exact zB hu rfl | ktr_units))
    (case zq2 => exact List.forall_mem_cons.mpr ⟨(hRlh _ (List.mem_append_right _ (List.mem_append_right _ (.head _)))).symm, List.forall_mem_cons.mpr ⟨(hRtl _ (List.mem_append_right _ (List.mem_append_right _ (.head _)))).symm, List.forall_mem_cons.mpr ⟨(hRbk _ (List.mem_append_right _ (List.mem_append_right _ (.head _)))).symm, fun p hp => (List.mem_append.mp hp).elim (hA2.off100 (by decide) iG N2 (fun q hq => .tail _ (.tail _ (.tail _ (List.mem_append_left _ hq)))) (.tail _ (.tail _ (.tail _ k100))) p) fun hp => (List.mem_append.mp hp).elim (hB2.off100 (by decide) iG N2 (fun q hq => .tail _ (.tail _ (.tail _ (List.mem_append_right _ (List.mem_append_left _ hq))))) (.tail _ (.tail _ (.tail _ k100))) p) fun hp => (List.forall_mem_cons.mpr ⟨Nat.ne_of_gt (tb_ltOf l6 _ k100), List.forall_mem_cons.mpr ⟨Nat.ne_of_gt (tb_ltOf l6d _ k100), List.forall_mem_cons.mpr ⟨Nat.ne_of_gt (tb_ltOf l5 _ k100), List.forall_mem_cons.mpr ⟨Nat.ne_of_gt (tb_ltOf l4 _ k100), List.forall_mem_cons.mpr ⟨Nat.ne_of_gt (tb_ltOf l3 _ k100), fun q hq => (List.mem_append.mp hq).elim (fun h => (hO2 q h).2.2.2.2.2) fun h => (iO q h).2.2.2.2.2⟩⟩⟩⟩⟩ : ∀ q ∈ ((T6, _) :: (d6, _) :: (T5, _) :: (T4, _) :: (dD, oD2) :: (ext2 ++ (c.ext ++ news)) : Led), q.1 ≠ 100) p hp⟩⟩⟩)
    (case zq3 => exact ent_old (iK.mono fun v t h => h.mono fun p hp => .tail _ (.tail _ (.tail _ (.tail _ (.tail _ (hsubE p hp)))))) ⟨T6, d6, _, [], _, _, _, _, rfl, .head _, .tail _ (.head _), by assumption, by assumption, .nil, List.forall_mem_nil _⟩)
    (case zq4 => exact ⟨T5, dD, oD2, _, _, _, _, _, rfl, .tail _ (.tail _ (.head _)), .tail _ (.tail _ (.tail _ (.tail _ (.head _)))), loD, hdD2, .cons ⟨T4, [_, _], 0, rfl, .tail _ (.tail _ (.tail _ (.head _))), .cons _ _ (.cons _ _ .nil)⟩ .nil, List.forall_mem_cons.mpr ⟨rfl, List.forall_mem_nil _⟩⟩)
    (case zq5 => omega)
    intro r9 s9 ps9 ext9 G9 O9 F9 N9 hg9 hx9 hE9
    (try dsimp only)
    (try k_fold)
  k_with "setItem ref int" =>
    k_here
    (with_reducible show wpAny _ _ (setItem (Value.ref bk) _ _) _ _ _)
    rename Fr _ _ _ _ => lF
    rename News _ _ _ _ => lN
    have kl9 := iK.length
    k_dflt (refine' dset lF (permR lN) ?zq1 iD ?zq2 ?_; (case zq2 => omega); (case zq1 => exact List.forall_mem_cons.mpr ⟨hbklh.symm, List.forall_mem_cons.mpr ⟨hbktl.symm, offX (t := (100, tabObj c.ps)) rfl hc2.2.2.2.2.2 (fun y hy => tb_ltOf (hx9 y hy) (bk, c.bo) (.tail _ (.tail _ (.tail _ (.head _))))) (by assumption) (by assumption) (by assumption) (by assumption) (by assumption)⟩⟩))
    intro h' o' F' N' hd'
    (try dsimp only)
  k_with "call builtin:list.append" =>
    k_here
    (with_reducible show wpAny _ _ (call _ (Value.ref tl :: _)) _ _ _)
    rename Fr _ _ _ _ => lF
    rename News _ _ _ _ => lN
    have tl9 := iT.length
    k_dflt (refine' lapp lF (rot3 lN) ?zq1 ?zq2 ?_; (case zq2 => omega); (case zq1 => exact List.forall_mem_cons.mpr ⟨hbktl, List.forall_mem_cons.mpr ⟨htlh.symm, offX (t := (100, tabObj c.ps)) rfl hc2.2.2.2.2.1 (fun y hy => tb_ltOf (hx9 y hy) (tl, W.listOf c.tv.toArray c.te) (.tail _ (.tail _ (.head _)))) (by assumption) (by assumption) (by assumption) (by assumption) (by assumption)⟩⟩))
    intro h' F' N'
    (try dsimp only)
  k_with "call ref" =>
    k_here
    (with_reducible show wpAny _ _ (call (Value.ref 56) _) _ _ _)
    rename News _ _ _ _ => lN
    have hby := mul_sm b4 b9
    obtain ⟨oA, hoA⟩ := iA.at
    obtain ⟨oB, hoB⟩ := iB.at
    have kA : ((30, oA) : Addr × Obj) ∈ c.TA ++ (c.TB ++ (100, tabObj c.ps) :: (c.ext ++ news)) := List.mem_append_left _ hoA
    have kB : ((37, oB) : Addr × Obj) ∈ c.TA ++ (c.TB ++ (100, tabObj c.ps) :: (c.ext ++ news)) := List.mem_append_right _ (List.mem_append_left _ hoB)
    k_dflt (refine' idivCall lN ?zq1 ?zq2 ?zq3 ?zq4 iA iB ?zq5 ?zq6 ?zqB ?zqF ?zqX ?zqT ?zqk ?zqd ?zqu ?_; (case zqB => k_asm); (case zqF => k_asm); (case zqX => k_asm); (case zqT => k_asm); (case zqk => exact rfl); (case zqd => first | exact zA hd rfl | exact zB hd rfl | ktr_room); (case zqu => first | exact zA hu rfl | exact zB hu rfl | ktr_units); (case zq1 => omega); (case zq2 => omega); (case zq3 => omega); (case zq4 => omega); (case zq5 => exact List.forall_mem_cons.mpr ⟨(hRlh _ kA).symm, List.forall_mem_cons.mpr ⟨Nat.ne_of_gt (tb_ltOf lTR _ kA), List.forall_mem_cons.mpr ⟨(hRtl _ kA).symm, List.forall_mem_cons.mpr ⟨(hRbk _ kA).symm, List.forall_mem_cons.mpr ⟨(by decide : (100 : Nat) ≠ 30), fun p hp => (iO p hp).2.2.2.1⟩⟩⟩⟩⟩); (case zq6 => exact List.forall_mem_cons.mpr ⟨(hRlh _ kB).symm, List.forall_mem_cons.mpr ⟨Nat.ne_of_gt (tb_ltOf lTR _ kB), List.forall_mem_cons.mpr ⟨(hRtl _ kB).symm, List.forall_mem_cons.mpr ⟨(hRbk _ kB).symm, List.forall_mem_cons.mpr ⟨(by decide : (100 : Nat) ≠ 37), fun p hp => (iO p hp).2.2.2.2.1⟩⟩⟩⟩⟩))
    intro D2 tq1 tq2 TA1 TB1 hI tkI FI NI hA1 hB1 lD2
    (try dsimp only)
    (try k_fold)
  k_with "assign Tuple" =>
    k_here
    (with_reducible show wpAny _ _ (assign _ _ (Value.ref D2)) _ _ _)
    rename Fr _ _ _ _ => lF
    rename News _ _ _ _ => lN
    k_dflt (refine' unpackN_ lF lN ⟨_, (lN _ (List.Mem.head _)).1, rfl, _, rfl⟩ ?zq1 ?zq2 ?zq3 ?_; (case zq1 => exact rfl); (case zq2 => exact rfl); (case zq3 => exact rfl))
    intro h' F' N'
    (try k_sweep)
  k_with "call ref" =>
    k_here
    (with_reducible show wpAny _ _ (call (Value.ref 63) [Value.ref lh, Value.ref _]) _ _ _)
    rename Fr _ _ _ _ => lF
    rename News _ _ _ ((_, _) :: (D2, _) :: _) => lN
    (try dsimp only at lF)
    obtain ⟨T2, hT2⟩ := nameHead lN
    subst hT2
    rename AllLt T2 _ => lT2R
    have lT2D : @LT.lt Nat _ D2 T2 := by assumption
    k_dflt (have lhT2 := tb_ltOf lT2R (lh, W.listOf hv1.toArray he1) (List.mem_append_right _ (List.mem_append_right _ (.head _))))
    k_dflt (have lhD2 := tb_ltOf lD2 (lh, W.listOf hv1.toArray he1) (List.mem_append_right _ (List.mem_append_right _ (.head _))))
    k_dflt (have oA1 := hA1.offL (lh := lh) (its := hv1.toArray) (n := he1) lN (fun p hp => .tail _ (.tail _ (List.mem_append_left _ hp))) (.tail _ (.tail _ (List.mem_append_right _ (List.mem_append_right _ (.head _))))))
    k_dflt (have oB1 := hB1.offL (lh := lh) (its := hv1.toArray) (n := he1) lN (fun p hp => .tail _ (.tail _ (List.mem_append_right _ (List.mem_append_left _ hp)))) (.tail _ (.tail _ (List.mem_append_right _ (List.mem_append_right _ (.head _))))))
    k_dflt (refine' hpushG (permP lN) hI1'.weak (.cons _ _ (.cons _ _ (.cons _ _ (.cons _ _ (.cons _ _ (.cons _ _ .nil)))))) ?zq1 ?zq2 (pickD hA1 hB1 noTup_list (noTup_dict iD) (noTup_fields rfl)) lhT2 (offD oA1 oB1 (Nat.ne_of_gt lhD2) ?zq3) ?zqB ?zqF ?zqX ?zqT ?zqk ?zqd ?zqu ?_; (case zqB => k_asm); (case zqF => k_asm); (case zqX => k_asm); (case zqT => k_asm); (case zqk => exact rfl); (case zqd => first | exact zA hd rfl | exact zB hd rfl | ktr_room); (case zqu => first | exact zA hu rfl | exact zB hu rfl | ktr_units))
    (case zq1 => (rw [heap1_length]; omega))
    (case zq2 => exact pickSub)
    (case zq3 => exact hX1of lT1 htlh hbklh hRlh)
    intro hv3 he3 h3 tk3 F3 N3 hI3
    (try dsimp only)
    (try k_fold)
  k_with "call ref" =>
    k_here
    (with_reducible show wpAny _ _ (call (Value.ref 63) [Value.ref lh, Value.ref _]) _ _ _)
    have hI3b := hI3
    rename Fr _ _ _ _ => lF
    rename News _ _ _ _ => lN
    (try dsimp only at lF)
    obtain ⟨T3, hT3⟩ := nameHead lN
    subst hT3
    rename AllLt T3 _ => lT3R
    have lhT3 : @LT.lt Nat _ lh T3 := by assumption
    k_dflt (refine' hpushG (rot2 lN) hI3 (.cons _ _ (.cons _ _ (.cons _ _ (.cons _ _ (.cons _ _ (.cons _ _ .nil)))))) ?zq1 ?zq2 (consPick (pickD hA1 hB1 noTup_list (noTup_dict iD) (noTup_fields rfl))) lhT3 (List.forall_mem_cons.mpr ⟨Nat.ne_of_gt lhT2, offD oA1 oB1 (Nat.ne_of_gt lhD2) (hX1of lT1 htlh hbklh hRlh)⟩) ?zqB ?zqF ?zqX ?zqT ?zqk ?zqd ?zqu ?_; (case zqB => k_asm); (case zqF => k_asm); (case zqX => k_asm); (case zqT => k_asm); (case zqk => exact rfl); (case zqd => first | exact zA hd rfl | exact zB hd rfl | ktr_room); (case zqu => first | exact zA hu rfl | exact zB hu rfl | ktr_units))
    (case zq1 => (rw [hpush_length, heap1_length]; omega))
    (case zq2 => exact consSub pickSub)
    intro hv5 he5 h5 tk5 F5 N5 hI5
    (try dsimp only)
    (try k_fold)
  refine wpAny_call ?_
  k_dflt ktr_enter
  k_steps
  · rename Fr _ _ _ _ => fF
    rename News _ _ _ _ => fN
    rename first = 1 => hf1
    refine hVJ _ ⟨_, _, _, _, _, _, _, _, rfl, frSet [Str.ofString "q", Str.ofString "r", Str.ofString "level"] fF ?_, permF fN, hA1, hB1, ?_, List.forall_mem_cons.mpr ⟨vaOffN hA1 hB1 lhT3 lT3R, List.forall_mem_cons.mpr ⟨vaOffN' hA1 hB1 lT2R, List.forall_mem_cons.mpr ⟨vaOffN' hA1 hB1 lD2, List.forall_mem_cons.mpr ⟨vaOff_all iA iB lT1 lT2 lT3 lTR, List.forall_mem_nil _⟩⟩⟩⟩⟩
    · intro z hz
      simp at hz
      simp [hz]
    · rw [if_pos hf1]
      exact hI5
  · rename Fr _ _ _ _ => fF
    rename News _ _ _ _ => fN
    rename ¬ first = 1 => hf1
    refine hVJ _ ⟨_, _, _, _, _, _, _, _, rfl, frSet [Str.ofString "q", Str.ofString "r", Str.ofString "level"] fF ?_, permE fN, iA, iB, ?_, List.forall_mem_cons.mpr ⟨vaOff_all iA iB lT1 lT2 lT3 lTR, List.forall_mem_nil _⟩⟩
    · intro z _
      rfl
    · rw [if_neg hf1]
      exact hI1'
  · exact ⟨_, _, by rw [if_pos (by assumption)], rfl⟩
  · exact ⟨_, _, by rw [if_neg (by assumption)], rfl⟩
  · refine hQ1 _ ?_
    rename Fr _ _ _ _ => fF
    rename News _ _ _ _ => fN
    have e9 := hE9
    have kx : ∀ y ∈ ext9, VaOff lh tl bk y := fun y hy => vaOff_all (o := y.2) hA2 hB2 (tb_ltOf (hx9 y hy) (lh, W.listOf hv2.toArray he2) (.tail _ (.head _))) (tb_ltOf (hx9 y hy) (tl, W.listOf c.tv.toArray c.te) (.tail _ (.tail _ (.head _)))) (tb_ltOf (hx9 y hy) (bk, c.bo) (.tail _ (.tail _ (.tail _ (.head _))))) (ps := c.ps) (r := []) (allLt_of fun p hp => (List.mem_append.mp hp).elim (fun h => tb_ltOf (hx9 y hy) p (.tail _ (.tail _ (.tail _ (.tail _ (List.mem_append_left _ h)))))) fun h => (List.mem_append.mp h).elim (fun h => tb_ltOf (hx9 y hy) p (.tail _ (.tail _ (.tail _ (.tail _ (List.mem_append_right _ (List.mem_append_left _ h))))))) fun h => List.mem_singleton.mp h ▸ tb_ltOf (hx9 y hy) (100, tabObj c.ps) (.head _))
    refine vaEnd (c := c) (V' := valNext c.V value k y x step first ka kb kc d) (cn' := cn') fN fF G9 (O9.trans hO1) ?_ hA2 hB2 hg9 hI2 (ints_snoc iT) hd' (KItems.put (iK.mono fun v t h => h.mono fun p hp => List.mem_append_right _ (.tail _ (.tail _ (.tail _ (.tail _ (.tail _ (List.mem_append_right _ hp))))))) hE9) kx (vaOff_all hA2 hB2 (by assumption) (by assumption) (by assumption) l6) (vaOff_all hA2 hB2 (by assumption) (by assumption) (by assumption) l6d) (vaOff_all hA2 hB2 (by assumption) (by assumption) (by assumption) l5) (vaOff_all hA2 hB2 (by assumption) (by assumption) (by assumption) l4) (vaOff_all hA2 hB2 (by assumption) (by assumption) (by assumption) l3) hO2 iO hV hcn
    intro z hz
    simp at hz
    simp [kstB, hz]
  · subst hZ
    rename News h₀ L _ _ => kN9
    rename AllLt D' (c.TA ++ _) => lD9
    have k100 : ((100, tabObj c.ps) : Addr × Obj) ∈ c.TA ++ (c.TB ++ (100, tabObj c.ps) :: (c.ext ++ news)) := List.mem_append_right _ (List.mem_append_right _ (.head _))
    obtain ⟨oA, hoA⟩ := iA.at
    obtain ⟨oB, hoB⟩ := iB.at
    have kA : ((30, oA) : Addr × Obj) ∈ c.TA ++ (c.TB ++ (100, tabObj c.ps) :: (c.ext ++ news)) := List.mem_append_left _ hoA
    have kB : ((37, oB) : Addr × Obj) ∈ c.TA ++ (c.TB ++ (100, tabObj c.ps) :: (c.ext ++ news)) := List.mem_append_right _ (List.mem_append_left _ hoB)
    refine hret _ _ _ ⟨D', lh, tl, bk, _, _, c.tv, _, _, _, c.TA, c.TB, c.ps, c.ext, rfl, rfl, iA, iB, iG, iT, iD, hbs, iK, fun p hp => (iO p (List.mem_append_left _ hp)).2.2.2, ?_⟩ hG1 hO1 (by assumption) kN9
    exact List.forall_mem_cons.mpr ⟨⟨Nat.ne_of_gt (tb_ltOf lD9 _ kA), Nat.ne_of_gt (tb_ltOf lD9 _ kB), Nat.ne_of_gt (tb_ltOf lD9 _ k100)⟩, List.forall_mem_cons.mpr ⟨⟨(hRlh _ kA).symm, (hRlh _ kB).symm, (hRlh _ k100).symm⟩, List.forall_mem_cons.mpr ⟨⟨(hRtl _ kA).symm, (hRtl _ kB).symm, (hRtl _ k100).symm⟩, List.forall_mem_cons.mpr ⟨⟨(hRbk _ kA).symm, (hRbk _ kB).symm, (hRbk _ k100).symm⟩, List.forall_mem_nil _⟩⟩⟩⟩
end
-- RangeD
section
open PySem PySem.W PyProof.Rows PySem.Calls
/-- the iterator of a range -/
noncomputable def RgIt (it : Obj) : Prop := ∃ x y z, it = { cls := .type "range_iterator", data := .fields #[rawInt x, rawInt y, rawInt z] }
section
variable {prog : Program} {w : World} {A : Around} {E : Value → Shared → Prop} {s : Shared} {env : Env} {h₀ : Heap} {x : Str} {body : List Stmt} {Q : Flow → Shared → Prop}
theorem forRangeD {σ : Type} {r : Addr} {a₀ b₀ : Int} {t₀ u₀ v₀ : Tok} {n : Nat} {m₀ : Str → Option Value} (Led : σ → List (Addr × Obj)) (ps : σ → List (Str × Value)) (stored : List Str) (Inv : Nat → σ → Prop) (c₀ : σ)
    (hh : A.handled = none) (hr : IsRange s.heap r a₀ b₀ 1 t₀ u₀ v₀) (hsmall : Builtin.Range.small a₀ b₀ 1 = true) (hn : Builtin.Range.rangeSize a₀ b₀ 1 = (n : Int))
    (F : Fr h₀ env.locals s.heap m₀) (N : News h₀ env.locals s.heap (Led c₀)) (hk : ∀ p ∈ ps c₀, m₀ p.1 = some p.2) (h0 : Inv 0 c₀)
    (turn : ∀ (i : Nat) (tok : Tok) (c : σ) (I : Addr) (it : Obj) (u : Str → Option Value) (h : Heap) (tk : Nat), i < n → Inv i c → RgIt it → (∀ p ∈ Led c₀, @LT.lt Nat _ p.1 I) → (∀ p ∈ Led c, p.1 ≠ I) → Fr h₀ env.locals h (fun y => if y = x then some (.int (a₀ + (i : Int)) tok) else kstB (fun z => if stored.contains z then u z else m₀ z) (ps c) y) → News h₀ env.locals h ((I, it) :: Led c) →
      wpAny (model prog w) A (execs body env) (ForPost h₀ env.locals { s with heap := h, toks := tk } Led ps x stored m₀ I it (Inv (i + 1)) Q) E { s with heap := h, toks := tk })
    (done : ∀ (c : σ) (u : Str → Option Value) (h : Heap) (tk : Nat), Inv n c → Fr h₀ env.locals h (fun y => if y = x then u y else kstB (fun z => if stored.contains z then u z else m₀ z) (ps c) y) → News h₀ env.locals h (Led c) → Q .next { s with heap := h, toks := tk }) :
    wpAny (model prog w) A (pyIter (.ref r)) (fun it s₂ => LoopAtV prog w A h₀ env x body Q E it s₂) E s := by
  refine wpAny_pyIter_range hr hsmall ?_
  have W := Walks.range (prog := prog) (w := w) hh s.heap.objs.size a₀ 1 n
  have hlt : ∀ p ∈ Led c₀, @LT.lt Nat _ p.1 s.heap.objs.size := fun p hp => Heap.lt_size (N p hp).1
  refine forL (I := s.heap.objs.size) (s := { s with heap := s.heap.push _ }) W Led ps stored Inv c₀ (next_is_new F) (fun b hb => .inl (List.mem_singleton.mp hb)) (fun hm => ?_) ?_ (fun i h hs => ⟨_, hs⟩) (F.push _) (fun p hp => ⟨Heap.get?_push_of_some _ (N p hp).1, (N p hp).2⟩) (fun p hp => Nat.ne_of_lt (hlt p hp)) hk h0 ?_ ?_
  · exact absurd F.ns.lt ((List.mem_singleton.mp hm) ▸ Nat.lt_irrefl _)
  · show IsRangeIter _ _ (a₀ + ((0 : Nat) : Int) * 1) ((n : Int) - ((0 : Nat) : Int)) 1
    rw [hn]
    have e1 : a₀ + ((0 : Nat) : Int) * 1 = a₀ := by omega
    have e2 : (n : Int) - ((0 : Nat) : Int) = n := by omega
    rw [e1, e2]
    exact Heap.get?_push_size _ rfl
  · rintro i v c it u h tk hi ⟨tok, rfl⟩ hInv hst₁ hoff F₁ N₁
    have e1 : a₀ + (i : Int) * 1 = a₀ + (i : Int) := by omega
    rw [e1] at F₁
    have g := (N₁ _ (.head _)).1
    rw [show h.get? s.heap.objs.size = _ from hst₁] at g
    exact turn i tok c s.heap.objs.size it u h tk hi hInv ⟨_, _, _, (Option.some.inj g).symm⟩ hlt hoff F₁ N₁
  · exact done
theorem forRangeQ {σ : Type} {r : Addr} {a₀ b₀ : Int} {t₀ u₀ v₀ : Tok} {n : Nat} {m₀ : Str → Option Value} (Led : σ → List (Addr × Obj)) (ps : σ → List (Str × Value)) (stored : List Str) (Inv : Nat → σ → Prop) (c₀ : σ)
    (hh : A.handled = none) (hr : IsRange s.heap r a₀ b₀ 1 t₀ u₀ v₀) (hsmall : Builtin.Range.small a₀ b₀ 1 = true) (hn : Builtin.Range.rangeSize a₀ b₀ 1 = (n : Int))
    (F : Fr h₀ env.locals s.heap m₀) (N : News h₀ env.locals s.heap (Led c₀)) (hk : ∀ p ∈ ps c₀, m₀ p.1 = some p.2) (h0 : Inv 0 c₀)
    (turn : ∀ (i : Nat) (tok : Tok) (c : σ) (I : Addr) (it : Obj) (u : Str → Option Value) (h : Heap) (tk : Nat) (Qp : Flow → Shared → Prop), (∀ s₂, ForEnd h₀ env.locals { s with heap := h, toks := tk } Led ps x stored m₀ I it (Inv (i + 1)) s₂ → Qp .next s₂) → i < n → Inv i c → RgIt it → (∀ p ∈ Led c₀, @LT.lt Nat _ p.1 I) → (∀ p ∈ Led c, p.1 ≠ I) → Fr h₀ env.locals h (fun y => if y = x then some (.int (a₀ + (i : Int)) tok) else kstB (fun z => if stored.contains z then u z else m₀ z) (ps c) y) → News h₀ env.locals h ((I, it) :: Led c) →
      wpAny (model prog w) A (execs body env) Qp E { s with heap := h, toks := tk })
    (done : ∀ (c : σ) (u : Str → Option Value) (h : Heap) (tk : Nat), Inv n c → Fr h₀ env.locals h (fun y => if y = x then u y else kstB (fun z => if stored.contains z then u z else m₀ z) (ps c) y) → News h₀ env.locals h (Led c) → Q .next { s with heap := h, toks := tk }) :
    wpAny (model prog w) A (pyIter (.ref r)) (fun it s₂ => LoopAtV prog w A h₀ env x body Q E it s₂) E s :=
  forRangeD Led ps stored Inv c₀ hh hr hsmall hn F N hk h0 (fun i tok c I it u h tk h1 h2 h3 h4 h5 h6 h7 => turn i tok c I it u h tk _ (fun _ h => h) h1 h2 h3 h4 h5 h6 h7) done
end
theorem Tab.offI {P I : Addr} {ln col : Int} {q : Str} {T l : Led} {h₀ h : Heap} {L : Addr} {it : Obj} (hT : Tab P ln col q T) (N : News h₀ L h l) (h1 : ∀ p ∈ T, p ∈ l) (h2 : (I, it) ∈ l) (hi : RgIt it) : ∀ p ∈ T, p.1 ≠ I := by
  obtain ⟨x, y, z, rfl⟩ := hi
  cases hT with
  | none =>
    intro p hp
    obtain rfl := List.mem_singleton.mp hp
    exact ne_of_objs N (h1 _ (.head _)) h2 fun e => by cases congrArg Obj.cls e
  | some hd hv _ =>
    intro p hp
    rcases List.mem_cons.mp hp with rfl | hp
    · refine ne_of_objs N (h1 _ (.head _)) h2 fun e => ?_
      rw [e] at hd
      cases hd
      cases hv
    · obtain rfl := List.mem_singleton.mp hp
      exact ne_of_objs N (h1 _ (.tail _ (.head _))) h2 fun e => by cases congrArg Obj.cls e
end
-- EnumF
section
open PySem PySem.W PyProof.Rows PySem.Calls PyProof.V PySem.Spec
/-- the end of a turn of a for over enumerate(..): as ForEnd, with two objects of the iterator -/
noncomputable def ForEnd2 {σ : Type} (h₀ : Heap) (L : Addr) (s₁ : Shared) (Led : σ → List (Addr × Obj)) (ps : σ → List (Str × Value)) (stored : List Str) (m₀ : Str → Option Value) (I : Addr) (it : Obj) (I2 : Addr) (it2 : Obj) (Inv : σ → Prop) (s₂ : Shared) : Prop :=
  ∃ (c' : σ) (h' : Heap) (tk : Nat) (m' : Str → Option Value) (news' : List (Addr × Obj)), s₂ = { s₁ with heap := h', toks := tk } ∧ Fr h₀ L h' m' ∧ News h₀ L h' news' ∧ (I, it) ∈ news' ∧ (I2, it2) ∈ news' ∧ (∀ p ∈ Led c', p ∈ news') ∧ (∀ p ∈ Led c', p.1 ≠ I ∧ p.1 ≠ I2) ∧ (∀ p ∈ ps c', m' p.1 = some p.2) ∧ (∀ z, (∀ p ∈ ps c', z ≠ p.1) → stored.contains z = false → m' z = m₀ z) ∧ Inv c'
inductive ForPost2 {σ : Type} (h₀ : Heap) (L : Addr) (s₁ : Shared) (Led : σ → List (Addr × Obj)) (ps : σ → List (Str × Value)) (stored : List Str) (m₀ : Str → Option Value) (I : Addr) (it : Obj) (I2 : Addr) (it2 : Obj) (Inv : σ → Prop) : Flow → Shared → Prop
  | next {s₂ : Shared} : ForEnd2 h₀ L s₁ Led ps stored m₀ I it I2 it2 Inv s₂ → ForPost2 h₀ L s₁ Led ps stored m₀ I it I2 it2 Inv .next s₂
section
variable {prog : Program} {w : World} {A : Around} {E : Value → Shared → Prop} {s : Shared} {env : Env} {h₀ : Heap} {body : List Stmt} {Q : Flow → Shared → Prop} {target : Expr}
theorem forT2 {σ : Type} {I I2 : Addr} {fp : List Addr} {n : Nat} {P Md : Nat → Value → Heap → Prop} {St : Nat → Heap → Prop} {m₀ : Str → Option Value} (W : KTurns prog w A target I fp [I, I2] n P Md St)
    (Led : σ → List (Addr × Obj)) (ps : σ → List (Str × Value)) (stored : List Str) (Inv : Nat → σ → Prop) (c₀ : σ) (hI : h₀.get? I = none) (hI2 : h₀.get? I2 = none) (hfp : ∀ b ∈ fp, b = I ∨ b = I2 ∨ ∃ o, ∀ c, (b, o) ∈ Led c) (hLI : env.locals ∉ fp) (hst : St 0 s.heap) (hlv : ∀ i h, St i h → (∃ o, h.get? I = some o) ∧ ∃ o, h.get? I2 = some o)
    (F : Fr h₀ env.locals s.heap m₀) (N : News h₀ env.locals s.heap (Led c₀)) (hoff : ∀ p ∈ Led c₀, p.1 ≠ I ∧ p.1 ≠ I2) (hk : ∀ p ∈ ps c₀, m₀ p.1 = some p.2) (h0 : Inv 0 c₀)
    (turn : ∀ (i : Nat) (v : Value) (c : σ) (it it2 : Obj) (u : Str → Option Value) (h : Heap) (tk : Nat), i < n → P i v h → Inv i c → St (i + 1) h → (∀ p ∈ Led c, p.1 ≠ I ∧ p.1 ≠ I2) → Fr h₀ env.locals h (fun y => kstB (fun z => if stored.contains z then u z else m₀ z) (ps c) y) → News h₀ env.locals h ((I, it) :: (I2, it2) :: Led c) →
      wpAny (model prog w) A (assign target env v) (fun _ s₃ => wpAny (model prog w) A (execs body env) (ForPost2 h₀ env.locals { s with heap := h, toks := tk } Led ps stored m₀ I it I2 it2 (Inv (i + 1))) E s₃) E { s with heap := h, toks := tk })
    (done : ∀ (c : σ) (u : Str → Option Value) (h : Heap) (tk : Nat), Inv n c → Fr h₀ env.locals h (fun y => kstB (fun z => if stored.contains z then u z else m₀ z) (ps c) y) → News h₀ env.locals h (Led c) → Q .next { s with heap := h, toks := tk }) :
    TurnsAt prog w A h₀ env target body Q E (.ref I) s := by
  let J : Nat → (Str → Option Value) → List (Addr × Obj) → Prop := fun i m nx => ∃ c, nx = Led c ∧ (∀ p ∈ ps c, m p.1 = some p.2) ∧ (∀ z, (∀ p ∈ ps c, z ≠ p.1) → stored.contains z = false → m z = m₀ z) ∧ Inv i c
  have frO : ∀ {c : σ} {m : Str → Option Value} {h : Heap}, (∀ p ∈ ps c, m p.1 = some p.2) → (∀ z, (∀ p ∈ ps c, z ≠ p.1) → stored.contains z = false → m z = m₀ z) → Fr h₀ env.locals h m → Fr h₀ env.locals h (fun y => kstB (fun z => if stored.contains z then m z else m₀ z) (ps c) y) := fun {c m h} h1 h2 F => by
    have e : (fun y => kstB (fun z => if stored.contains z then m z else m₀ z) (ps c) y) = m := funext fun y => by
      have key : ∀ (l : List (Str × Value)), (∀ p ∈ l, m p.1 = some p.2) → ((∀ p ∈ l, y ≠ p.1) → (if stored.contains y then m y else m₀ y) = m y) → kstB (fun z => if stored.contains z then m z else m₀ z) l y = m y := by
        intro l
        induction l with
        | nil => intro _ hz; exact hz (List.forall_mem_nil _)
        | cons p l ih =>
          intro ha hz
          show (if y = p.1 then some p.2 else kstB _ l y) = m y
          by_cases e : y = p.1
          · rw [if_pos e, e, ha p (.head _)]
          · rw [if_neg e]
            exact ih (fun q hq => ha q (.tail _ hq)) fun hl => hz (List.forall_mem_cons.mpr ⟨e, hl⟩)
      refine key _ h1 fun hz => ?_
      cases hc : stored.contains y with
      | true => rfl
      | false => exact (h2 y hz hc).symm
    rw [e]; exact F
  have hIm : I ∈ [I, I2] := .head _
  have hI2m : I2 ∈ [I, I2] := .tail _ (.head _)
  have off2 : ∀ {l : List (Addr × Obj)}, (∀ p ∈ l, p.1 ≠ I ∧ p.1 ≠ I2) → ∀ p ∈ l, p.1 ∉ [I, I2] := fun h p hp hm => by
    rcases List.mem_cons.mp hm with e | hm
    · exact (h p hp).1 e
    · exact (h p hp).2 (List.mem_singleton.mp hm)
  refine ⟨I, fp, [I, I2], n, P, Md, St, m₀, Led c₀, J, rfl, W, hLI, fun b hb => ?_, off2 hoff, hst, F, N, ⟨c₀, rfl, hk, fun _ _ _ => rfl, h0⟩, ?_, ?_⟩
  · rcases List.mem_cons.mp hb with rfl | hb
    · exact hI
    · rw [List.mem_singleton.mp hb]; exact hI2
  · rintro i v m₁ news₁ h tk own hin hP ⟨c, rfl, h1, h2, hInv⟩ hoff₁ hsub hget hall hst₁ F₁ N₁
    have hIfp : I ∈ fp := W.sub I hIm
    have hIfp2 : I2 ∈ fp := W.sub I2 hI2m
    have hoffc : ∀ p ∈ Led c, p.1 ≠ I ∧ p.1 ≠ I2 := fun p hp => ⟨fun e => hoff₁ p hp (e ▸ hIm), fun e => hoff₁ p hp (e ▸ hI2m)⟩
    obtain ⟨⟨it, hit⟩, it2, hit2⟩ := hlv _ _ hst₁
    have hmI := hall I hIfp hI it hit
    have hmI2 := hall I2 hIfp2 hI2 it2 hit2
    have N₂ : News h₀ env.locals h ((I, it) :: (I2, it2) :: Led c) := fun p hp => by
      rcases List.mem_cons.mp hp with rfl | hp
      · exact N₁ _ (List.mem_append_left _ hmI)
      · rcases List.mem_cons.mp hp with rfl | hp
        · exact N₁ _ (List.mem_append_left _ hmI2)
        · exact N₁ p (List.mem_append_right _ hp)
    have ownIn : ∀ p ∈ own, p = (I, it) ∨ p = (I2, it2) ∨ ∀ c', p ∈ Led c' := fun p hp => by
      obtain ⟨b, ob⟩ := p
      have g : h.get? b = some ob := hget _ hp
      rcases hfp b (hsub _ hp) with e | e | ⟨o, ho⟩
      · left
        rw [e, hit] at g
        rw [e, Option.some.inj g]
      · right; left
        rw [e, hit2] at g
        rw [e, Option.some.inj g]
      · right; right
        intro c'
        have g2 := (N₁ _ (List.mem_append_right own (ho c))).1
        have g3 : h.get? b = some o := g2
        rw [g] at g3
        rw [Option.some.inj g3]
        exact ho c'
    refine wpAny_mono (turn i v c it it2 m₁ h tk hin hP hInv hst₁ hoffc (frO h1 h2 F₁) N₂) (fun _ s₃ q => wpAny_mono q (fun f s₂ p => ?_) fun _ _ e => e) fun _ _ e => e
    cases p with
    | next hE =>
      refine .next ?_
      obtain ⟨c', h', tk', m', news', e, F', N', hI', hI2', hL', hoff', hps, hz, hInv'⟩ := hE
      refine ⟨rfl, h', tk', m', Led c', e, F', fun p hp => ?_, off2 hoff', c', rfl, hps, hz, hInv'⟩
      rcases List.mem_append.mp hp with hp | hp
      · rcases ownIn p hp with e | e | e
        · rw [e]; exact N' _ hI'
        · rw [e]; exact N' _ hI2'
        · exact N' _ (hL' p (e c'))
      · exact N' _ (hL' p hp)
  · rintro h' tk m' news' F' N' _ ⟨c, rfl, h1, h2, hInv⟩
    exact done c m' h' tk hInv (frO h1 h2 F') N'
theorem forEnum {σ : Type} {elts : List Expr} {kk : Nat} {pos : Pos} {ca : Addr} {cvs : List Value} {ce : Nat} {m₀ : Str → Option Value} (Led : σ → List (Addr × Obj)) (ps : σ → List (Str × Value)) (stored : List Str) (Inv : Nat → σ → Prop) (c₀ : σ)
    (hh : A.handled = none) (hm : ∀ c, (ca, W.listOf cvs.toArray ce) ∈ Led c)
    (F : Fr h₀ env.locals s.heap m₀) (N : News h₀ env.locals s.heap (Led c₀)) (hk : ∀ p ∈ ps c₀, m₀ p.1 = some p.2) (h0 : Inv 0 c₀)
    (turn : ∀ (i : Nat) (T I I2 : Addr) (t : Tok) (v : Value) (c : σ) (it it2 : Obj) (u : Str → Option Value) (h : Heap) (tk : Nat), i < cvs.length → cvs[i]? = some v → IsTup h T #[.int (i : Int) t, v] → Inv i c → (∀ p ∈ Led c₀, @LT.lt Nat _ p.1 I2 ∧ @LT.lt Nat _ p.1 I) → (∀ p ∈ Led c, p.1 ≠ I ∧ p.1 ≠ I2) → Fr h₀ env.locals h (fun y => kstB (fun z => if stored.contains z then u z else m₀ z) (ps c) y) → News h₀ env.locals h ((I, it) :: (I2, it2) :: Led c) →
      wpAny (model prog w) A (assign (.Tuple elts kk pos) env (.ref T)) (fun _ s₃ => wpAny (model prog w) A (execs body env) (ForPost2 h₀ env.locals { s with heap := h, toks := tk } Led ps stored m₀ I it I2 it2 (Inv (i + 1))) E s₃) E { s with heap := h, toks := tk })
    (done : ∀ (c : σ) (u : Str → Option Value) (h : Heap) (tk : Nat), Inv cvs.length c → Fr h₀ env.locals h (fun y => kstB (fun z => if stored.contains z then u z else m₀ z) (ps c) y) → News h₀ env.locals h (Led c) → Q .next { s with heap := h, toks := tk }) :
    wpAny (model prog w) A (call (.type "enumerate") [.ref ca]) (fun xv s₁ => wpAny (model prog w) A (pyIter xv) (fun it s₂ => TurnsAt prog w A h₀ env (.Tuple elts kk pos) body Q E it s₂) E s₁) E s := by
  have hax := N _ (hm c₀)
  have hl : s.heap.IsList ca cvs.toArray := ⟨_, hax.1, rfl, ce, rfl⟩
  have hlt : ca < s.heap.objs.size := Heap.lt_size hax.1
  have nlt : ∀ p ∈ Led c₀, @LT.lt Nat _ p.1 s.heap.objs.size := fun p hp => Heap.lt_size (N p hp).1
  refine call_enumerate_list hl fun h' hE hI hsz hk' => ?_
  refine wpAny_pyIter_enum hE ?_
  have W := (WalksT.enumerate (prog := prog) (w := w) hh (s.heap.objs.size + 1) s.heap.objs.size ca (Nat.succ_ne_self _) (Nat.ne_of_lt (Nat.lt_succ_of_lt hlt)) (Nat.ne_of_lt hlt) cvs.toArray).toU
  have e0 : cvs.toArray.size = cvs.length := by simp
  rw [e0] at W
  have hLs : env.locals < s.heap.objs.size := F.ns.lt
  refine forT2 (I := s.heap.objs.size + 1) (I2 := s.heap.objs.size) (s := { s with heap := h' }) (KTurns.ofWalksU (elts := elts) (k := kk) (pos := pos) W) Led ps stored Inv c₀ (ktu_new F (Nat.le_succ _)) (ktu_new F (Nat.le_refl _)) (fun b hb => ?_) (fun hmm => ?_) ⟨⟨_, hE⟩, hI, hl.at fun o e => hk' _ o e⟩ (fun i h hs => ?_) (F.keeps hk') (fun p hp => ⟨hk' _ _ (N p hp).1, (N p hp).2⟩) (fun p hp => ⟨Nat.ne_of_lt (Nat.lt_succ_of_lt (nlt p hp)), Nat.ne_of_lt (nlt p hp)⟩) hk h0 (fun i v c it it2 u h tk hi hP hInv hst₁ hoff F₁ N₁ => ?_) done
  · simp only [List.mem_cons, List.not_mem_nil, or_false] at hb
    rcases hb with e | e | e
    · exact .inl e
    · exact .inr (.inl e)
    · exact .inr (.inr ⟨_, fun c => e ▸ hm c⟩)
  · simp only [List.mem_cons, List.not_mem_nil, or_false] at hmm
    rcases hmm with e | e | e
    · exact absurd hLs (by rw [e]; exact Nat.not_lt.mpr (Nat.le_succ _))
    · exact absurd hLs (by rw [e]; exact Nat.lt_irrefl _)
    · exact hax.2.1 e.symm
  · obtain ⟨⟨old, he⟩, hl2, _⟩ := hs
    obtain ⟨o2, he2, _⟩ := hl2
    exact ⟨⟨_, he⟩, o2, he2⟩
  · obtain ⟨T, vals, rfl, ⟨t, x, hx, rfl⟩, hT⟩ := hP
    exact turn i T _ _ t x c it it2 u h tk hi (by simpa using hx) hT hInv (fun p hp => ⟨nlt p hp, Nat.lt_succ_of_lt (nlt p hp)⟩) hoff F₁ N₁
theorem forEnumQ {σ : Type} {elts : List Expr} {kk : Nat} {pos : Pos} {ca : Addr} {cvs : List Value} {ce : Nat} {m₀ : Str → Option Value} (Led : σ → List (Addr × Obj)) (ps : σ → List (Str × Value)) (stored : List Str) (Inv : Nat → σ → Prop) (c₀ : σ)
    (hh : A.handled = none) (hm : ∀ c, (ca, W.listOf cvs.toArray ce) ∈ Led c)
    (F : Fr h₀ env.locals s.heap m₀) (N : News h₀ env.locals s.heap (Led c₀)) (hk : ∀ p ∈ ps c₀, m₀ p.1 = some p.2) (h0 : Inv 0 c₀)
    (turn : ∀ (i : Nat) (T I I2 : Addr) (t : Tok) (v : Value) (c : σ) (it it2 : Obj) (u : Str → Option Value) (h : Heap) (tk : Nat) (Qp : Flow → Shared → Prop), (∀ s₂, ForEnd2 h₀ env.locals { s with heap := h, toks := tk } Led ps stored m₀ I it I2 it2 (Inv (i + 1)) s₂ → Qp .next s₂) → i < cvs.length → cvs[i]? = some v → IsTup h T #[.int (i : Int) t, v] → Inv i c → (∀ p ∈ Led c₀, @LT.lt Nat _ p.1 I2 ∧ @LT.lt Nat _ p.1 I) → (∀ p ∈ Led c, p.1 ≠ I ∧ p.1 ≠ I2) → Fr h₀ env.locals h (fun y => kstB (fun z => if stored.contains z then u z else m₀ z) (ps c) y) → News h₀ env.locals h ((I, it) :: (I2, it2) :: Led c) →
      wpAny (model prog w) A (assign (.Tuple elts kk pos) env (.ref T)) (fun _ s₃ => wpAny (model prog w) A (execs body env) Qp E s₃) E { s with heap := h, toks := tk })
    (done : ∀ (c : σ) (u : Str → Option Value) (h : Heap) (tk : Nat), Inv cvs.length c → Fr h₀ env.locals h (fun y => kstB (fun z => if stored.contains z then u z else m₀ z) (ps c) y) → News h₀ env.locals h (Led c) → Q .next { s with heap := h, toks := tk }) :
    wpAny (model prog w) A (call (.type "enumerate") [.ref ca]) (fun xv s₁ => wpAny (model prog w) A (pyIter xv) (fun it s₂ => TurnsAt prog w A h₀ env (.Tuple elts kk pos) body Q E it s₂) E s₁) E s :=
  forEnum Led ps stored Inv c₀ hh hm F N hk h0 (fun i T I I2 t v c it it2 u h tk h1 h2 h3 h4 h5 h6 h7 h8 => turn i T I I2 t v c it it2 u h tk _ (fun _ h => .next h) h1 h2 h3 h4 h5 h6 h7 h8) done
end
end
-- CntT
section
open PySem PySem.W PyProof.Rows PySem.Calls PySem.Spec
theorem ints_uniq {us : List Value} {t t' : List Int} (h : IntsAre us t) (h' : IntsAre us t') : t = t' := by
  induction h generalizing t' with
  | nil => cases h'; rfl
  | cons n u _ ih => cases h' with | cons _ _ h' => exact congrArg (n :: ·) (ih h')
section
variable {prog : Program} {w : World} {A : Around} {E : Value → Shared → Prop} {s : Shared} {h₀ : Heap} {L : Addr} {Q : Value → Shared → Prop} {news : Led}
theorem count_tups {l : Addr} {vs : List Value} {n : Nat} {x : Value} {t : List Int} {R : List (List Int)} (N : News h₀ L s.heap news) (hl : (l, W.listOf vs.toArray n) ∈ news) (hR : HItems news vs R) (hx : HItem news x t) (hu : A.units + 70 < cLine)
    (h : Q (.int (R.count t : Nat) s.toks) { s with toks := s.toks + 1 }) : wpAny (model prog w) A (call (.builtin "list.count") [.ref l, x]) Q E s := by
  classical
  obtain ⟨xa, xus, xk, rfl, xm, xi⟩ := hx
  have xg := (N _ xm).1
  let e : Value → Bool := fun y => decide (∃ a us k, y = Value.ref a ∧ s.heap.get? a = some (tupO us k) ∧ IntsAre us t)
  have he : ∀ y t', HItem news y t' → e y = decide (t' = t) := fun y t' ⟨a, us, k, e1, m, i⟩ => by
    have g := (N _ m).1
    refine decide_eq_decide.mpr ⟨fun ⟨a', us', k', e2, g', i'⟩ => ?_, fun et => ⟨a, us, k, e1, g, et ▸ i⟩⟩
    rw [e1] at e2
    obtain rfl := Value.ref.inj e2
    have g2 : s.heap.get? a = some (tupO us k) := g
    rw [g'] at g2
    have e3 : us' = us := by
      have := congrArg Obj.data (Option.some.inj g2)
      simpa using (Data.seq.inj this).1
    exact ints_uniq i (e3 ▸ i')
  have hc : ∀ {vs : List Value} {R : List (List Int)}, HItems news vs R → vs.countP e = R.count t := fun {vs R} h => by
    induction h with
    | nil => rfl
    | cons h _ ih =>
      rw [List.countP_cons, List.count_cons, ih, he _ _ h]
      simp
  have hm : ∀ y ∈ vs, ∃ t', HItem news y t' := by
    clear hl h
    induction hR with
    | nil => intro y hy; cases hy
    | cons h _ ih => exact List.forall_mem_cons.mpr ⟨⟨_, h⟩, ih⟩
  refine call_meets PySem.F.slot_list_count ⟨_, (N _ hl).1, rfl⟩ PySem.F.entry_list_count (PySem.F.args_list_count_2 _ _) (SeqAt.list_countAt l vs.toArray n none _ (.ref xa) e) ⟨(N _ hl).1, fun y hy => ?_, ?_⟩
  · obtain ⟨t', hy'⟩ := hm y (by simpa using hy)
    rw [he _ _ hy']
    obtain ⟨a, us, k, rfl, m, i⟩ := hy'
    have hu1 : A.in1.units + 64 < cLine := by rw [units_in1]; omega
    have z := keq_at (A := A) (tup_reads (N _ m).1 i) (tup_reads xg xi) (tup_shaped t') (tup_shaped t) hu1
    rw [tup_eqv] at z
    exact z
  · rw [show vs.toArray.toList = vs from rfl, hc hR]
    exact h
end
end
-- DueS
section
open PySem PySem.W PyProof.Rows PySem.Calls
/-- the ledger bears a list of int tuples at v -/
noncomputable def RItem (l : Led) (v : Value) (R : List (List Int)) : Prop := ∃ a vs e, v = .ref a ∧ (a, W.listOf (vs : List Value).toArray e) ∈ l ∧ HItems l vs R
theorem RItem.mono {l l' : Led} {v : Value} {R : List (List Int)} (h : RItem l v R) (hs : ∀ p ∈ l, p ∈ l') : RItem l' v R := let ⟨a, vs, e, h1, h2, h3⟩ := h; ⟨a, vs, e, h1, hs _ h2, h3.mono hs⟩
noncomputable def rootsB (d n t : Int) : Nat → Option (List (List Int))
  | 0 => some []
  | j + 1 =>
    match rootsB d n t j with
    | none => none
    | some acc =>
      if Int.fmod ((0 + (j : Int)) * (0 + (j : Int)) + d) (4 * n) = 0 then
        if (Int.gcd (Int.gcd n (0 + (j : Int) + 2 * n * t) : Int) (Int.fdiv ((0 + (j : Int) + 2 * n * t) * (0 + (j : Int) + 2 * n * t) + d) (4 * n)) : Int) = 1 then
          match redF 200 n (0 + (j : Int) + 2 * n * t) (Int.fdiv ((0 + (j : Int) + 2 * n * t) * (0 + (j : Int) + 2 * n * t) + d) (4 * n)) with
          | some (x, y, z) => some (acc ++ [[x, y, z]])
          | none => none
        else some acc
      else some acc
theorem rootsB_some {d n t : Int} {j : Nat} {R : List (List Int)} (h : rootsB d n t (j + 1) = some R) : ∃ acc, rootsB d n t j = some acc ∧
    ((Int.fmod ((0 + (j : Int)) * (0 + (j : Int)) + d) (4 * n) = 0 ∧ (Int.gcd (Int.gcd n (0 + (j : Int) + 2 * n * t) : Int) (Int.fdiv ((0 + (j : Int) + 2 * n * t) * (0 + (j : Int) + 2 * n * t) + d) (4 * n)) : Int) = 1) → ∃ x y z, redF 200 n (0 + (j : Int) + 2 * n * t) (Int.fdiv ((0 + (j : Int) + 2 * n * t) * (0 + (j : Int) + 2 * n * t) + d) (4 * n)) = some (x, y, z) ∧ R = acc ++ [[x, y, z]]) ∧
    (¬ (Int.fmod ((0 + (j : Int)) * (0 + (j : Int)) + d) (4 * n) = 0 ∧ (Int.gcd (Int.gcd n (0 + (j : Int) + 2 * n * t) : Int) (Int.fdiv ((0 + (j : Int) + 2 * n * t) * (0 + (j : Int) + 2 * n * t) + d) (4 * n)) : Int) = 1) → R = acc) := by
  rw [rootsB] at h
  split at h
  · cases h
  · rename_i acc e
    refine ⟨acc, e, fun ⟨c1, c2⟩ => ?_, fun hn => ?_⟩
    · rw [if_pos c1, if_pos c2] at h
      split at h
      · rename_i x y z e2
        exact ⟨x, y, z, e2, (Option.some.inj h).symm⟩
      · cases h
    · by_cases c1 : Int.fmod ((0 + (j : Int)) * (0 + (j : Int)) + d) (4 * n) = 0
      · rw [if_pos c1, if_neg fun c2 => hn ⟨c1, c2⟩] at h
        exact (Option.some.inj h).symm
      · rw [if_neg c1] at h
        exact (Option.some.inj h).symm
theorem rootsB_pre {d n t : Int} {j : Nat} : ∀ {m : Nat} {R : List (List Int)}, j ≤ m → rootsB d n t m = some R → ∃ R', rootsB d n t j = some R' := fun {m} => by
  induction m with
  | zero => intro R hj h; obtain rfl := Nat.le_zero.mp hj; exact ⟨R, h⟩
  | succ m ih =>
    intro R hj h
    rcases Nat.lt_or_ge m j with hlt | hge
    · obtain rfl : j = m + 1 := by omega
      exact ⟨R, h⟩
    · obtain ⟨acc, e, _⟩ := rootsB_some h
      exact ih hge e
structure DSt where
  s1 : Int
  s2 : Int
  s3 : Int
  s4 : Int
  T : List (Int × List Int)
/-- one class's turn -/
noncomputable def dueT1 (many k m : Int) (t : Int) (s : DSt) : DSt :=
  if many > 0 then ⟨s.s1 + (if k = 1 then many else 0), s.s2 + many, s.s3 + many * k, s.s4 + many * m, dput s.T t [((dget s.T t).getD [0, 0]).getD 0 0 + (if k = 1 then many else 0), ((dget s.T t).getD [0, 0]).getD 1 0 + many]⟩ else s
noncomputable def dueT (half k m : Int) (R cls : List (List Int)) (s : DSt) : Nat → DSt
  | 0 => s
  | t + 1 => dueT1 (half * (R.count (cls.getD t []) : Nat)) k m (t : Int) (dueT half k m R cls s t)
noncomputable def dueK (half n : Int) (roots : List (Int × List (List Int))) (cls : List (List Int)) : Nat → Option DSt
  | 0 => some ⟨0, 0, 0, 0, []⟩
  | i + 1 =>
    match dueK half n roots cls i with
    | none => none
    | some s =>
      if Int.fmod n ((1 + (i : Int)) * (1 + (i : Int))) = 0 then
        match gget roots (Int.fdiv n ((1 + (i : Int)) * (1 + (i : Int)))) with
        | none => none
        | some R => some (dueT half (1 + (i : Int)) (Int.fdiv n ((1 + (i : Int)) * (1 + (i : Int)))) R cls s cls.length)
      else some s
theorem dueK_some {half n : Int} {roots : List (Int × List (List Int))} {cls : List (List Int)} {i : Nat} {S : DSt} (h : dueK half n roots cls (i + 1) = some S) : ∃ s, dueK half n roots cls i = some s ∧
    ((Int.fmod n ((1 + (i : Int)) * (1 + (i : Int))) = 0 ∧ ∃ R, gget roots (Int.fdiv n ((1 + (i : Int)) * (1 + (i : Int)))) = some R ∧ S = dueT half (1 + (i : Int)) (Int.fdiv n ((1 + (i : Int)) * (1 + (i : Int)))) R cls s cls.length) ∨ (¬ Int.fmod n ((1 + (i : Int)) * (1 + (i : Int))) = 0 ∧ S = s)) := by
  rw [dueK] at h
  split at h
  · cases h
  · rename_i s e
    refine ⟨s, e, ?_⟩
    split at h
    · rename_i c1
      split at h
      · cases h
      · rename_i R e2
        exact .inl ⟨c1, R, e2, (Option.some.inj h).symm⟩
    · rename_i c1
      exact .inr ⟨c1, (Option.some.inj h).symm⟩
theorem dueK_pre {half n : Int} {roots : List (Int × List (List Int))} {cls : List (List Int)} {j : Nat} : ∀ {m : Nat} {R : DSt}, j ≤ m → dueK half n roots cls m = some R → ∃ R', dueK half n roots cls j = some R' := fun {m} => by
  induction m with
  | zero => intro R hj h; obtain rfl := Nat.le_zero.mp hj; exact ⟨R, h⟩
  | succ m ih =>
    intro R hj h
    rcases Nat.lt_or_ge m j with hlt | hge
    · obtain rfl : j = m + 1 := by omega
      exact ⟨R, h⟩
    · obtain ⟨acc, e, _⟩ := dueK_some h
      exact ih hge e
structure DuSt where
  roots : List (Int × List (List Int))
  due : List (Int × Ent)
noncomputable def dueN (half d : Int) (cls : List (List Int)) (tf : Int → Int) : Nat → Option DuSt
  | 0 => some ⟨[], []⟩
  | i + 1 =>
    match dueN half d cls tf i with
    | none => none
    | some s =>
      match rootsB d (1 + (i : Int)) (tf (1 + (i : Int))) (2 * (i + 1)) with
      | none => none
      | some R =>
        match dueK half (1 + (i : Int)) (gput s.roots (1 + (i : Int)) R) cls 3 with
        | none => none
        | some e => some ⟨gput s.roots (1 + (i : Int)) R, if e.s2 > 0 then gput s.due (1 + (i : Int)) ⟨e.s1, e.s2, e.s3, e.s4, e.T⟩ else s.due⟩
theorem dueN_some {half d : Int} {cls : List (List Int)} {tf : Int → Int} {i : Nat} {S : DuSt} (h : dueN half d cls tf (i + 1) = some S) : ∃ s R e, dueN half d cls tf i = some s ∧ rootsB d (1 + (i : Int)) (tf (1 + (i : Int))) (2 * (i + 1)) = some R ∧
    dueK half (1 + (i : Int)) (gput s.roots (1 + (i : Int)) R) cls 3 = some e ∧ S = ⟨gput s.roots (1 + (i : Int)) R, if e.s2 > 0 then gput s.due (1 + (i : Int)) ⟨e.s1, e.s2, e.s3, e.s4, e.T⟩ else s.due⟩ := by
  rw [dueN] at h
  split at h
  · cases h
  · rename_i s e1
    split at h
    · cases h
    · rename_i R e2
      split at h
      · cases h
      · rename_i e e3
        exact ⟨s, R, e, e1, e2, e3, (Option.some.inj h).symm⟩
theorem dueN_pre {half d : Int} {cls : List (List Int)} {tf : Int → Int} {j : Nat} : ∀ {m : Nat} {R : DuSt}, j ≤ m → dueN half d cls tf m = some R → ∃ R', dueN half d cls tf j = some R' := fun {m} => by
  induction m with
  | zero => intro R hj h; obtain rfl := Nat.le_zero.mp hj; exact ⟨R, h⟩
  | succ m ih =>
    intro R hj h
    rcases Nat.lt_or_ge m j with hlt | hge
    · obtain rfl : j = m + 1 := by omega
      exact ⟨R, h⟩
    · obtain ⟨s, _, _, e, _⟩ := dueN_some h
      exact ih hge e
noncomputable def halfF (d : Int) : Int := if d = 3 then 3 else if d = 4 then 2 else 1
noncomputable def tfF (turns : List Int) (n : Int) : Int := turns.getD (Int.fmod n (turns.length : Int)).toNat 0
noncomputable def dueF (cls : List (List Int)) (d : Int) (bound : Nat) (turns : List Int) : Option DuSt := dueN (halfF d) d cls (tfF turns) bound
end
-- DueA
section
open PySem PySem.W PyProof.Rows PySem.Calls
structure DuW where
  rk : List (Int × Value)
  ro : Obj
  dk : List (Int × Value)
  dO : Obj
  TA : Led
  TB : Led
  ext : Led
  U : DuSt
noncomputable def DOff (rt du : Addr) (p : Addr × Obj) : Prop := p.1 ≠ rt ∧ p.1 ≠ du ∧ p.1 ≠ 30 ∧ p.1 ≠ 37
noncomputable def DuInv (w : World) (news : Led) (rt du : Addr) (half d : Int) (cls : List (List Int)) (tf : Int → Int) (i : Nat) (c : DuW) : Prop :=
  Tab 30 32 4 qI2D c.TA ∧ Tab 37 47 4 qD2I c.TB ∧ c.ro.IsDictOf (KI w) c.rk ∧ c.dO.IsDictOf (KI w) c.dk ∧ KItems (RItem (c.ext ++ news)) c.rk c.U.roots ∧ KItems (EItem w (c.ext ++ news)) c.dk c.U.due ∧ (∀ p ∈ c.ext ++ news, DOff rt du p) ∧ c.U.roots.length ≤ i ∧ c.U.due.length ≤ i ∧ dueN half d cls tf i = some c.U
noncomputable def duLed (news : Led) (rt du : Addr) (c : DuW) : Led := (rt, c.ro) :: (du, c.dO) :: (c.TA ++ (c.TB ++ (c.ext ++ news)))
theorem du_small : ∀ b ≤ 20, Builtin.Range.small 1 (((b : Nat) : Int) + 1) 1 = true := by decide
theorem du_size : ∀ b ≤ 20, Builtin.Range.rangeSize 1 (((b : Nat) : Int) + 1) 1 = ((b : Nat) : Int) := by decide
theorem b_small : ∀ i < 20, Builtin.Range.small 0 (2 * (1 + ((i : Nat) : Int))) 1 = true := by decide
theorem b_size : ∀ i < 20, Builtin.Range.rangeSize 0 (2 * (1 + ((i : Nat) : Int))) 1 = ((2 * (i + 1) : Nat) : Int) := by decide
theorem half_at (d : Int) (a1 a2 t1 t2 t3 : Tok) : ∃ t, (valueAt (intKeyPairs [(.int 3 a1, .int 3 t1), (.int 4 a2, .int 2 t2)]) d).getD (.int 1 t3) = .int (halfF d) t := by
  by_cases h3 : d = 3
  · exact ⟨t1, by simp [intKeyPairs, valueAt, halfF, h3]⟩
  · by_cases h4 : d = 4
    · exact ⟨t2, by simp [intKeyPairs, valueAt, halfF, h4]⟩
    · exact ⟨t3, by simp [intKeyPairs, valueAt, halfF, h3, h4, Ne.symm h3, Ne.symm h4]⟩
theorem halfGet {w : World} {A : Around} {E : Value → Shared → Prop} {s : Shared} {h₀ : Heap} {L D : Addr} {news : Led} {o : Obj} {d : Int} {td a1 a2 t1 t2 t3 : Tok} {Q : Value → Shared → Prop} (N : News h₀ L s.heap ((D, o) :: news)) (hd : o.IsDictOf (KI w) (intKeyPairs [(.int 3 a1, .int 3 t1), (.int 4 a2, .int 2 t2)])) (lo : (D == sysModules) = false)
    (h : ∀ t, Q (.int (halfF d) t) { s with toks := s.toks + 1 }) : wpAny (model PySem.Challenge.rw_pg0199_01.row.prog w) A (call (.builtin "dict.get") [.ref D, .int d td, .int 1 t3]) Q E s :=
  kdg_get2 (knd := PySem.intKind _ _) N (.head _) hd lo (intKind_is _ _ _ _) _ rfl (by
    obtain ⟨t, e⟩ := half_at d a1 a2 t1 t2 t3
    rw [e]; exact h t)
theorem nameObj {h₀ h : Heap} {L D : Addr} {o : Obj} {news : Led} (_ : News h₀ L h ((D, o) :: news)) : ∃ o', o' = o := ⟨o, rfl⟩
theorem duCore {w : World} {h₀ h : Heap} {L rt du : Addr} {ro dO : Obj} {rk dk : List (Int × Value)} {TA TB r : Led} (N : News h₀ L h ((rt, ro) :: (du, dO) :: (TA ++ (TB ++ r)))) (hA : Tab 30 32 4 qI2D TA) (hB : Tab 37 47 4 qD2I TB) (hR : ro.IsDictOf (KI w) rk) (hD : dO.IsDictOf (KI w) dk) : (∀ p ∈ TA, p.1 ≠ rt ∧ p.1 ≠ du) ∧ ∀ p ∈ TB, p.1 ≠ rt ∧ p.1 ≠ du := by
  have nf : ∀ {o : Obj} {k : List (Int × Value)}, o.IsDictOf (KI w) k → ∀ vs, o.data ≠ .fields vs := fun {o k} h vs e => by
    obtain ⟨es, ep, _, e2, _⟩ := h
    rw [e] at e2; cases e2
  refine ⟨fun p hp => ?_, fun p hp => ?_⟩
  · obtain ⟨vs, hv⟩ := hA.flds p hp
    have m : p ∈ (rt, ro) :: (du, dO) :: (TA ++ (TB ++ r)) := .tail _ (.tail _ (List.mem_append_left _ hp))
    exact ⟨ne_of_objs N (o1 := p.2) m (.head _) fun e => nf hR vs (e ▸ hv), ne_of_objs N (o1 := p.2) m (.tail _ (.head _)) fun e => nf hD vs (e ▸ hv)⟩
  · obtain ⟨vs, hv⟩ := hB.flds p hp
    have m : p ∈ (rt, ro) :: (du, dO) :: (TA ++ (TB ++ r)) := .tail _ (.tail _ (List.mem_append_right _ (List.mem_append_left _ hp)))
    exact ⟨ne_of_objs N (o1 := p.2) m (.head _) fun e => nf hR vs (e ▸ hv), ne_of_objs N (o1 := p.2) m (.tail _ (.head _)) fun e => nf hD vs (e ▸ hv)⟩
theorem newsTail {h₀ h : Heap} {L : Addr} {x : Addr × Obj} {l : Led} (N : News h₀ L h (x :: l)) : News h₀ L h l := fun p hp => N p (.tail _ hp)
theorem duP0 {h₀ h : Heap} {L : Addr} {a b x : Addr × Obj} {l : Led} (N : News h₀ L h (a :: b :: x :: l)) : News h₀ L h (b :: a :: l) := fun p hp => N p (by
  simp only [List.mem_cons] at hp ⊢
  rcases hp with e | e | e <;> simp [e])
theorem duP1 {h₀ h : Heap} {L : Addr} {a l i d : Addr × Obj} {TA TB r : Led} (N : News h₀ L h (a :: l :: i :: d :: (TA ++ (TB ++ r)))) : News h₀ L h (l :: (TA ++ (TB ++ (a :: i :: d :: r)))) := fun p hp => N p (by
  simp only [List.mem_cons, List.mem_append] at hp ⊢
  rcases hp with e | e | e | e | e | e | e <;> simp [e])
theorem bPerm {h₀ h : Heap} {L : Addr} {a l : Addr × Obj} {TA TB r : Led} (N : News h₀ L h (a :: l :: (TA ++ (TB ++ r)))) : News h₀ L h (TA ++ (TB ++ (a :: l :: r))) := fun p hp => N p (by
  simp only [List.mem_cons, List.mem_append] at hp ⊢
  rcases hp with e | e | e | e | e <;> simp [e])
theorem bPerm2 {h₀ h : Heap} {L : Addr} {d a l : Addr × Obj} {TA TB r : Led} (N : News h₀ L h (d :: (TA ++ (TB ++ (a :: l :: r))))) : News h₀ L h (l :: d :: a :: (TA ++ (TB ++ r))) := fun p hp => N p (by
  simp only [List.mem_cons, List.mem_append] at hp ⊢
  rcases hp with e | e | e | e | e | e <;> simp [e])
structure BSt where
  vs : List Value
  e : Nat
  TA : Led
  TB : Led
  ext : Led
noncomputable def BOff (ln : Addr) (B1 : Led) (p : Addr × Obj) : Prop := @LT.lt Nat _ ln p.1 ∧ (∀ q ∈ B1, @LT.lt Nat _ q.1 p.1) ∧ p.1 ≠ 30 ∧ p.1 ≠ 37
noncomputable def bLed (ln : Addr) (B1 : Led) (c : BSt) : Led := (ln, W.listOf c.vs.toArray c.e) :: (c.TA ++ (c.TB ++ (c.ext ++ B1)))
noncomputable def BInv (ln : Addr) (B1 : Led) (d n t : Int) (j : Nat) (c : BSt) : Prop := Tab 30 32 4 qI2D c.TA ∧ Tab 37 47 4 qD2I c.TB ∧ (∃ R, rootsB d n t j = some R ∧ HItems c.ext c.vs R) ∧ c.vs.length ≤ j ∧ ∀ p ∈ c.ext, BOff ln B1 p
theorem bEnd1 {h₀ h' : Heap} {L ln I2 : Addr} {s₁ : Shared} {tk e' : Nat} {vs' : List Value} {D : Addr × Obj} {it2 : Obj} {A' B' ext B1 : Led} {m' m₀ : Str → Option Value} {x : Str} {stored : List Str} {d n t : Int} {j : Nat} {R' : List (List Int)}
    (N : News h₀ L h' ((ln, W.listOf vs'.toArray e') :: D :: (I2, it2) :: (A' ++ (B' ++ (ext ++ B1))))) (F : Fr h₀ L h' m') (hz : ∀ z, z ≠ x → stored.contains z = false → m' z = m₀ z) (hA : Tab 30 32 4 qI2D A') (hB : Tab 37 47 4 qD2I B') (hH : HItems (D :: ext) vs' R') (hR : rootsB d n t (j + 1) = some R') (hlen : vs'.length ≤ j + 1)
    (hext : ∀ p ∈ ext, BOff ln B1 p) (hD : BOff ln B1 D) (hI : RgIt it2) (hI1 : ∀ p ∈ B1, p.1 ≠ I2) (hIe : ∀ p ∈ ext, p.1 ≠ I2) (hl : ln ≠ I2) (hDI : D.1 ≠ I2) :
    ForEnd h₀ L s₁ (bLed ln B1) (fun _ => []) x stored m₀ I2 it2 (BInv ln B1 d n t (j + 1)) { s₁ with heap := h', toks := tk } := by
  refine ForEnd.intro ⟨vs', e', A', B', D :: ext⟩ F N (.tail _ (.tail _ (.head _))) (fun p hp => ?_) (fun p hp => ?_) (List.forall_mem_nil _) (fun z h1 _ h3 => hz z h1 h3) ⟨hA, hB, ⟨R', hR, hH⟩, hlen, List.forall_mem_cons.mpr ⟨hD, hext⟩⟩
  · simp only [bLed, List.mem_cons, List.mem_append] at hp ⊢
    rcases hp with e | e | e | (e | e) | e <;> simp [e]
  · simp only [bLed, List.mem_cons, List.mem_append] at hp
    rcases hp with rfl | e | e | (rfl | e) | e
    · exact hl
    · exact hA.offI N (fun q hq => .tail _ (.tail _ (.tail _ (List.mem_append_left _ hq)))) (.tail _ (.tail _ (.head _))) hI p e
    · exact hB.offI N (fun q hq => .tail _ (.tail _ (.tail _ (List.mem_append_right _ (List.mem_append_left _ hq))))) (.tail _ (.tail _ (.head _))) hI p e
    · exact hDI
    · exact hIe p e
    · exact hI1 p e
theorem stored_at (rk : List (Int × Value)) (n : Int) (v : Value) : valueAt (stored rk n v) n = some v := by
  rw [stored]
  split
  · rename_i h
    obtain ⟨q, hq, e⟩ := List.any_eq_true.mp h
    have e : q.1 = n := of_decide_eq_true e
    clear h
    induction rk with
    | nil => cases hq
    | cons p l ih =>
      by_cases e2 : p.1 = n
      · simp [valueAt, e2]
      · rcases List.mem_cons.mp hq with rfl | hq
        · exact absurd e e2
        · have := ih hq
          simp only [valueAt, List.map_cons, if_neg e2, List.find?_cons, decide_eq_false e2] at this ⊢
          exact this
  · rename_i h
    have hn : rk.find? (fun q => decide (q.1 = n)) = none := by
      rw [List.find?_eq_none]
      intro q hq e
      exact h (List.any_eq_true.mpr ⟨q, hq, e⟩)
    simp [valueAt, List.find?_append, hn]
theorem turn_at {tvs : List Value} {turns : List Int} (h : IntsAre tvs turns) (h0 : 0 < turns.length) (n : Int) : 0 ≤ Int.fmod n (turns.length : Int) ∧ Int.fmod n (turns.length : Int) < turns.length ∧ ∃ t, tvs[(Int.fmod n (turns.length : Int)).toNat]? = some (.int (tfF turns n) t) := by
  have h1 : (0 : Int) < (turns.length : Int) := Int.natCast_pos.mpr h0
  have a := Int.fmod_nonneg_of_pos n h1
  have b := Int.fmod_lt_of_pos n h1
  refine ⟨a, b, ?_⟩
  have hl := h.length
  have hk : (Int.fmod n (turns.length : Int)).toNat < tvs.length := by omega
  obtain ⟨t, e⟩ := h.int_at _ _ (List.getElem?_eq_getElem hk)
  exact ⟨t, (List.getElem?_eq_getElem hk).trans (congrArg some e)⟩
structure KSt where
  tk : List (Int × Value)
  to : Obj
  sm : Addr
  ext : Led
  S : DSt
noncomputable def kLed (tbl : Addr) (B2 : Led) (c : KSt) : Led := (tbl, c.to) :: (c.ext ++ B2)
noncomputable def KInv (w : World) (tbl : Addr) (B2 : Led) (half n : Int) (roots : List (Int × List (List Int))) (cls : List (List Int)) (i : Nat) (c : KSt) : Prop :=
  c.to.IsDictOf (KI w) c.tk ∧ DItems c.ext c.tk c.S.T ∧ (∀ x ∈ c.S.T, x.2.length = 2) ∧ HItem c.ext (.ref c.sm) [c.S.s1, c.S.s2, c.S.s3, c.S.s4] ∧ (∀ p ∈ c.ext, p.1 ≠ tbl ∧ ∀ q ∈ B2, @LT.lt Nat _ q.1 p.1) ∧ c.S.T.length ≤ 100 * i ∧ dueK half n roots cls i = some c.S
theorem tf_sm {turns : List Int} (h : ∀ x ∈ turns, -8 < x ∧ x < 8) (n : Int) : -8 < tfF turns n ∧ tfF turns n < 8 := by
  rw [tfF, List.getD_eq_getElem?_getD]
  cases e : turns[(Int.fmod n (turns.length : Int)).toNat]? with
  | none => exact ⟨by decide, by decide⟩
  | some x => exact h x (List.mem_of_getElem? e)
theorem mul_bd {m t : Int} (hm : 0 ≤ m) (hm1 : m ≤ 40) (h : -8 < t) (h1 : t < 8) : -280 ≤ m * t ∧ m * t ≤ 280 := by
  have a := Int.mul_le_mul_of_nonneg_left (show t ≤ 7 from Int.le_of_lt_add_one h1) hm
  have b := Int.mul_le_mul_of_nonneg_left (show (-7 : Int) ≤ t from h) hm
  omega
theorem mv_sm2 {j : Nat} {p : Int} (hj : j < 40) (a : -280 ≤ p) (b : p ≤ 280) : -4096 < 0 + (j : Int) + p ∧ 0 + (j : Int) + p < 4096 := by omega
theorem mv_sm {i j : Nat} {t : Int} (hi : i < 20) (hj : j < 2 * (i + 1)) (h : -8 < t ∧ t < 8) : -4096 < 0 + (j : Int) + 2 * (1 + (i : Int)) * t ∧ 0 + (j : Int) + 2 * (1 + (i : Int)) * t < 4096 :=
  have a := mul_bd (m := 2 * (1 + (i : Int))) (by omega) (by omega) h.1 h.2
  mv_sm2 (Nat.lt_of_lt_of_le hj (Nat.mul_le_mul_left 2 hi)) a.1 a.2
theorem fdiv_sm {n q : Int} (h0 : 0 ≤ n) (hq : q ≠ 0) (h1 : 0 ≤ q) : 0 ≤ Int.fdiv n q ∧ Int.fdiv n q ≤ n := by
  rw [Int.fdiv_eq_ediv_of_nonneg _ h1]
  exact ⟨Int.ediv_nonneg h0 h1, Int.ediv_le_self _ h0⟩
theorem half_sm (d : Int) : 0 < halfF d ∧ halfF d < 4 := by
  unfold halfF
  split
  · exact ⟨by decide, by decide⟩
  · split <;> exact ⟨by decide, by decide⟩
noncomputable def TInv (w : World) (tbl I3 : Addr) (B2 B3 : Led) (base : Nat) (half k m : Int) (R cls : List (List Int)) (S0 : DSt) (j : Nat) (c : KSt) : Prop :=
  c.to.IsDictOf (KI w) c.tk ∧ DItems c.ext c.tk c.S.T ∧ (∀ x ∈ c.S.T, x.2.length = 2) ∧ HItem c.ext (.ref c.sm) [c.S.s1, c.S.s2, c.S.s3, c.S.s4] ∧ (∀ p ∈ c.ext, p.1 ≠ tbl ∧ p.1 ≠ I3 ∧ ∀ q ∈ B2, @LT.lt Nat _ q.1 p.1) ∧ c.S.T.length ≤ base + j ∧ c.S = dueT half k m R cls S0 j
theorem ints4 {us : List Value} {a b c d : Int} (h : IntsAre us [a, b, c, d]) : ∃ ta tb tc td, us = [.int a ta, .int b tb, .int c tc, .int d td] := by
  cases h with | cons _ ta h => cases h with | cons _ tb h => cases h with | cons _ tc h => cases h with | cons _ td h => cases h with | nil => exact ⟨ta, tb, tc, td, rfl⟩
theorem ints2' {us : List Value} {t : List Int} (h : IntsAre us t) (h2 : t.length = 2) : ∃ a b ta tb, t = [a, b] ∧ us = [.int a ta, .int b tb] := by
  cases h with
  | nil => cases h2
  | cons a ta h =>
    cases h with
    | nil => cases h2
    | cons b tb h =>
      cases h with
      | nil => exact ⟨a, b, ta, tb, rfl, rfl⟩
      | cons _ _ _ => simp at h2
theorem dget_mem {T : List (Int × List Int)} {k : Int} {t : List Int} (h : dget T k = some t) : ∃ x ∈ T, x.2 = t := by
  unfold dget at h
  cases hf : T.find? (fun q => q.1 = k) with
  | none => rw [hf] at h; cases h
  | some q => rw [hf] at h; exact ⟨q, List.mem_of_find?_eq_some hf, Option.some.inj h⟩
theorem tblGet {w : World} {A : Around} {E : Value → Shared → Prop} {s : Shared} {h₀ : Heap} {L D T0 : Addr} {l : Led} {o : Obj} {kvs : List (Int × Value)} {T : List (Int × List Int)} {t : Int} {tt a b : Tok} {Q : Value → Shared → Prop} (N : News h₀ L s.heap ((T0, tupO [.int 0 a, .int 0 b] 0) :: l)) (hp : (D, o) ∈ l) (hd : o.IsDictOf (KI w) kvs) (lo : (D == sysModules) = false) (hD : DItems l kvs T) (h2 : ∀ x ∈ T, x.2.length = 2)
    (h : ∀ oa p q t1 t2 k, (oa, tupO [.int p t1, .int q t2] k) ∈ (T0, tupO [.int 0 a, .int 0 b] 0) :: l → (dget T t).getD [0, 0] = [p, q] → Q (.ref oa) { s with toks := s.toks + 1 }) : wpAny (model PySem.Challenge.rw_pg0199_01.row.prog w) A (call (.builtin "dict.get") [.ref D, .int t tt, .ref T0]) Q E s :=
  kdg_get2 (knd := PySem.intKind _ _) N (.tail _ hp) hd lo (intKind_is _ _ _ _) _ rfl (by
    rcases hD.get t with ⟨e1, e2⟩ | ⟨x, v, e1, e2, oa, us, k, rfl, m, i⟩
    · rw [e2]
      exact h T0 0 0 a b 0 (.head _) (by rw [e1]; rfl)
    · rw [e2]
      obtain ⟨y, hy, rfl⟩ := dget_mem e1
      obtain ⟨p, q, t1, t2, e3, rfl⟩ := ints2' i (h2 y hy)
      exact h oa p q t1 t2 k (.tail _ m) (by rw [e1]; exact e3))
noncomputable def MJoin (k many : Int) (s : Shared) (v : Value) (s' : Shared) : Prop := ∃ t tk, v = .int (if k = 1 then many else 0) t ∧ s' = { s with toks := tk }
theorem mjIf {M : Model} {A : Around} {E : Value → Shared → Prop} {e : PySem.Expr} {env : Env} {Q : Value → Shared → Prop} {s : Shared} (k many : Int)
    (h1 : wpAny M A (eval e env) (MJoin k many s) E s) (h2 : ∀ t tk, Q (.int (if k = 1 then many else 0) t) { s with toks := tk }) : wpAny M A (eval e env) Q E s :=
  wpAny_mono h1 (fun v s' ⟨t, tk, e1, e2⟩ => by rw [e1, e2]; exact h2 t tk) fun _ _ x => x
theorem rot5 {h₀ h : Heap} {L : Addr} {a b c d z : Addr × Obj} {r : Led} (N : News h₀ L h (a :: b :: c :: d :: z :: r)) : News h₀ L h (z :: a :: b :: c :: d :: r) := fun q hq => N q (by
  simp only [List.mem_cons] at hq ⊢
  rcases hq with e | e | e | e | e | e <;> simp [e])
theorem tEnd1 {w : World} {h₀ h' : Heap} {L tbl I3 I4 I5 T8 T7 T0 : Addr} {s₁ : Shared} {tk : Nat} {to0 to' o8 o7 o0 it3 it4 it5 : Obj} {ext B2 B3 : Led} {base j : Nat} {half k m : Int} {R cls : List (List Int)} {S0 S : DSt} {tk' : List (Int × Value)} {m' m₀ : Str → Option Value} {stored : List Str}
    (N : News h₀ L h' ((T8, o8) :: (tbl, to') :: (T7, o7) :: (T0, o0) :: (I4, it4) :: (I5, it5) :: (ext ++ B3))) (F : Fr h₀ L h' m') (hz : ∀ z, z ≠ Str.ofString "sums" → stored.contains z = false → m' z = m₀ z) (hs : m' (Str.ofString "sums") = some (.ref T8))
    (hT : to'.IsDictOf (KI w) tk') (hD : DItems ((T8, o8) :: (T7, o7) :: (T0, o0) :: ext) tk' S.T) (h2 : ∀ x ∈ S.T, x.2.length = 2) (hS : HItem [(T8, o8)] (.ref T8) [S.s1, S.s2, S.s3, S.s4])
    (hE : ∀ p ∈ ext, p.1 ≠ tbl ∧ p.1 ≠ I3 ∧ ∀ q ∈ B2, @LT.lt Nat _ q.1 p.1) (l8 : AllLt T8 (ext ++ B3)) (l7 : AllLt T7 (ext ++ B3)) (l0 : AllLt T0 (ext ++ B3)) (b8 : @LT.lt Nat _ tbl T8) (b7 : @LT.lt Nat _ tbl T7) (b0 : @LT.lt Nat _ tbl T0)
    (c8 : @LT.lt Nat _ I4 T8) (c7 : @LT.lt Nat _ I4 T7) (c0 : @LT.lt Nat _ I4 T0) (d8 : @LT.lt Nat _ I5 T8) (d7 : @LT.lt Nat _ I5 T7) (d0 : @LT.lt Nat _ I5 T0) (hof : ∀ p ∈ (tbl, to0) :: (ext ++ B3), p.1 ≠ I4 ∧ p.1 ≠ I5) (hB3 : B3 = (I3, it3) :: B2) (hL : S.T.length ≤ base + (j + 1)) (hU : S = dueT half k m R cls S0 (j + 1)) :
    ForEnd2 h₀ L s₁ (fun c : KSt => (tbl, c.to) :: (c.ext ++ B3)) (fun c => [(Str.ofString "sums", .ref c.sm)]) stored m₀ I4 it4 I5 it5 (TInv w tbl I3 B2 B3 base half k m R cls S0 (j + 1)) { s₁ with heap := h', toks := tk } := by
  have nw : ∀ T : Addr, AllLt T (ext ++ B3) → @LT.lt Nat _ tbl T → T ≠ tbl ∧ T ≠ I3 ∧ ∀ q ∈ B2, @LT.lt Nat _ q.1 T := fun T l b => ⟨Nat.ne_of_gt b, Nat.ne_of_gt (tb_ltOf l (I3, it3) (List.mem_append_right _ (hB3 ▸ .head _))), fun q hq => tb_ltOf l q (List.mem_append_right _ (hB3 ▸ .tail _ hq))⟩
  refine ⟨⟨tk', to', T8, (T8, o8) :: (T7, o7) :: (T0, o0) :: ext, S⟩, h', tk, m', _, rfl, F, N, .tail _ (.tail _ (.tail _ (.tail _ (.head _)))), .tail _ (.tail _ (.tail _ (.tail _ (.tail _ (.head _))))), fun p hp => ?_, fun p hp => ?_, List.forall_mem_cons.mpr ⟨hs, List.forall_mem_nil _⟩, fun z h1 h3 => hz z (h1 _ (.head _)) h3, hT, hD, h2, hS.mono fun p hp => List.mem_singleton.mp hp ▸ .head _, List.forall_mem_cons.mpr ⟨nw T8 l8 b8, List.forall_mem_cons.mpr ⟨nw T7 l7 b7, List.forall_mem_cons.mpr ⟨nw T0 l0 b0, hE⟩⟩⟩, hL, hU⟩
  · simp only [List.cons_append, List.mem_cons, List.mem_append] at hp ⊢
    rcases hp with e | e | e | e | e | e <;> simp [e]
  · simp only [List.cons_append, List.mem_cons] at hp
    rcases hp with rfl | rfl | rfl | rfl | hp
    · exact hof (tbl, to0) (.head _)
    · exact ⟨Nat.ne_of_gt c8, Nat.ne_of_gt d8⟩
    · exact ⟨Nat.ne_of_gt c7, Nat.ne_of_gt d7⟩
    · exact ⟨Nat.ne_of_gt c0, Nat.ne_of_gt d0⟩
    · exact hof p (.tail _ hp)
theorem duPE {h₀ h : Heap} {L : Addr} {x1 x2 x3 l a i d : Addr × Obj} {E3 TA TB E2 E1 news : Led} (N : News h₀ L h (x1 :: x2 :: x3 :: (E3 ++ (l :: (TA ++ (TB ++ (E2 ++ (a :: i :: d :: (E1 ++ news))))))))) : News h₀ L h (d :: a :: i :: (TA ++ (TB ++ (((x1 :: x2 :: x3 :: E3) ++ (l :: (E2 ++ E1))) ++ news)))) := fun p hp => N p (by
  simp only [List.cons_append, List.mem_cons, List.mem_append] at hp ⊢
  rcases hp with e | e | e | e | e | e | e | e | (e | e | e | e) | e <;> simp [e])
theorem duPE0 {h₀ h : Heap} {L : Addr} {x3 l a i d : Addr × Obj} {E3 TA TB E2 E1 news : Led} (N : News h₀ L h (x3 :: (E3 ++ (l :: (TA ++ (TB ++ (E2 ++ (a :: i :: d :: (E1 ++ news))))))))) : News h₀ L h (d :: a :: i :: (TA ++ (TB ++ (((x3 :: E3) ++ (l :: (E2 ++ E1))) ++ news)))) := fun p hp => N p (by
  simp only [List.cons_append, List.mem_cons, List.mem_append] at hp ⊢
  rcases hp with e | e | e | e | e | e | (e | e | e | e) | e <;> simp [e])
theorem hX3of {D9 T9 tbl ln : Addr} {o9 o8 o7 : Obj} {E3 : Led} (h1 : @LT.lt Nat _ ln D9) (h2 : @LT.lt Nat _ ln T9) (h3 : @LT.lt Nat _ ln tbl) (h4 : ∀ p ∈ E3, @LT.lt Nat _ ln p.1) : ∀ p ∈ (D9, o9) :: (T9, o8) :: (tbl, o7) :: E3, @LT.lt Nat _ ln p.1 := List.forall_mem_cons.mpr ⟨h1, List.forall_mem_cons.mpr ⟨h2, List.forall_mem_cons.mpr ⟨h3, h4⟩⟩⟩
theorem duOffs {rt du ln : Addr} {o : Obj} {X E2 E1 news TA TB : Led} {h₀ h : Heap} {L : Addr} {d a i : Addr × Obj} (_ : News h₀ L h (d :: a :: i :: (TA ++ (TB ++ ((X ++ ((ln, o) :: (E2 ++ E1))) ++ news))))) (h1 : @LT.lt Nat _ rt ln) (h2 : @LT.lt Nat _ du ln) (h3 : @LT.lt Nat _ 30 ln) (h4 : @LT.lt Nat _ 37 ln) (hX : ∀ p ∈ X, @LT.lt Nat _ ln p.1) (hJ : ∀ p ∈ E2, @LT.lt Nat _ ln p.1) (hO : ∀ p ∈ E1 ++ news, DOff rt du p) : ∀ p ∈ (X ++ ((ln, o) :: (E2 ++ E1))) ++ news, DOff rt du p := fun p hp => by
  have key : @LE.le Nat _ ln p.1 → DOff rt du p := fun hl => ⟨Nat.ne_of_gt (Nat.lt_of_lt_of_le h1 hl), Nat.ne_of_gt (Nat.lt_of_lt_of_le h2 hl), Nat.ne_of_gt (Nat.lt_of_lt_of_le h3 hl), Nat.ne_of_gt (Nat.lt_of_lt_of_le h4 hl)⟩
  simp only [List.mem_cons, List.mem_append] at hp
  rcases hp with (e | rfl | e | e) | e
  · exact key (Nat.le_of_lt (hX p e))
  · exact key (Nat.le_refl _)
  · exact key (Nat.le_of_lt (hJ p e))
  · exact hO p (List.mem_append_left _ e)
  · exact hO p (List.mem_append_right _ e)
theorem duOffI {I ln : Addr} {o : Obj} {X E2 E1 news TA TB : Led} {h₀ h : Heap} {L : Addr} {d a i : Addr × Obj} (_ : News h₀ L h (d :: a :: i :: (TA ++ (TB ++ ((X ++ ((ln, o) :: (E2 ++ E1))) ++ news))))) (h1 : @LT.lt Nat _ I ln) (hX : ∀ p ∈ X, @LT.lt Nat _ ln p.1) (hJ : ∀ p ∈ E2, @LT.lt Nat _ ln p.1) (hO : ∀ p ∈ E1 ++ news, p.1 ≠ I) : ∀ p ∈ (X ++ ((ln, o) :: (E2 ++ E1))) ++ news, p.1 ≠ I := fun p hp => by
  simp only [List.mem_cons, List.mem_append] at hp
  rcases hp with (e | rfl | e | e) | e
  · exact Nat.ne_of_gt (Nat.lt_trans h1 (hX p e))
  · exact Nat.ne_of_gt h1
  · exact Nat.ne_of_gt (Nat.lt_trans h1 (hJ p e))
  · exact hO p (List.mem_append_left _ e)
  · exact hO p (List.mem_append_right _ e)
theorem duEnd {w : World} {h₀ h' : Heap} {L rt du I : Addr} {s₁ : Shared} {tk : Nat} {dO' ro' it : Obj} {TA TB E news : Led} {rk' dk' : List (Int × Value)} {U : DuSt} {half d : Int} {cls : List (List Int)} {tf : Int → Int} {i : Nat} {m' m₀ : Str → Option Value} {x : Str} {stored : List Str}
    (N : News h₀ L h' ((du, dO') :: (rt, ro') :: (I, it) :: (TA ++ (TB ++ (E ++ news))))) (F : Fr h₀ L h' m') (hz : ∀ z, z ≠ x → stored.contains z = false → m' z = m₀ z) (hA : Tab 30 32 4 qI2D TA) (hB : Tab 37 47 4 qD2I TB) (hR : ro'.IsDictOf (KI w) rk') (hD : dO'.IsDictOf (KI w) dk')
    (hKR : KItems (RItem (E ++ news)) rk' U.roots) (hKD : KItems (EItem w (E ++ news)) dk' U.due) (hO : ∀ p ∈ E ++ news, DOff rt du p) (hI : RgIt it) (hIE : ∀ p ∈ E ++ news, p.1 ≠ I) (hrI : rt ≠ I) (hdI : du ≠ I) (hLR : U.roots.length ≤ i + 1) (hLD : U.due.length ≤ i + 1) (hU : dueN half d cls tf (i + 1) = some U) :
    ForEnd h₀ L s₁ (duLed news rt du) (fun _ => []) x stored m₀ I it (DuInv w news rt du half d cls tf (i + 1)) { s₁ with heap := h', toks := tk } := by
  refine ForEnd.intro ⟨rk', ro', dk', dO', TA, TB, E, U⟩ F N (.tail _ (.tail _ (.head _))) (fun p hp => ?_) (fun p hp => ?_) (List.forall_mem_nil _) (fun z h1 _ h3 => hz z h1 h3) ⟨hA, hB, hR, hD, hKR, hKD, hO, hLR, hLD, hU⟩
  · simp only [duLed, List.mem_cons, List.mem_append] at hp ⊢
    rcases hp with e | e | e | e | e | e <;> simp [e]
  · simp only [duLed, List.mem_cons] at hp
    rcases hp with rfl | rfl | hp
    · exact hrI
    · exact hdI
    · rcases List.mem_append.mp hp with hp | hp
      · exact hA.offI N (fun q hq => .tail _ (.tail _ (.tail _ (List.mem_append_left _ hq)))) (.tail _ (.tail _ (.head _))) hI p hp
      · rcases List.mem_append.mp hp with hp | hp
        · exact hB.offI N (fun q hq => .tail _ (.tail _ (.tail _ (List.mem_append_right _ (List.mem_append_left _ hq))))) (.tail _ (.tail _ (.head _))) hI p hp
        · exact hIE p hp
theorem swp {h₀ h : Heap} {L : Addr} {a b : Addr × Obj} {l : Led} (N : News h₀ L h (a :: b :: l)) : News h₀ L h (b :: a :: l) := rot2 N
theorem dueN_step {half d : Int} {cls : List (List Int)} {tf : Int → Int} {i : Nat} {s : DuSt} {R : List (List Int)} {e : DSt} (h1 : dueN half d cls tf i = some s) (h2 : rootsB d (1 + (i : Int)) (tf (1 + (i : Int))) (2 * (i + 1)) = some R) (h3 : dueK half (1 + (i : Int)) (gput s.roots (1 + (i : Int)) R) cls 3 = some e) :
    dueN half d cls tf (i + 1) = some ⟨gput s.roots (1 + (i : Int)) R, if e.s2 > 0 then gput s.due (1 + (i : Int)) ⟨e.s1, e.s2, e.s3, e.s4, e.T⟩ else s.due⟩ := by rw [dueN, h1]; simp only [h2, h3]
theorem newsCut {h₀ h : Heap} {L : Addr} {d a i : Addr × Obj} {l : Led} (N : News h₀ L h (d :: a :: i :: l)) : News h₀ L h (a :: d :: l) := fun p hp => N p (by
  simp only [List.mem_cons] at hp ⊢
  rcases hp with e | e | e <;> simp [e])
theorem dput_two {T : List (Int × List Int)} {k p q : Int} (h : ∀ x ∈ T, x.2.length = 2) : ∀ x ∈ dput T k [p, q], x.2.length = 2 := by
  intro x hx
  unfold dput at hx
  split at hx
  · obtain ⟨y, hy, rfl⟩ := List.mem_map.mp hx
    split
    · rfl
    · exact h y hy
  · rcases List.mem_append.mp hx with hx | hx
    · exact h x hx
    · rw [List.mem_singleton.mp hx]; rfl
theorem dput_length {T : List (Int × List Int)} {k : Int} {t : List Int} : (dput T k t).length ≤ T.length + 1 := by
  unfold dput
  split
  · rw [List.length_map]; exact Nat.le_succ _
  · rw [List.length_append]; exact Nat.le_refl _
theorem mE1 {X E2 E1 news : Led} {l : Addr × Obj} : ∀ p ∈ E1 ++ news, p ∈ (X ++ (l :: (E2 ++ E1))) ++ news := fun p hp => (List.mem_append.mp hp).elim (fun h => List.mem_append_left _ (List.mem_append_right _ (.tail _ (List.mem_append_right _ h)))) fun h => List.mem_append_right _ h
theorem mE2 {X E2 E1 news : Led} {l : Addr × Obj} : ∀ p ∈ E2, p ∈ (X ++ (l :: (E2 ++ E1))) ++ news := fun _ hp => List.mem_append_left _ (List.mem_append_right _ (.tail _ (List.mem_append_left _ hp)))
theorem mEX {X E2 E1 news : Led} {l : Addr × Obj} : ∀ p ∈ X, p ∈ (X ++ (l :: (E2 ++ E1))) ++ news := fun _ hp => List.mem_append_left _ (List.mem_append_left _ hp)
theorem mEl {X E2 E1 news : Led} {l : Addr × Obj} : l ∈ (X ++ (l :: (E2 ++ E1))) ++ news := List.mem_append_left _ (List.mem_append_right _ (.head _))
theorem duRoots {X E2 E1 news : Led} {ln : Addr} {vs : List Value} {e : Nat} {rk : List (Int × Value)} {D : List (Int × List (List Int))} {n : Int} {R : List (List Int)} (h : KItems (RItem (E1 ++ news)) rk D) (hH : HItems E2 vs R) : KItems (RItem ((X ++ ((ln, W.listOf vs.toArray e) :: (E2 ++ E1))) ++ news)) (stored rk n (.ref ln)) (gput D n R) :=
  (h.mono fun _ _ h => h.mono mE1).put ⟨ln, vs, e, rfl, mEl, hH.mono mE2⟩
theorem due_ok : ∀ (w : World) (TA TB news : Led) (ca : Addr) (cvs : List Value) (ce : Nat) (cls : List (List Int)) (ta : Addr) (tvs : List Value) (te : Nat) (turns : List Int) (d : Int) (bound : Nat) (td tb : Tok) (Z : DuSt), Tab 30 32 4 qI2D TA → Tab 37 47 4 qD2I TB → (∀ p ∈ news, p.1 ≠ 30) → (∀ p ∈ news, p.1 ≠ 37) → (ca, W.listOf cvs.toArray ce) ∈ news → HItems news cvs cls → (∀ t ∈ cls, t.length = 3) → cls.length ≤ 100 →
    (ta, W.listOf tvs.toArray te) ∈ news → IntsAre tvs turns → 0 < turns.length → turns.length ≤ 1000 → (∀ x ∈ turns, -8 < x ∧ x < 8) → bound ≤ 20 → dueF cls d bound turns = some Z →
    Ok w 138 [.ref ca, .int d td, .int (bound : Int) tb, .ref ta] 240 2500 (TA ++ (TB ++ news)) (fun r ne => ∃ bk bo kvs A' B' ext, r = .ref bk ∧ ne = (bk, bo) :: (A' ++ (B' ++ (ext ++ news))) ∧ Tab 30 32 4 qI2D A' ∧ Tab 37 47 4 qD2I B' ∧ bo.IsDictOf (KI w) kvs ∧ (bk == sysModules) = false ∧ KItems (EItem w (ext ++ news)) kvs Z.due) := by
  k_with_none
  unfold Ok
  w_top off
  k_fill
  intro w TA TB news ca cvs ce cls ta tvs te turns d bound td tb Z hTA hTB h30 h37 hca hcl hc3 hclen hta htv htl htl2 htb hbd hZ mean mg mb dp un gd cn cs a ccd cl outer A₀ base h₀ L m s Q E Bw F X N Tp hk hd hu hret
  k_with "exec For Name Call cons nil" => kpr_for
  k_with "call builtin:dict.get" =>
    k_here
    (with_reducible show wpAny _ _ (call _ [Value.ref _, Value.int d _, Value.int 1 _]) _ _ _)
    rename News _ _ _ _ => lN
    rename Obj.IsDictOf (PySem.intKind _ _) _ _ => lD
    k_dflt (refine' halfGet lN lD ?zq1 ?_; (case zq1 => assumption))
    intro th
    (try dsimp only)
  k_with "pyIter ref" =>
    k_here
    rename Fr _ _ _ _ => lF'
    rename News _ _ _ _ => lN'
    rename IsRange _ _ 1 ((bound : Int) + 1) _ _ _ _ => lR
    obtain ⟨du, hdu⟩ := nameHead lN'
    subst hdu
    obtain ⟨oD, hoD⟩ := nameObj lN'
    subst hoD
    have lN'' := newsTail lN'
    obtain ⟨rt, hrt⟩ := nameHead lN''
    subst hrt
    obtain ⟨oR, hoR⟩ := nameObj lN''
    subst hoR
    have hRo : oR.IsDictOf (KI w) [] := by assumption
    have hDo : oD.IsDictOf (KI w) [] := by assumption
    rename AllLt rt _ => lRt
    rename AllLt du _ => lDu
    have ltRD : @LT.lt Nat _ rt du := by assumption
    have hdr : du ≠ rt := Nat.ne_of_gt ltRD
    have loR : (rt == sysModules) = false := by assumption
    have h30rt : @LT.lt Nat _ 30 rt := let ⟨_, ho⟩ := hTA.at; tb_ltOf lRt _ (List.mem_append_left _ ho)
    have h37rt : @LT.lt Nat _ 37 rt := let ⟨_, ho⟩ := hTB.at; tb_ltOf lRt _ (List.mem_append_right _ (List.mem_append_left _ ho))
    have h30du : @LT.lt Nat _ 30 du := Nat.lt_trans h30rt ltRD
    have h37du : @LT.lt Nat _ 37 du := Nat.lt_trans h37rt ltRD
    have loD : (du == sysModules) = false := by assumption
    k_dflt (refine' forRangeQ (σ := DuW) (n := bound) (duLed news rt du) (fun _ => []) [Str.ofString "b", Str.ofString "moved", Str.ofString "c", Str.ofString "sums", Str.ofString "table", Str.ofString "k", Str.ofString "m", Str.ofString "t", Str.ofString "form", Str.ofString "many", Str.ofString "alone", Str.ofString "old"] (DuInv w news rt du (halfF d) d cls (tfF turns)) ⟨[], oR, [], oD, TA, TB, [], ⟨[], []⟩⟩ ?zqh lR (du_small bound hbd) (du_size bound hbd) lF' (duP0 lN') (List.forall_mem_nil _) ⟨hTA, hTB, hRo, hDo, .nil, .nil, ?zqo, Nat.le_refl _, Nat.le_refl _, rfl⟩ ?_ ?_; (case zqh => rfl); (case zqo => exact fun p hp => ⟨Nat.ne_of_lt (tb_ltOf lRt p (List.mem_append_right _ (List.mem_append_right _ hp))), Nat.ne_of_lt (tb_ltOf lDu p (List.mem_append_right _ (List.mem_append_right _ hp))), h30 p hp, h37 p hp⟩))
    k_dflt (
      intro i tok c I it u h tk Qp1 hQ1 hi hInv hic hlI hof fF fN
      dsimp only [duLed, kstB] at fF fN hof hlI
      obtain ⟨iA, iB, iR, iD, iKR, iKD, iO, iLR, iLD, iU⟩ := hInv
      obtain ⟨Z', hZ'⟩ := dueN_pre (j := i + 1) hi hZ
      obtain ⟨U0, R, eK, hU0, hRts, hK, hS⟩ := dueN_some hZ'
      rw [iU] at hU0
      obtain rfl := Option.some.inj hU0
      have ltRI : @LT.lt Nat _ rt I := hlI _ (.head _)
      obtain ⟨cA, cB⟩ := duCore (newsTail fN) iA iB iR iD
      have htv1 := turn_at htv htl (1 + (i : Int))
      obtain ⟨ht0, ht1, tt, htt⟩ := htv1
      have htl0 : (turns.length : Int) ≠ 0 := by omega
        )
    rotate_left
    intro c u h tk hInv fF fN
    rotate_right
  k_with "setItem ref int" =>
    k_here
    (with_reducible show wpAny _ _ (setItem (Value.ref rt) _ (Value.ref _)) _ _ _)
    rename Fr _ _ _ _ => lF
    rename News _ _ _ _ => lN
    obtain ⟨ln, hln⟩ := nameHead lN
    subst hln
    rename AllLt ln _ => lLn
    have lIl : @LT.lt Nat _ I ln := by assumption
    have lRl : @LT.lt Nat _ rt ln := by assumption
    have lDl : @LT.lt Nat _ du ln := by assumption
    have lKR := iKR.length
    k_dflt (refine' dset lF (rot3 lN) ?zq1 iR ?zq2 ?_; (case zq2 => omega); (case zq1 => exact List.forall_mem_cons.mpr ⟨Nat.ne_of_gt lRl, List.forall_mem_cons.mpr ⟨fun e => hof _ (.head _) e.symm, List.forall_mem_cons.mpr ⟨hdr, fun p hp => (List.mem_append.mp hp).elim (fun h => (cA p h).1) fun hp => (List.mem_append.mp hp).elim (fun h => (cB p h).1) fun h => (iO p h).1⟩⟩⟩))
    intro h' ro' F' N' hR'
    (try dsimp only)
  k_with "pyIter ref" =>
    k_here
    rename IsRange _ _ 0 (2 * (1 + (i : Int))) _ _ _ _ => lR
    rename Fr _ _ _ _ => lF'
    rename News _ _ _ _ => lN'
    obtain ⟨B1, hB1⟩ : ∃ B1 : Led, B1 = (rt, ro') :: (I, it) :: (du, c.dO) :: (c.ext ++ news) := ⟨_, rfl⟩
    obtain ⟨rk1, hrk1⟩ : ∃ rk1 : List (Int × Value), rk1 = stored c.rk (1 + (i : Int)) (.ref ln) := ⟨_, rfl⟩
    k_dflt (
      have lN1 := duP1 lN'
      rw [← hB1] at lN1
      rw [← hrk1] at hR'
      have mR1 : (rt, ro') ∈ B1 := hB1 ▸ .head _
      have mT1 : (ta, W.listOf tvs.toArray te) ∈ B1 := hB1 ▸ .tail _ (.tail _ (.tail _ (List.mem_append_right _ hta)))
      have o30 : ∀ p ∈ B1, p.1 ≠ 30 := hB1 ▸ List.forall_mem_cons.mpr ⟨Nat.ne_of_gt h30rt, List.forall_mem_cons.mpr ⟨Nat.ne_of_gt (Nat.lt_trans h30rt ltRI), List.forall_mem_cons.mpr ⟨Nat.ne_of_gt h30du, fun p hp => (iO p hp).2.2.1⟩⟩⟩
      have o37 : ∀ p ∈ B1, p.1 ≠ 37 := hB1 ▸ List.forall_mem_cons.mpr ⟨Nat.ne_of_gt h37rt, List.forall_mem_cons.mpr ⟨Nat.ne_of_gt (Nat.lt_trans h37rt ltRI), List.forall_mem_cons.mpr ⟨Nat.ne_of_gt h37du, fun p hp => (iO p hp).2.2.2⟩⟩⟩
      have oln : ∀ p ∈ B1, @LT.lt Nat _ p.1 ln := hB1 ▸ List.forall_mem_cons.mpr ⟨lRl, List.forall_mem_cons.mpr ⟨lIl, List.forall_mem_cons.mpr ⟨lDl, fun p hp => tb_ltOf lLn p (List.mem_append_right _ (List.mem_append_right _ hp))⟩⟩⟩
      have vat1 : valueAt rk1 (1 + (i : Int)) = some (.ref ln) := hrk1 ▸ stored_at _ _ _
      have h30ln : @LT.lt Nat _ 30 ln := Nat.lt_trans h30rt lRl
      have h37ln : @LT.lt Nat _ 37 ln := Nat.lt_trans h37rt lRl
      refine' forRangeQ (σ := BSt) (n := 2 * (i + 1)) (bLed ln B1) (fun _ => []) [Str.ofString "moved", Str.ofString "c"] (BInv ln B1 d (1 + (i : Int)) (tfF turns (1 + (i : Int)))) ⟨[], 0, c.TA, c.TB, []⟩ ?zqh lR ?zq1 ?zq2 lF' lN1 (List.forall_mem_nil _) ⟨iA, iB, ⟨[], rfl, .nil⟩, Nat.le_refl _, List.forall_mem_nil _⟩ ?_ ?_
      (case zqh => rfl)
      (case zq1 => exact b_small i (Nat.lt_of_lt_of_le hi hbd))
      (case zq2 => exact b_size i (Nat.lt_of_lt_of_le hi hbd))
      )
    k_dflt (
      intro j tokj c2 I2 it2 u2 h2 tk2 Qp2 hQ2 hj hInv2 hic2 hlI2 hof2 fF2 fN2
      dsimp only [bLed, kstB] at fF2 fN2 hof2 hlI2
      obtain ⟨jA, jB, ⟨acc, hacc, jH⟩, jL, jE⟩ := hInv2
      obtain ⟨R2, hR2⟩ := rootsB_pre (j := j + 1) hj hRts
      obtain ⟨acc', hacc', hyes, hno⟩ := rootsB_some hR2
      rw [hacc] at hacc'
      obtain rfl := Option.some.inj hacc'
      have mT2 : (ta, W.listOf tvs.toArray te) ∈ c2.TA ++ (c2.TB ++ (c2.ext ++ B1)) := List.mem_append_right _ (List.mem_append_right _ (List.mem_append_right _ mT1))
      have mR2 : (rt, ro') ∈ c2.TA ++ (c2.TB ++ (c2.ext ++ B1)) := List.mem_append_right _ (List.mem_append_right _ (List.mem_append_right _ mR1))
      have hlnI : (ln : Addr) ≠ I2 := hof2 _ (.head _)
      obtain ⟨hmv1, hmv2⟩ := mv_sm (Nat.lt_of_lt_of_le hi hbd) hj (tf_sm htb (1 + (i : Int)))
      have llnI : @LT.lt Nat _ ln I2 := hlI2 _ (.head _)
      )
    rotate_left
    k_dflt (
      intro c2 u2 h2 tk2 hInv2 fF2 fN2
      dsimp only [bLed, kstB] at fF2 fN2
      obtain ⟨jA, jB, ⟨R', hRe, jH⟩, jL, jE⟩ := hInv2
      rw [hRts] at hRe
      obtain rfl := Option.some.inj hRe
      )
    rotate_right
  k_with "call builtin:len" =>
    k_here
    (with_reducible show wpAny _ _ (call (Value.builtin _) [Value.ref ta]) _ _ _)
    rename News _ _ _ _ => lN
    k_dflt (refine' KM.len_K (n := turns.length) lN (.tail _ (.tail _ mT2)) ?zq1 ?zq2 ?_; (case zq1 => exact List.size_toArray.trans htv.length); (case zq2 => omega))
  k_with "subscriptTail" =>
    k_here
    (with_reducible show wpAny _ _ (subscriptTail _ _ (Value.ref ta) (Value.int _ _)) _ _ _)
    rename News _ _ _ _ => lN
    k_dflt (refine' lget lN (.tail _ (.tail _ mT2)) ht0 ?zq1 htt ?_; (case zq1 => omega))
  k_with "call ref" =>
    k_here
    (with_reducible show wpAny _ _ (call (Value.ref 112) _) _ _ _)
    rename News _ _ _ _ => lN
    k_dflt (refine' Ok.use (measure_ok w _ _ _ _ _) ?zqB ?zqF ?zqX lN ?zqT ?zqk ?zqd ?zqu ?_; (case zqB => k_asm); (case zqF => k_asm); (case zqX => k_asm); (case zqT => k_asm); (case zqk => exact rfl); (case zqd => first | exact zA hd rfl | exact zB hd rfl | ktr_room); (case zqu => first | exact zA hu rfl | exact zB hu rfl | ktr_units))
    intro r1 ne1 h1 tk1 hR F1 N1
    obtain ⟨hne1, tr1, hr1⟩ := hR
    subst hr1
    rw [hne1] at N1
    clear hne1
    (try dsimp only)
    (try k_fold)
  k_with "subscriptTail" =>
    k_here
    (with_reducible show wpAny _ _ (subscriptTail _ _ (Value.ref rt) (Value.int (1 + (i : Int)) _)) _ _ _)
    rename News _ _ _ ((_, _) :: (ln, _) :: _) => lN
    k_dflt (refine' kda_item (knd := PySem.intKind _ _) lN (.tail _ (.tail _ mR2)) hR' (intKind_is _ _ _ _) vat1 ?_)
  k_with "call ref" =>
    k_here
    (with_reducible show wpAny _ _ (call (Value.ref 126) _) _ _ _)
    rename News _ _ _ _ => lN
    k_dflt (
      obtain ⟨x9, y9, z9, hred, hR2'⟩ := hyes ⟨by assumption, by assumption⟩
      refine' Ok.use (red_ok w c2.TA c2.TB _ 200 _ _ _ x9 y9 z9 _ _ _ hred jA jB ?zq5 ?zq6) ?zqB ?zqF ?zqX (bPerm lN) ?zqT ?zqk ?zqd ?zqu ?_; (case zqB => k_asm); (case zqF => k_asm); (case zqX => k_asm); (case zqT => k_asm); (case zqk => exact rfl); (case zqd => first | exact zA hd rfl | exact zB hd rfl | ktr_room); (case zqu => first | exact zA hu rfl | exact zB hu rfl | ktr_units); (case zq5 => exact List.forall_mem_cons.mpr ⟨Nat.ne_of_gt (Nat.lt_trans h30ln llnI), List.forall_mem_cons.mpr ⟨Nat.ne_of_gt h30ln, fun p hp => (List.mem_append.mp hp).elim (fun h => (jE p h).2.2.1) (o30 p)⟩⟩); (case zq6 => exact List.forall_mem_cons.mpr ⟨Nat.ne_of_gt (Nat.lt_trans h37ln llnI), List.forall_mem_cons.mpr ⟨Nat.ne_of_gt h37ln, fun p hp => (List.mem_append.mp hp).elim (fun h => (jE p h).2.2.2) (o37 p)⟩⟩))
    intro r1 ne1 h1 tk1 hR F1 N1
    obtain ⟨D9, t91, t92, t93, A9, B9, hr1, hne1, hA9, hB9, hlt9⟩ := hR
    subst hr1
    rw [hne1] at N1
    clear hne1
    (try dsimp only)
    (try k_fold)
  k_with "call builtin:list.append" =>
    k_here
    (with_reducible show wpAny _ _ (call _ (Value.ref ln :: _)) _ _ _)
    rename Fr _ _ _ _ => lF
    rename News _ _ _ _ => lN
    k_dflt (
      have a9 := hA9.offL (lh := ln) lN (fun p hp => .tail _ (List.mem_append_left _ hp)) (.tail _ (List.mem_append_right _ (List.mem_append_right _ (.tail _ (.head _)))))
      have b9 := hB9.offL (lh := ln) lN (fun p hp => .tail _ (List.mem_append_right _ (List.mem_append_left _ hp))) (.tail _ (List.mem_append_right _ (List.mem_append_right _ (.tail _ (.head _)))))
      have n9 := tb_ltOf hlt9
      have lnD9 : @LT.lt Nat _ ln D9 := n9 _ (List.mem_append_right _ (List.mem_append_right _ (.tail _ (.head _))))
      refine' lapp lF (bPerm2 lN) ?zq1 ?zq2 ?_; (case zq2 => omega); (case zq1 => exact List.forall_mem_cons.mpr ⟨Nat.ne_of_gt lnD9, List.forall_mem_cons.mpr ⟨hlnI.symm, fun p hp => (List.mem_append.mp hp).elim (a9 p) fun hp => (List.mem_append.mp hp).elim (b9 p) fun hp => (List.mem_append.mp hp).elim (fun h => Nat.ne_of_gt (jE p h).1) fun h => Nat.ne_of_lt (oln p h)⟩⟩))
    intro h' F' N'
    (try dsimp only)
  k_with "pyIter ref" =>
    k_here
    rename IsRange _ _ 1 4 _ _ _ _ => lR
    rename Fr _ _ _ _ => lF'
    rename News _ _ _ _ => lN'
    obtain ⟨tbl, hq⟩ := nameHead lN'
    subst hq
    obtain ⟨oT, hq⟩ := nameObj lN'
    subst hq
    obtain ⟨smA, hq⟩ := nameHead (newsTail lN')
    subst hq
    have hTo : oT.IsDictOf (KI w) [] := by assumption
    have loT : (tbl == sysModules) = false := by assumption
    rename AllLt tbl _ => lTb
    rename AllLt smA _ => lSm
    have lSmT : @LT.lt Nat _ smA tbl := by assumption
    have lLnT : @LT.lt Nat _ ln tbl := by assumption
    have lLnS : @LT.lt Nat _ ln smA := by assumption
    obtain ⟨B2, hB2⟩ : ∃ B2 : Led, B2 = (ln, W.listOf c2.vs.toArray c2.e) :: (c2.TA ++ (c2.TB ++ (c2.ext ++ B1))) := ⟨_, rfl⟩
    k_dflt (
      rw [← hB2] at lN'
      have oTb : ∀ p ∈ B2, @LT.lt Nat _ p.1 tbl := hB2 ▸ List.forall_mem_cons.mpr ⟨lLnT, tb_ltOf lTb⟩
      have oSm : ∀ p ∈ B2, @LT.lt Nat _ p.1 smA := hB2 ▸ List.forall_mem_cons.mpr ⟨lLnS, tb_ltOf lSm⟩
      have m12 : ∀ p ∈ B1, p ∈ B2 := fun p hp => hB2 ▸ .tail _ (List.mem_append_right _ (List.mem_append_right _ (List.mem_append_right _ hp)))
      have m01 : ∀ p ∈ c.ext ++ news, p ∈ B1 := fun p hp => hB1 ▸ .tail _ (.tail _ (.tail _ hp))
      have mR3 : (rt, ro') ∈ B2 := m12 _ mR1
      have mC3 : (ca, W.listOf cvs.toArray ce) ∈ B2 := m12 _ (m01 _ (List.mem_append_right _ hca))
      have hC3 : HItems B2 cvs cls := hcl.mono fun p hp => m12 _ (m01 _ (List.mem_append_right _ hp))
      have hKR : KItems (RItem B2) rk1 (gput c.U.roots (1 + (i : Int)) R) := hrk1 ▸ (iKR.mono fun v t h => h.mono fun p hp => m12 _ (m01 _ hp)).put ⟨ln, c2.vs, c2.e, rfl, hB2 ▸ .head _, jH.mono fun p hp => hB2 ▸ .tail _ (List.mem_append_right _ (List.mem_append_right _ (List.mem_append_left _ hp)))⟩
      refine' forRangeQ (σ := KSt) (n := 3) (kLed tbl B2) (fun c => [(Str.ofString "sums", .ref c.sm)]) [Str.ofString "m", Str.ofString "t", Str.ofString "form", Str.ofString "many", Str.ofString "alone", Str.ofString "old"] (KInv w tbl B2 (halfF d) (1 + (i : Int)) (gput c.U.roots (1 + (i : Int)) R) cls) ⟨[], oT, smA, [(smA, _)], ⟨0, 0, 0, 0, []⟩⟩ ?zqh lR ?zq1 ?zq2 lF' lN' ?zqk ⟨hTo, .nil, List.forall_mem_nil _, ⟨smA, [_, _, _, _], 0, rfl, .head _, .cons _ _ (.cons _ _ (.cons _ _ (.cons _ _ .nil)))⟩, List.forall_mem_cons.mpr ⟨⟨Nat.ne_of_lt lSmT, oSm⟩, List.forall_mem_nil _⟩, Nat.le_refl _, rfl⟩ ?_ ?_
      (case zqh => rfl)
      (case zq1 => decide)
      (case zq2 => decide)
      (case zqk => exact List.forall_mem_cons.mpr ⟨rfl, List.forall_mem_nil _⟩)
      )
    k_dflt (
      intro i3 tok3 c3 I3 it3 u3 h3 tk3 Qp3 hQ3 hi3 hInv3 hic3 hlI3 hof3 fF3 fN3
      dsimp only [kLed, kstB] at fF3 fN3 hof3 hlI3
      obtain ⟨kT, kD, k2, kS, kE, kL, kU⟩ := hInv3
      obtain ⟨S', hS'⟩ := dueK_pre (j := i3 + 1) hi3 hK
      obtain ⟨s3, hs3, hcase⟩ := dueK_some hS'
      rw [kU] at hs3
      obtain rfl := Option.some.inj hs3
      have hkk : 0 < (1 + (i3 : Int)) * (1 + (i3 : Int)) := Int.mul_pos (by omega) (by omega)
      obtain ⟨hm1, hm2⟩ := fdiv_sm (n := 1 + (i : Int)) (by omega) (Int.ne_of_gt hkk) (Int.le_of_lt hkk)
      obtain ⟨hhf1, hhf2⟩ := half_sm d
      obtain ⟨_, hkk2⟩ := mul_sm (a := 1 + (i3 : Int)) (b := 1 + (i3 : Int)) ⟨by omega, by omega⟩ ⟨by omega, by omega⟩
      )
    rotate_left
    k_dflt (
      intro c3 u3 h3 tk3 hInv3 fF3 fN3
      dsimp only [kLed, kstB] at fF3 fN3
      obtain ⟨kT, kD, k2, kS, kE, kL, kU⟩ := hInv3
      )
    rotate_right
  k_with "exec For Tuple Call cons nil" =>
    k_here
    rename Fr _ _ _ _ => lF'
    with_unfolding_all ((refine' For_turns lF' ?_); k_whole)
  k_with "call type:enumerate" =>
    k_here
    rename Fr _ _ _ _ => lF
    rename News _ _ _ _ => lN
    obtain ⟨B3, hB3⟩ : ∃ B3 : Led, B3 = (I3, it3) :: B2 := ⟨_, rfl⟩
    k_dflt (
      obtain ⟨_, RM, hRM, hSe⟩ := hcase.resolve_right (fun h => h.1 (by assumption))
      obtain ⟨RM', v9, e91, e92, hRv⟩ := (hKR.get (Int.fdiv (1 + (i : Int)) ((1 + (i3 : Int)) * (1 + (i3 : Int))))).resolve_left (fun h => by rw [h.1] at hRM; cases hRM)
      rw [hRM] at e91
      obtain rfl := Option.some.inj e91
      obtain ⟨la, lvs, le, rfl, lm, lh⟩ := hRv
      have m23 : ∀ p ∈ B2, p ∈ B3 := fun p hp => hB3 ▸ .tail _ hp
      have lN3 := permA lN
      rw [← hB3] at lN3
      have hctl : c3.tk.length ≤ 300 := by have := kD.length; omega
      refine' forEnumQ (σ := KSt) (fun c => (tbl, c.to) :: (c.ext ++ B3)) (fun c => [(Str.ofString "sums", .ref c.sm)]) [Str.ofString "t", Str.ofString "form", Str.ofString "many", Str.ofString "alone", Str.ofString "old"] (TInv w tbl I3 B2 B3 (100 * i3) (halfF d) (1 + (i3 : Int)) (Int.fdiv (1 + (i : Int)) ((1 + (i3 : Int)) * (1 + (i3 : Int)))) RM cls c3.S) ⟨c3.tk, c3.to, c3.sm, c3.ext, c3.S⟩ ?zqh (ca := ca) (cvs := cvs) (ce := ce) (fun c => ?zqc) lF lN3 ?zqk ⟨kT, kD, k2, kS, fun p hp => ⟨(kE p hp).1, hof3 p (.tail _ (List.mem_append_left _ hp)), (kE p hp).2⟩, kL, rfl⟩ ?_ ?_
      (case zqh => rfl)
      (case zqc => exact .tail _ (List.mem_append_right _ (m23 _ mC3)))
      (case zqk => exact List.forall_mem_cons.mpr ⟨rfl, List.forall_mem_nil _⟩)
      )
    k_dflt (
      intro j4 T4 I4 I5 t4 v4 c4 it4 it5 u4 h4 tk4 Qp4 hQ4 hj4 hv4 hTu hInv4 hlt4 hof4 fF4 fN4
      dsimp only [kstB] at fF4 fN4 hof4 hlt4
      obtain ⟨tT, tD, t2, tS, tE, tL, tU⟩ := hInv4
      obtain ⟨v5, hv5, hfm⟩ := hC3.get (i := j4) (hcl.length ▸ hj4)
      rw [hv4] at hv5
      obtain rfl := Option.some.inj hv5
      obtain ⟨form, fus, fk, rfl, fm, fi⟩ := hfm
      obtain ⟨sa, sus, skk, hsa, smem, sint⟩ := tS
      obtain ⟨ts1, ts2, ts3, ts4, rfl⟩ := ints4 sint
      have hsa2 : sa = c4.sm := (Value.ref.inj hsa).symm
      subst hsa2
      have b3n : ∀ p ∈ B3, p.1 ≠ tbl := hB3 ▸ List.forall_mem_cons.mpr ⟨fun e => hof3 _ (.head _) e.symm, fun p hp => Nat.ne_of_lt (oTb p hp)⟩
      have m24 : ∀ p ∈ B2, p ∈ c4.ext ++ B3 := fun p hp => List.mem_append_right _ (m23 p hp)
      )
    rotate_left
    k_dflt (
      intro c4 u4 h4 tk4 hInv4 fF4 fN4
      dsimp only [kstB] at fF4 fN4
      obtain ⟨tT, tD, t2, tS, tE, tL, tU⟩ := hInv4
      )
    rotate_right
  k_with "newTuple" =>
    k_here
    rename Fr _ _ _ _ => lF
    rename News _ _ _ _ => lN
    k_dflt (refine' kup_newTuple lF lN ?_ ?zqz; (case zqz => kmk_size))
    intro D' h' F' N' l1
    (try k_lt l1)
    (try k_sweep)
  k_with "subscriptTail" =>
    k_here
    (with_reducible show wpAny _ _ (subscriptTail _ _ (Value.ref rt) (Value.int (Int.fdiv _ _) _)) _ _ _)
    rename News _ _ _ _ => lN
    k_dflt (refine' kda_item (knd := PySem.intKind _ _) lN (.tail _ (.tail _ (.tail _ (m24 _ mR3)))) hR' (intKind_is _ _ _ _) e92 ?_)
  k_with "getMethod ref" =>
    k_here
    (with_reducible show wpAny _ _ (getMethod (Value.ref la) _ _) _ _ _)
    rename News _ _ _ _ => lN
    k_dflt (refine' listMethod_K lN (.tail _ (.tail _ (.tail _ (m24 _ lm)))) PySem.F.slot_list_count PySem.F.type_list_count ?_)
  k_with "call builtin:list.count" =>
    k_here
    rename News _ _ _ _ => lN
    k_dflt (refine' count_tups lN (.tail _ (.tail _ (.tail _ (m24 _ lm)))) (lh.mono fun p hp => .tail _ (.tail _ (.tail _ (m24 p hp)))) ⟨form, fus, fk, rfl, .tail _ (.tail _ (.tail _ (m24 _ fm))), fi⟩ ?zqu ?_; (case zqu => first | exact zA hu rfl | exact zB hu rfl | ktr_units))
  k_with "eval IfExp" =>
    k_here
    goal_lacks Mine.MJoin
    k_dflt (refine' mjIf (1 + (i3 : Int)) (halfF d * (RM.count (cls.getD j4 []) : Nat)) ?_ ?_)
    rotate_left
    intro tal tkal
    (try dsimp only)
    rotate_right
  k_with "getMethod ref" =>
    k_here
    (with_reducible show wpAny _ _ (getMethod (Value.ref tbl) _ _) _ _ _)
    rename News _ _ _ _ => lN
    k_dflt (refine' kdg_method (knd := PySem.intKind _ _) lN ?zqm tT ?_; (case zqm => repeat (first | exact List.Mem.head _ | refine List.Mem.tail _ ?_)))
  k_with "call builtin:dict.get" =>
    k_here
    (with_reducible show wpAny _ _ (call _ [Value.ref tbl, _, _]) _ _ _)
    rename News _ _ _ _ => lN
    obtain ⟨T0, hq⟩ := nameHead lN
    subst hq
    rename AllLt T0 _ => lT0
    k_dflt (refine' tblGet lN ?zqm tT loT (tD.mono fun p hp => .tail _ (.tail _ (.tail _ (List.mem_append_left _ hp)))) t2 ?_; (case zqm => repeat (first | exact List.Mem.head _ | refine List.Mem.tail _ ?_)))
    intro oa op oq ot1 ot2 okk om oe
    (try dsimp only)
  k_with "subscriptTail" =>
    k_here
    (with_reducible show wpAny _ _ (subscriptTail _ _ (Value.ref oa) (Value.int _ _)) _ _ _)
    rename News _ _ _ _ => lN
    k_dflt (refine' item_tupleT ⟨_, (lN (oa, tupO [.int op ot1, .int oq ot2] okk) om).1, rfl, _, rfl⟩ (by decide) (by decide) rfl rfl ?_)
  k_with "subscriptTail" =>
    k_here
    (with_reducible show wpAny _ _ (subscriptTail _ _ (Value.ref c4.sm) (Value.int _ _)) _ _ _)
    rename News _ _ _ _ => lN
    k_dflt (refine' item_tupleT ⟨_, (lN (c4.sm, tupO [.int c4.S.s1 ts1, .int c4.S.s2 ts2, .int c4.S.s3 ts3, .int c4.S.s4 ts4] skk) ?zqm).1, rfl, _, rfl⟩ (by decide) (by decide) rfl rfl ?_; (case zqm => repeat (first | exact List.mem_append_left _ smem | refine List.Mem.tail _ ?_)))
  k_with "setItem ref int" =>
    k_here
    (with_reducible show wpAny _ _ (setItem (Value.ref tbl) _ (Value.ref _)) _ _ _)
    rename Fr _ _ _ _ => lF
    rename News _ _ _ _ => lN
    obtain ⟨T7, hq⟩ := nameHead lN
    subst hq
    rename AllLt T7 _ => lT7
    have kdl := tD.length
    have kcl := hcl.length
    have bT0 : @LT.lt Nat _ tbl T0 := by assumption
    have bT7 : @LT.lt Nat _ tbl T7 := by assumption
    k_dflt (refine' dset lF (rot5 lN) ?zq1 tT ?zq2 ?_; (case zq2 => omega); (case zq1 => exact List.forall_mem_cons.mpr ⟨Nat.ne_of_gt bT7, List.forall_mem_cons.mpr ⟨Nat.ne_of_gt bT0, List.forall_mem_cons.mpr ⟨(hof4 _ (.head _)).1.symm, List.forall_mem_cons.mpr ⟨(hof4 _ (.head _)).2.symm, fun p hp => (List.mem_append.mp hp).elim (fun h => (tE p h).1) fun h => b3n p h⟩⟩⟩⟩))
    intro h' to' F' N' hT'
    (try dsimp only)
    (try k_sweep)
  k_with "subscriptTail" =>
    k_here
    (with_reducible show wpAny _ _ (subscriptTail _ _ (Value.ref c3.sm) (Value.int _ _)) _ _ _)
    rename News _ _ _ _ => lN
    k_dflt (
      obtain ⟨sa, sus, skk, hsa, smem, sint⟩ := kS
      obtain ⟨ts1, ts2, ts3, ts4, rfl⟩ := ints4 sint
      have hsa2 : sa = c3.sm := (Value.ref.inj hsa).symm
      subst hsa2
      refine' item_tupleT ⟨_, (lN (c3.sm, tupO [.int c3.S.s1 ts1, .int c3.S.s2 ts2, .int c3.S.s3 ts3, .int c3.S.s4 ts4] skk) ?zqm).1, rfl, _, rfl⟩ (by decide) (by decide) rfl rfl ?_; (case zqm => repeat (first | exact List.mem_append_left _ smem | refine List.Mem.tail _ ?_)))
  k_with "binaryOp Add ref ref" =>
    k_here
    rename Fr _ _ _ _ => lF
    rename News _ _ _ _ => lN
    obtain ⟨T9, hq⟩ := nameHead lN
    subst hq
    rename AllLt T9 _ => lT9
    have bT9 : @LT.lt Nat _ tbl T9 := by assumption
    k_dflt (refine' kde_addT (its := #[.int c3.S.s1 ts1, .int c3.S.s2 ts2, .int c3.S.s3 ts3, .int c3.S.s4 ts4]) (its2 := #[.ref tbl]) (zs := [.int c3.S.s1 ts1, .int c3.S.s2 ts2, .int c3.S.s3 ts3, .int c3.S.s4 ts4, .ref tbl]) lF lN ⟨_, (lN (c3.sm, tupO [.int c3.S.s1 ts1, .int c3.S.s2 ts2, .int c3.S.s3 ts3, .int c3.S.s4 ts4] skk) (.tail _ (.tail _ (List.mem_append_left _ smem)))).1, rfl, _, rfl⟩ ⟨_, (lN _ (.head _)).1, rfl, _, rfl⟩ (List.cons_ne_nil _ _) (List.cons_ne_nil _ _) (Nat.le_of_ble_eq_true rfl) rfl ?_)
    intro D9 h' F' N' l9
    (try dsimp only)
  k_with "setItem ref int" =>
    k_here
    (with_reducible show wpAny _ _ (setItem (Value.ref du) _ (Value.ref _)) _ _ _)
    rename Fr _ _ _ _ => lF
    rename News _ _ _ _ => lN
    have kdl := iKD.length
    k_dflt (
      rw [hB2, hB1] at lN
      have lN5 := duPE lN
      have mln : ((ln, W.listOf c2.vs.toArray c2.e) : Addr × Obj) ∈ B2 := hB2 ▸ .head _
      have lnb : @LT.lt Nat _ ln tbl := oTb _ mln
      have lnT9 : @LT.lt Nat _ ln T9 := Nat.lt_trans lnb bT9
      have lnD9 : @LT.lt Nat _ ln D9 := Nat.lt_trans lnT9 (l9 (T9, _) (.head _))
      have hE3 : ∀ p ∈ c3.ext, @LT.lt Nat _ ln p.1 := fun p hp => (kE p hp).2 _ mln
      have hOff := duOffs lN5 lRl lDl h30ln h37ln (hX3of lnD9 lnT9 lnb hE3) (fun p hp => (jE p hp).1) iO
      have hOffI := duOffI lN5 lIl (hX3of lnD9 lnT9 lnb hE3) (fun p hp => (jE p hp).1) (fun p hp => hof p (.tail _ (.tail _ (List.mem_append_right _ (List.mem_append_right _ hp)))))
      have hc5 := duCore (newsCut lN5) jA jB hR' iD
      refine' dset lF lN5 ?zq1 iD ?zq2 ?_; (case zq2 => omega); (case zq1 => exact List.forall_mem_cons.mpr ⟨hdr.symm, List.forall_mem_cons.mpr ⟨fun e => hof _ (.tail _ (.head _)) e.symm, fun p hp => (List.mem_append.mp hp).elim (fun h => (hc5.1 p h).2) fun hp => (List.mem_append.mp hp).elim (fun h => (hc5.2 p h).2) fun h => (hOff p h).2.1⟩⟩))
    intro h' dO' F' N' hD'
    (try dsimp only)
  refine wpAny_call ?_
  k_dflt ktr_enter
  k_steps
  · refine hQ2 _ ?_
    rename Fr _ _ _ _ => fF
    rename News _ _ _ _ => fN
    have mI2 : ((I2, it2) : Addr × Obj) ∈ A9 ++ (B9 ++ ((I2, it2) :: (ln, W.listOf c2.vs.toArray c2.e) :: (c2.ext ++ B1))) := List.mem_append_right _ (List.mem_append_right _ (.head _))
    refine bEnd1 fN fF ?_ hA9 hB9 ((jH.mono fun p hp => .tail _ hp).append (.cons ⟨D9, [_, _, _], 0, rfl, .head _, .cons _ _ (.cons _ _ (.cons _ _ .nil))⟩ .nil)) (hR2.trans (congrArg some hR2')) ?_ jE ⟨lnD9, fun q hq => n9 q (List.mem_append_right _ (List.mem_append_right _ (.tail _ (.tail _ (List.mem_append_right _ hq))))), Nat.ne_of_gt (Nat.lt_trans h30ln lnD9), Nat.ne_of_gt (Nat.lt_trans h37ln lnD9)⟩ hic2 (fun p hp => hof2 p (.tail _ (List.mem_append_right _ (List.mem_append_right _ (List.mem_append_right _ hp))))) (fun p hp => hof2 p (.tail _ (List.mem_append_right _ (List.mem_append_right _ (List.mem_append_left _ hp))))) hlnI (Nat.ne_of_gt (n9 _ mI2))
    · intro z hz h3
      simp at hz h3
      simp [kstB, hz, h3]
    · rw [List.length_append]
      exact Nat.succ_le_succ jL
  · refine hQ2 _ ?_
    rename Fr _ _ _ _ => fF
    rename News _ _ _ _ => fN
    refine ForEnd.intro c2 fF fN (.head _) (fun p hp => .tail _ hp) hof2 (List.forall_mem_nil _) (fun z h1 h2 h3 => ?_) ⟨jA, jB, ⟨acc, hR2.trans (congrArg some (hno fun h => absurd h.2 (by assumption))), jH⟩, Nat.le_succ_of_le jL, jE⟩
    simp at h3
    simp [kstB, h1, h3]
  · refine hQ2 _ ?_
    rename Fr _ _ _ _ => fF
    rename News _ _ _ _ => fN
    refine ForEnd.intro c2 fF fN (.head _) (fun p hp => .tail _ hp) hof2 (List.forall_mem_nil _) (fun z h1 h2 h3 => ?_) ⟨jA, jB, ⟨acc, hR2.trans (congrArg some (hno fun h => absurd h.1 (by assumption))), jH⟩, Nat.le_succ_of_le jL, jE⟩
    simp at h3
    simp [kstB, h1, h3]
  · exact ⟨_, _, by rw [if_pos (by assumption)], rfl⟩
  · exact ⟨_, _, by rw [if_neg (by assumption)], rfl⟩
  · rename Fr _ _ _ _ => fF
    rename News _ _ _ _ => fN
    rename AllLt D' (c4.ext ++ B3) => l8
    rename halfF d * _ > 0 => hpos
    refine hQ4 _ ?_
    refine tEnd1 (S := ⟨c4.S.s1 + (if 1 + (i3 : Int) = 1 then halfF d * (RM.count (cls.getD j4 []) : Nat) else 0), c4.S.s2 + halfF d * (RM.count (cls.getD j4 []) : Nat), c4.S.s3 + halfF d * (RM.count (cls.getD j4 []) : Nat) * (1 + (i3 : Int)), c4.S.s4 + halfF d * (RM.count (cls.getD j4 []) : Nat) * Int.fdiv (1 + (i : Int)) ((1 + (i3 : Int)) * (1 + (i3 : Int))), dput c4.S.T (j4 : Int) [op + (if 1 + (i3 : Int) = 1 then halfF d * (RM.count (cls.getD j4 []) : Nat) else 0), oq + halfF d * (RM.count (cls.getD j4 []) : Nat)]⟩) fN fF ?_ rfl hT' ((tD.mono fun p hp => .tail _ (.tail _ (.tail _ hp))).put ⟨T7, [_, _], 0, rfl, .tail _ (.head _), .cons _ _ (.cons _ _ .nil)⟩) (dput_two t2) ⟨D', [_, _, _, _], 0, rfl, .head _, .cons _ _ (.cons _ _ (.cons _ _ (.cons _ _ .nil)))⟩ tE l8 lT7 lT0 (by assumption) bT7 bT0 (by assumption) (by assumption) (by assumption) (by assumption) (by assumption) (by assumption) hof4 hB3 ?_ ?_
    · intro z hz h3
      simp at hz h3
      simp [kstB, hz, h3]
    · exact Nat.le_trans dput_length (Nat.succ_le_succ tL)
    · rw [dueT, ← tU, dueT1, if_pos hpos, oe]
      rfl
  · rename Fr _ _ _ _ => fF
    rename News _ _ _ _ => fN
    rename ¬ (halfF d * _ > 0) => hpos
    refine hQ4 _ ?_
    refine ⟨c4, _, _, _, _, rfl, fF, fN, .head _, .tail _ (.head _), fun p hp => .tail _ (.tail _ hp), hof4, List.forall_mem_cons.mpr ⟨rfl, List.forall_mem_nil _⟩, fun z h1 h3 => ?_, tT, tD, t2, ⟨_, _, _, rfl, smem, sint⟩, tE, Nat.le_succ_of_le tL, ?_⟩
    · have hz := h1 _ (.head _)
      simp at hz h3
      simp [kstB, hz, h3]
    · rw [dueT, ← tU, dueT1, if_neg hpos]
  · refine hQ3 _ ?_
    rename Fr _ _ _ _ => fF
    rename News _ _ _ _ => fN
    have hcv := hcl.length
    refine ForEnd.intro c4 fF fN (.tail _ (List.mem_append_right _ (hB3 ▸ .head _))) (fun p hp => ?_) (fun p hp => ?_) (List.forall_mem_cons.mpr ⟨rfl, List.forall_mem_nil _⟩) (fun z h1 h2 h3 => ?_) ⟨tT, tD, t2, tS, fun p hp => ⟨(tE p hp).1, (tE p hp).2.2⟩, by omega, ?_⟩
    · rcases List.mem_cons.mp hp with rfl | hp
      · exact .head _
      · exact .tail _ ((List.mem_append.mp hp).elim (fun h => List.mem_append_left _ h) fun h => List.mem_append_right _ (m23 p h))
    · rcases List.mem_cons.mp hp with rfl | hp
      · exact hof3 (tbl, c3.to) (.head _)
      · exact (List.mem_append.mp hp).elim (fun h => (tE p h).2.1) fun h => hof3 p (.tail _ (List.mem_append_right _ h))
    · have hz := h2 _ (.head _)
      simp at hz h3
      simp [kstB, h1, hz, h3]
    · rw [hS', hSe, tU, hcv]
  · refine hQ3 _ ?_
    rename Fr _ _ _ _ => fF
    rename News _ _ _ _ => fN
    have hno := hcase.resolve_left (fun h => absurd h.1 (by assumption))
    refine ForEnd.intro c3 fF fN (.head _) (fun p hp => .tail _ hp) hof3 (List.forall_mem_cons.mpr ⟨rfl, List.forall_mem_nil _⟩) (fun z h1 h2 h3 => ?_) ⟨kT, kD, k2, kS, kE, by omega, by rw [hS', hno.2]⟩
    have hz := h2 _ (.head _)
    simp at hz h3
    simp [kstB, h1, hz, h3]
  · refine hQ1 _ ?_
    rename Fr _ _ _ _ => fF
    rename c3.S.s2 > 0 => hpos
    refine duEnd (U := ⟨gput c.U.roots (1 + (i : Int)) R, gput c.U.due (1 + (i : Int)) ⟨c3.S.s1, c3.S.s2, c3.S.s3, c3.S.s4, c3.S.T⟩⟩) N' fF ?_ jA jB hR' hD' (hrk1 ▸ duRoots iKR jH) ((iKD.mono fun _ _ h => h.mono mE1).put ⟨D9, tbl, c3.to, c3.tk, ts1, ts2, ts3, ts4, rfl, mEX _ (.head _), mEX _ (.tail _ (.tail _ (.head _))), loT, kT, kD.mono fun p hp => mEX _ (.tail _ (.tail _ (.tail _ hp))), k2⟩) hOff hic hOffI (hof (rt, c.ro) (.head _)) (hof (du, c.dO) (.tail _ (.head _))) (Nat.le_trans gput_length (Nat.succ_le_succ iLR)) (Nat.le_trans gput_length (Nat.succ_le_succ iLD)) ?_
    · intro z hz h3
      simp at hz h3
      simp [kstB, hz, h3]
    · rw [dueN_step iU hRts kU, if_pos hpos]
  · refine hQ1 _ ?_
    rename Fr _ _ _ _ => fF
    rename News _ _ _ _ => fN
    rename ¬ (c3.S.s2 > 0) => hpos
    rw [hB2, hB1] at fN
    have lN5 := duPE0 fN
    have mln : ((ln, W.listOf c2.vs.toArray c2.e) : Addr × Obj) ∈ B2 := hB2 ▸ .head _
    have lnb : @LT.lt Nat _ ln tbl := oTb _ mln
    have hE3 : ∀ p ∈ c3.ext, @LT.lt Nat _ ln p.1 := fun p hp => (kE p hp).2 _ mln
    have hOff := duOffs lN5 lRl lDl h30ln h37ln (List.forall_mem_cons.mpr ⟨lnb, hE3⟩) (fun p hp => (jE p hp).1) iO
    have hOffI := duOffI lN5 lIl (List.forall_mem_cons.mpr ⟨lnb, hE3⟩) (fun p hp => (jE p hp).1) (fun p hp => hof p (.tail _ (.tail _ (List.mem_append_right _ (List.mem_append_right _ hp)))))
    refine duEnd (U := ⟨gput c.U.roots (1 + (i : Int)) R, c.U.due⟩) lN5 fF ?_ jA jB hR' iD (hrk1 ▸ duRoots iKR jH) (iKD.mono fun _ _ h => h.mono mE1) hOff hic hOffI (hof (rt, c.ro) (.head _)) (hof (du, c.dO) (.tail _ (.head _))) (Nat.le_trans gput_length (Nat.succ_le_succ iLR)) (Nat.le_succ_of_le iLD) ?_
    · intro z hz h3
      simp at hz h3
      simp [kstB, hz, h3]
    · rw [dueN_step iU hRts kU, if_neg hpos]
  · obtain ⟨iA, iB, iR, iD, iKR, iKD, iO, iLR, iLD, iU⟩ := hInv
    rename News h₀ L _ _ => kN9
    dsimp only [duLed] at kN9
    have eU : c.U = Z := Option.some.inj (iU.symm.trans hZ)
    rw [eU] at iKD
    exact hret _ _ _ _ ⟨du, c.dO, c.dk, c.TA, c.TB, c.ext, rfl, rfl, iA, iB, iD, loD, iKD⟩ (by assumption) (newsTail kN9)
end
-- EqD
section
open PySem PySem.W PyProof.Rows PySem.Calls PySem.Spec
theorem pairs_any {p p' : Program} {w w' : World} {es : List DictEntry} {kvs : List (Int × Value)} (h : Pairs (PySem.intKind p w) es kvs) : Pairs (PySem.intKind p' w') es kvs := by
  induction h with
  | nil => exact .nil
  | cons h1 h2 _ ih => exact .cons h1 h2 ih
theorem isDict_any {p p' : Program} {w w' : World} {o : Obj} {kvs : List (Int × Value)} (h : o.IsDictOf (PySem.intKind p w) kvs) : o.IsDictOf (PySem.intKind p' w') kvs := by
  obtain ⟨es, ep, h1, h2, h3, h4, h5⟩ := h
  exact ⟨es, ep, h1, h2, h3, pairs_any h4, h5⟩
noncomputable def hitsD (D2 : List (Int × List Int)) : List (Int × List Int) → Bool
  | [] => true
  | (k, t) :: r => match dget D2 k with
    | none => false
    | some u => decide (t = u) && hitsD D2 r
noncomputable def eqDD (D1 D2 : List (Int × List Int)) : Bool := D1.length == D2.length && hitsD D2 D1
noncomputable def eqE (e f : Ent) : Bool := ((((e.n1 == f.n1) && (e.n2 == f.n2)) && (e.n3 == f.n3)) && (e.n4 == f.n4)) && eqDD e.D f.D
noncomputable def hitsE (D2 : List (Int × Ent)) : List (Int × Ent) → Bool
  | [] => true
  | (k, t) :: r => match gget D2 k with
    | none => false
    | some u => eqE t u && hitsE D2 r
noncomputable def eqB (D1 D2 : List (Int × Ent)) : Bool := D1.length == D2.length && hitsE D2 D1
section
variable {prog : Program} {w : World} {A : Around} {E : Value → Shared → Prop} {s : Shared} {h₀ : Heap} {L : Addr} {l : Led}
theorem tupAt {a b : Addr} {us vs : List Value} {k j : Nat} {ns ms : List Int} (h1 : s.heap.get? a = some (tupO us k)) (h2 : s.heap.get? b = some (tupO vs j)) (i1 : IntsAre us ns) (i2 : IntsAre vs ms) (hu : A.in1.units + 64 < cLine) : SeqAt.EqAt A.in1 s (.ref a) (.ref b) (decide (ns = ms)) := by
  have z := keq_at (A := A) (tup_reads h1 i1) (tup_reads h2 i2) (tup_shaped ns) (tup_shaped ms) hu
  rw [tup_eqv] at z
  exact z
theorem dHits {ka kb : List (Int × Value)} {D1 D2 : List (Int × List Int)} (N : News h₀ L s.heap l) (h1 : DItems l ka D1) (h2 : DItems l kb D2) (hu : A.in1.units + 64 < cLine) : KeqHits A.in1 s kb ka (hitsD D2 D1) := by
  induction h1 with
  | nil => exact .nil
  | @cons k v t kvs D h _ ih =>
    rw [hitsD]
    rcases h2.get k with ⟨e1, e2⟩ | ⟨u, y, e1, e2, hy⟩
    · rw [e1]; exact .miss e2
    · rw [e1]
      obtain ⟨a, us, n, rfl, m, i⟩ := h
      obtain ⟨b, vs, n', rfl, m', i'⟩ := hy
      exact .hit e2 (tupAt (N _ m).1 (N _ m').1 i i' hu) ih
theorem rcDict {a b : Addr} {oa ob : Obj} {ka kb : List (Int × Value)} {D1 D2 : List (Int × List Int)} (N : News h₀ L s.heap l) (ma : (a, oa) ∈ l) (mb : (b, ob) ∈ l) (la : (a == sysModules) = false) (lb : (b == sysModules) = false) (da : oa.IsDictOf (PySem.intKind prog w) ka) (db : ob.IsDictOf (PySem.intKind prog w) kb) (h1 : DItems l ka D1) (h2 : DItems l kb D2) (hu : A.units + 70 < cLine) : SeqAt.RcAt A s (.ref a) (.ref b) (eqDD D1 D2) := fun p' w' E' Q' hq => by
  have hu1 : A.in1.units + 64 < cLine := by rw [units_in1]; omega
  refine keq_eq (knd := PySem.intKind p' w') la lb (Heap.dictOf_iff.mpr ⟨oa, (N _ ma).1, isDict_any da⟩) (Heap.dictOf_iff.mpr ⟨ob, (N _ mb).1, isDict_any db⟩) (by omega) (fun _ => dHits N h1 h2 hu1) ?_
  rw [h1.length, h2.length]
  exact hq
theorem pairs_fun {p : Program} {es : List DictEntry} {kvs kvs' : List (Int × Value)} (h : Pairs (PySem.intKind p w) es kvs) (h' : Pairs (PySem.intKind p w) es kvs') : kvs = kvs' := by
  induction h generalizing kvs' with
  | nil => cases h'; rfl
  | @cons e kv es kvs h1 h2 _ ih =>
    cases h' with
    | @cons _ kv' _ _ g1 g2 g3 =>
      have e1 := Value.isInt_inj _ _ _ h1 g1
      obtain ⟨k, v⟩ := kv
      obtain ⟨k', v'⟩ := kv'
      have e1 : k = k' := e1
      have e2 : v = v' := h2.symm.trans g2
      rw [e1, e2, ih g3]
theorem hitem_fun {v : Value} {t t' : List Int} (N : News h₀ L s.heap l) (h : HItem l v t) (h' : HItem l v t') : t = t' := by
  obtain ⟨a, us, k, rfl, m, i⟩ := h
  obtain ⟨b, vs, j, e, m', i'⟩ := h'
  obtain rfl := Value.ref.inj e
  have g := (N _ m).1
  have g' := (N _ m').1
  have g : s.heap.get? a = some (tupO us k) := g
  have g' : s.heap.get? a = some (tupO vs j) := g'
  rw [g] at g'
  have e3 : us = vs := by
    have := congrArg Obj.data (Option.some.inj g')
    simpa using (Data.seq.inj this).1
  exact ints_uniq i (e3 ▸ i')
theorem ditems_fun {kvs : List (Int × Value)} {D D' : List (Int × List Int)} (N : News h₀ L s.heap l) (h : DItems l kvs D) (h' : DItems l kvs D') : D = D' := by
  induction h generalizing D' with
  | nil => cases h'; rfl
  | cons h _ ih =>
    cases h' with
    | cons g g2 => rw [hitem_fun N h g, ih g2]
theorem ditems_keys {kvs : List (Int × Value)} {D : List (Int × List Int)} (h : DItems l kvs D) : D.map (·.1) = kvs.map (·.1) := by
  induction h with
  | nil => rfl
  | cons _ _ ih => simp [ih]
theorem dget_nodup {D : List (Int × List Int)} (hn : (D.map (·.1)).Nodup) : ∀ x ∈ D, dget D x.1 = some x.2 := by
  induction D with
  | nil => intro x hx; cases hx
  | cons y D ih =>
    intro x hx
    simp only [List.map_cons, List.nodup_cons] at hn
    rcases List.mem_cons.mp hx with rfl | hx
    · simp [dget]
    · have hne : y.1 ≠ x.1 := fun e => hn.1 (e ▸ List.mem_map_of_mem hx)
      have := ih hn.2 x hx
      simp only [dget, List.find?_cons, decide_eq_false hne] at this ⊢
      exact this
theorem hitsD_self {D2 D1 : List (Int × List Int)} (h : ∀ x ∈ D1, dget D2 x.1 = some x.2) : hitsD D2 D1 = true := by
  induction D1 with
  | nil => rfl
  | cons y D ih =>
    obtain ⟨k, t⟩ := y
    rw [hitsD, h (k, t) (.head _)]
    simp [ih fun x hx => h x (.tail _ hx)]
theorem eqDD_self {D : List (Int × List Int)} (hn : (D.map (·.1)).Nodup) : eqDD D D = true := by
  rw [eqDD, hitsD_self (dget_nodup hn)]
  simp
theorem dict_fun {a b : Addr} {oa ob : Obj} {ka kb : List (Int × Value)} {D1 D2 : List (Int × List Int)} (N : News h₀ L s.heap l) (ma : (a, oa) ∈ l) (mb : (a, ob) ∈ l) (da : oa.IsDictOf (PySem.intKind prog w) ka) (db : ob.IsDictOf (PySem.intKind prog w) kb) (h1 : DItems l ka D1) (h2 : DItems l kb D2) : D1 = D2 ∧ eqDD D1 D2 = true := by
  have g1 : s.heap.get? a = some oa := (N _ ma).1
  have g2 : s.heap.get? a = some ob := (N _ mb).1
  rw [g1] at g2
  obtain rfl := Option.some.inj g2
  obtain ⟨es, ep, _, c2, _, c4, c5⟩ := da
  obtain ⟨es', ep', _, c2', _, c4', _⟩ := db
  rw [c2] at c2'
  obtain rfl := (Data.dict.inj c2').1
  obtain rfl := pairs_fun c4 c4'
  obtain rfl := ditems_fun N h1 h2
  exact ⟨rfl, eqDD_self (by rw [ditems_keys h1]; exact c5)⟩
theorem dictAt {a b : Addr} {oa ob : Obj} {ka kb : List (Int × Value)} {D1 D2 : List (Int × List Int)} (N : News h₀ L s.heap l) (ma : (a, oa) ∈ l) (mb : (b, ob) ∈ l) (la : (a == sysModules) = false) (lb : (b == sysModules) = false) (da : oa.IsDictOf (PySem.intKind prog w) ka) (db : ob.IsDictOf (PySem.intKind prog w) kb) (h1 : DItems l ka D1) (h2 : DItems l kb D2) (hu : A.units + 70 < cLine) : SeqAt.EqAt A s (.ref a) (.ref b) (eqDD D1 D2) := by
  by_cases hab : a = b
  · subst hab
    rw [(dict_fun (b := a) N ma mb da db h1 h2).2]
    exact .same _
  · exact .of_refs hab (rcDict N ma mb la lb da db h1 h2 hu)
theorem entAt {v u : Value} {e f : Ent} (N : News h₀ L s.heap l) (h1 : EItem w l v e) (h2 : EItem w l u f) (hu : A.units + 80 < cLine) : SeqAt.EqAt A s v u (eqE e f) := by
  obtain ⟨a, dd, od, kvs, t1, t2, t3, t4, rfl, m1, m2, lo, hd, hi, _⟩ := h1
  obtain ⟨b, dd', od', kvs', u1, u2, u3, u4, rfl, m1', m2', lo', hd', hi', _⟩ := h2
  have g1 : s.heap.get? a = some (entO e.n1 e.n2 e.n3 e.n4 t1 t2 t3 t4 dd) := (N _ m1).1
  have g2 : s.heap.get? b = some (entO f.n1 f.n2 f.n3 f.n4 u1 u2 u3 u4 dd') := (N _ m1').1
  by_cases hab : a = b
  · subst hab
    rw [g1] at g2
    have e5 := congrArg Obj.data (Option.some.inj g2)
    have e6 : [Value.int e.n1 t1, .int e.n2 t2, .int e.n3 t3, .int e.n4 t4, .ref dd] = [.int f.n1 u1, .int f.n2 u2, .int f.n3 u3, .int f.n4 u4, .ref dd'] := congrArg Array.toList (Data.seq.inj e5).1
    simp only [List.cons.injEq, Value.int.injEq, Value.ref.injEq, and_true] at e6
    obtain ⟨⟨x1, _⟩, ⟨x2, _⟩, ⟨x3, _⟩, ⟨x4, _⟩, rfl⟩ := e6
    have hD := dict_fun (b := dd) N m2 m2' hd hd' hi hi'
    have hE : eqE e f = true := by rw [eqE, x1, x2, x3, x4, hD.2]; simp
    rw [hE]
    exact .same _
  · refine SeqAt.EqAt.of_refs hab ?_
    have hu1 : A.in1.units + 70 < cLine := by rw [units_in1]; omega
    have z := SeqAt.RcAt.tuples (A := A) (s := s) (l := a) (b := b) (items := #[.int e.n1 t1, .int e.n2 t2, .int e.n3 t3, .int e.n4 t4, .ref dd]) (items2 := #[.int f.n1 u1, .int f.n2 u2, .int f.n3 u3, .int f.n4 u4, .ref dd']) (e := fun j => match j with | 0 => e.n1 == f.n1 | 1 => e.n2 == f.n2 | 2 => e.n3 == f.n3 | 3 => e.n4 == f.n4 | _ => eqDD e.D f.D) ⟨_, g1, rfl, _, rfl⟩ ⟨_, g2, rfl, _, rfl⟩ (by omega) (fun j h1 h2 => ?_)
    · have e7 : (List.range (min (#[Value.int e.n1 t1, .int e.n2 t2, .int e.n3 t3, .int e.n4 t4, .ref dd] : Array Value).size (#[Value.int f.n1 u1, .int f.n2 u2, .int f.n3 u3, .int f.n4 u4, .ref dd'] : Array Value).size)).all (fun j => match j with | 0 => e.n1 == f.n1 | 1 => e.n2 == f.n2 | 2 => e.n3 == f.n3 | 3 => e.n4 == f.n4 | _ => eqDD e.D f.D) = eqE e f := by
        show (List.range 5).all _ = _
        simp [List.range, List.range.loop, eqE, Bool.and_assoc]
      rw [e7] at z
      have e8 : (eqE e f && ((#[Value.int e.n1 t1, .int e.n2 t2, .int e.n3 t3, .int e.n4 t4, .ref dd] : Array Value).size == (#[Value.int f.n1 u1, .int f.n2 u2, .int f.n3 u3, .int f.n4 u4, .ref dd'] : Array Value).size)) = eqE e f := by
        show (eqE e f && (5 == 5)) = _
        simp
      rw [e8] at z
      exact z
    · match j, h1 with
      | 0, _ => exact .int_int _ _ _ _
      | 1, _ => exact .int_int _ _ _ _
      | 2, _ => exact .int_int _ _ _ _
      | 3, _ => exact .int_int _ _ _ _
      | 4, _ => exact dictAt N m2 m2' lo lo' hd hd' hi hi' hu1
      | n + 5, h => exact absurd h (by show ¬ n + 5 < 5; omega)
theorem eHits {ka kb : List (Int × Value)} {D1 D2 : List (Int × Ent)} (N : News h₀ L s.heap l) (h1 : KItems (EItem w l) ka D1) (h2 : KItems (EItem w l) kb D2) (hu : A.units + 80 < cLine) : KeqHits A s kb ka (hitsE D2 D1) := by
  induction h1 with
  | nil => exact .nil
  | @cons k v t kvs D h _ ih =>
    rw [hitsE]
    rcases h2.get k with ⟨e1, e2⟩ | ⟨u, y, e1, e2, hy⟩
    · rw [e1]; exact .miss e2
    · rw [e1]; exact .hit e2 (entAt N h hy hu) ih
theorem book_eq {a b : Addr} {oa ob : Obj} {ka kb : List (Int × Value)} {D1 D2 : List (Int × Ent)} {Q : Value → Shared → Prop} (N : News h₀ L s.heap l) (ma : (a, oa) ∈ l) (mb : (b, ob) ∈ l) (la : (a == sysModules) = false) (lb : (b == sysModules) = false) (da : oa.IsDictOf (PySem.intKind prog w) ka) (db : ob.IsDictOf (PySem.intKind prog w) kb) (h1 : KItems (EItem w l) ka D1) (h2 : KItems (EItem w l) kb D2) (hu : A.units + 90 < cLine) (h : Q (.bool (eqB D1 D2)) s) : wpAny (model prog w) A (compareOp .Eq (.ref a) (.ref b)) Q E s := by
  have hu1 : A.in1.units + 80 < cLine := by rw [units_in1]; omega
  refine keq_eq (knd := PySem.intKind prog w) la lb (Heap.dictOf_iff.mpr ⟨oa, (N _ ma).1, da⟩) (Heap.dictOf_iff.mpr ⟨ob, (N _ mb).1, db⟩) (by omega) (fun _ => eHits N h1 h2 hu1) ?_
  rw [h1.length, h2.length]
  exact h
end
end
-- LawS
section
open PySem PySem.W PyProof.Rows PySem.Calls
noncomputable def dF (N : Int) : Int := 3 + Int.fdiv N 2 * 4 + Int.fmod N 2
theorem dF_bd {N : Int} (h0 : 0 ≤ N) (h1 : N < 96) : -1000 < dF N ∧ dF N < 1000 := by
  rw [dF, Int.fdiv_eq_ediv_of_nonneg _ (by decide), Int.fmod_eq_emod_of_nonneg _ (by decide)]
  omega
/-- what the law asks of one number, one bound and one list of turns -/
noncomputable def LawAt (N : Int) (b : Nat) (turns : List Int) : Prop :=
  ∃ Z U, valuesF (classesF (dF N)) (dF N) (b : Int) = some Z ∧ dueF (classesF (dF N)) (dF N) b turns = some U ∧ Z.told.Pairwise (· ≤ ·) ∧ Z.told.length < 64 ∧ eqB Z.book U.due = true ∧ (∀ t ∈ classesF (dF N), t.length = 3) ∧ (classesF (dF N)).length ≤ 100
end
-- LawA
section
open PySem PySem.W PyProof.Rows PySem.Calls
/-- the library's end of a call, but for the generators, which may be bare ones -/
noncomputable def GoodX (c : ClaimW) (cl : Str → Option Addr) (mean : ExcName → Option Value) (args : List WData) (s₁ : Shared) (res : Result) (s' : Shared) : Prop :=
  GoodW c cl mean args s₁ res { s' with gens := #[] } ∧ AllBare s'.gens
/-- kn_post for such an end: kn_post itself, asked over a model that returns at once -/
theorem knPostG {M : Model} {A : Around} {cd : Code} {s s₁ : Shared} {cw : ClaimW} {cl : Str → Option Addr} {mean : ExcName → Option Value} {args : List WData} {tabs : List (Addr × Addr)} (hT : TabsAt tabs s₁.heap) (hr : ∀ a x, cw.raises a x = false)
    (h : codeAny M A cd (fun r s' => GoodX cw cl mean args { s₁ with heap := ghostOf s₁.heap tabs } r s' ∧ GrownAll tabs s'.heap) s) : codeAny M A cd (GoodWG cw cl mean args s₁) s := by
  intro Γ p hc hΓ
  obtain ⟨r, s', ret, ⟨g, bare⟩, gr⟩ := h Γ p hc hΓ
  refine ⟨r, s', ret, ?_⟩
  cases r with
  | error e =>
    rcases g.1 with ⟨_, _, _, q, _⟩ | ⟨_, _, x, _, _, _, q, _⟩
    · cases q
    · rw [hr] at q
      cases q
  | ok f =>
    have z : codeAny { M with den := fun _ => pure (.done f) } A cd (GoodWG cw cl mean args s₁) { s' with gens := #[] } := kn_post hT hr (codeAny_of_tree (wpAny_pure ⟨g, gr⟩))
    have y := z Γ p hc hΓ
    rw [wpCode_iff_wp] at y
    exact ⟨y.1, y.2.1, y.2.2.1, bare⟩
theorem lawLed {h₀ h : Heap} {L : Addr} {c t x30 x37 x100 : Addr × Obj} {ext J : Led} (N : News h₀ L h (c :: (ext ++ J))) (mt : t ∈ J) (m37 : x37 ∈ J) (m30 : x30 ∈ J) (m100 : x100 ∈ J) : News h₀ L h ([x30] ++ ([x37] ++ x100 :: (c :: (ext ++ [t])))) := fun p hp => N p (by
  simp only [List.cons_append, List.nil_append, List.mem_cons, List.mem_append, List.not_mem_nil, or_false] at hp ⊢
  rcases hp with rfl | rfl | rfl | e | e | rfl
  · exact .inr (.inr m30)
  · exact .inr (.inr m37)
  · exact .inr (.inr m100)
  · exact .inl e
  · exact .inr (.inl e)
  · exact .inr (.inr mt))
theorem lawOff {k ta : Addr} {c : Addr × Obj} {ot : Obj} {ext : Led} (h1 : ∀ p ∈ c :: ext, @LT.lt Nat _ k p.1) (h2 : @LT.lt Nat _ k ta) : ∀ p ∈ c :: (ext ++ [(ta, ot)]), p.1 ≠ k := fun p hp => by
  simp only [List.mem_cons, List.mem_append, List.not_mem_nil, or_false] at hp
  rcases hp with e | e | rfl
  · exact Nat.ne_of_gt (h1 p (e ▸ .head _))
  · exact Nat.ne_of_gt (h1 p (.tail _ e))
  · exact Nat.ne_of_gt h2
theorem permL {h₀ h : Heap} {L : Addr} {a b c d e : Addr × Obj} {TA TB r : Led} (N : News h₀ L h (a :: b :: c :: d :: e :: (TA ++ (TB ++ r)))) : News h₀ L h (TA ++ (TB ++ (a :: b :: c :: d :: e :: r))) := fun p hp => N p (by
  simp only [List.mem_cons, List.mem_append] at hp ⊢
  rcases hp with x | x | x | x | x | x | x | x <;> simp [x])
theorem rise_eq {a b : List Int} (hp : a.Perm b) (ha : a.Pairwise (· ≤ ·)) (hb : b.Pairwise (· ≤ ·)) : a = b := List.Perm.eq_of_pairwise (fun _ _ _ _ h1 h2 => Int.le_antisymm h1 h2) ha hb hp
theorem Tab.grown {P : Addr} {ln col : Int} {q : Str} {T l : Led} {h₀ h : Heap} {L : Addr} (hT : Tab P ln col q T) (N : News h₀ L h l) (hs : ∀ p ∈ T, p ∈ l) : GrownAt P h := by
  cases hT with
  | none => exact GrownAt.of N (hs _ (.head _))
  | some _ _ _ => exact GrownAt.of N (hs _ (.tail _ (.head _)))
theorem post_ok (ns : List Int) : PySem.Challenge.rw_pg0199_01.row.claim.post [ofPy (PyData.list (List.map PyData.int ns))] (WData.bool true) [ofPy (PyData.list (List.map PyData.int ns))] = true := by wrow_post
theorem law_holds (lawP : ∀ (N : Int) (b : Nat) (turns : List Int), 0 ≤ N → N < 96 → 6 ≤ b → b ≤ 9 → (∀ x ∈ turns, -4 < x ∧ x < 4) → LawAt N b turns) : PySem.Challenge.rw_pg0199_01.Holds := hdX (by
  k_with_none
  w_top off
  k_fill
  intro w s₀ s₁ mg mb G Y fa o pm cd doc dV kV ho hd hcd hD hmg hg args vals as hpre hlay hrd hwl hlo
  have KX := km_in_of Y
  have hT8 := km_tabs_of Y
  have X := (Ground.X G).1
  have V := (Ground.X G).2
  refine Ground.open G ?_
  intro T B D TE TW
  try (refine guard_noD D (by decide +kernel) ?_; clear D)
  have hT9 : TabsAt ([(41, 37), (34, 30), (104, 100)] : List (Addr × Addr)) _ := List.forall_mem_cons.mpr ⟨⟨codeHd_of_K (c := 41) (P := 37) KX (by kernel_rfl), hT8 37 (by decide)⟩, List.forall_mem_cons.mpr ⟨⟨codeHd_of_K (c := 34) (P := 30) KX (by kernel_rfl), hT8 30 (by decide)⟩, List.forall_mem_cons.mpr ⟨⟨codeHd_of_K (c := 104) (P := 100) KX (by kernel_rfl), hT8 100 (by decide)⟩, List.forall_mem_nil _⟩⟩⟩
  have Tg := ghost_top hT9 T
  clear hmg
  wrow_args hpre hlay hrd hwl hlo
  all_goals (
    first | refine callC_kw (enter_call ?_) | refine enter_call ?_
    w_top on
    refine knPostG hT9 (fun _ _ => rfl) ?_
    w_call any ho hd hcd hD T F
    clear hd
    kn_ghosts F T
    k_drop
    skip)
  rename List Int => ns
  obtain ⟨N0, hN⟩ : ∃ N0, N0 = Int.fmod ((List.take 1 ns).sum + 10) 96 := ⟨_, rfl⟩
  have hN0 : 0 ≤ N0 := hN ▸ Int.fmod_nonneg_of_pos _ (by decide)
  have hN1 : N0 < 96 := hN ▸ Int.fmod_lt_of_pos _ (by decide)
  obtain ⟨b0, hb, hb6, hb9⟩ : ∃ b : Nat, 6 + Int.fmod ((List.take (min 2 ns.length - 1) (List.drop 1 ns)).sum) 4 = (b : Int) ∧ 6 ≤ b ∧ b ≤ 9 := by
    have h0 := Int.fmod_nonneg_of_pos ((List.take (min 2 ns.length - 1) (List.drop 1 ns)).sum) (show (0 : Int) < 4 by decide)
    have h1 := Int.fmod_lt_of_pos ((List.take (min 2 ns.length - 1) (List.drop 1 ns)).sum) (show (0 : Int) < 4 by decide)
    exact ⟨(6 + Int.fmod ((List.take (min 2 ns.length - 1) (List.drop 1 ns)).sum) 4).toNat, by omega, by omega, by omega⟩
  obtain ⟨tu, htu⟩ : ∃ tu, tu = List.map (fun k' => Int.fmod k' 7 - 3) (List.take (min 12 ns.length - 2) (List.drop 2 ns)) ++ [-2, 3, 1] := ⟨_, rfl⟩
  have htb : ∀ x ∈ tu, -4 < x ∧ x < 4 := by
    rw [htu]
    intro x hx
    rcases List.mem_append.mp hx with hx | hx
    · obtain ⟨y, _, rfl⟩ := List.mem_map.mp hx
      have h0 := Int.fmod_nonneg_of_pos y (show (0 : Int) < 7 by decide)
      have h1 := Int.fmod_lt_of_pos y (show (0 : Int) < 7 by decide)
      omega
    · simp at hx
      rcases hx with rfl | rfl | rfl <;> decide
  have htl : 0 < tu.length := by rw [htu, List.length_append]; exact Nat.succ_pos _
  have htl2 : tu.length ≤ 1000 := by
    rw [htu, List.length_append, List.length_map, List.length_take]
    show _ + 3 ≤ _
    omega
  obtain ⟨Z, U, hZ, hU, hsort, h64, heq, hc3, hc100⟩ := lawP N0 b0 tu hN0 hN1 hb6 hb9 htb
  obtain ⟨hd0, hd1⟩ := dF_bd hN0 hN1
  have hdd : 3 + Int.fdiv N0 2 * 4 + Int.fmod N0 2 = dF N0 := rfl
  k_with "call ref" =>
    k_here
    (with_reducible show wpAny _ _ (call (Value.ref 119) _) _ _ _)
    rename Fr _ _ _ _ => lF
    rename News _ _ _ _ => lN
    obtain ⟨ta, hq⟩ := nameHead lN
    subst hq
    k_dflt (
      dsimp only at lF lN ⊢
      rw [← hN, hdd] at lF ⊢
      rw [hb] at lF
      refine' Ok.use (cls_ok w _ (dF N0) _ hd0 hd1) ?zqB ?zqF ?zqX lN ?zqT ?zqk ?zqd ?zqu ?_; (case zqB => k_asm); (case zqF => k_asm); (case zqX => k_asm); (case zqT => k_asm); (case zqk => exact rfl); (case zqd => first | exact zA hd rfl | exact zB hd rfl | ktr_room); (case zqu => first | exact zA hu rfl | exact zB hu rfl | ktr_units))
    intro r1 ne1 h1 tk1 hR F1 N1
    obtain ⟨ca, cvs, ce, cext, hr1, hne1, hcH, hcD, hcL⟩ := hR
    subst hr1
    rw [hne1] at N1
    clear hne1
    (try dsimp only)
  k_with "call ref" =>
    k_here
    (with_reducible show wpAny _ _ (call (Value.ref 131) _) _ _ _)
    rename Fr _ _ _ _ => lF
    rename News _ _ _ _ => lN0
    have l30 : @LT.lt Nat _ 30 ta := by assumption
    have l37 : @LT.lt Nat _ 37 ta := by assumption
    have l100 : @LT.lt Nat _ 100 ta := by assumption
    have hGs : AllBare s₁.gens := AllBare.of_eq hg
    k_dflt (
      have lN := lawLed (x30 := (30, tabObj #[])) (x37 := (37, tabObj #[])) (x100 := (100, tabObj #[])) lN0 (.head _) (by repeat (first | exact List.Mem.head _ | refine List.Mem.tail _ ?_)) (by repeat (first | exact List.Mem.head _ | refine List.Mem.tail _ ?_)) (by repeat (first | exact List.Mem.head _ | refine List.Mem.tail _ ?_))
      refine' OkG.use (vals_ok w [(30, tabObj #[])] [(37, tabObj #[])] ((ca, W.listOf cvs.toArray ce) :: (cext ++ [(ta, _)])) #[] ca cvs ce (classesF (dF N0)) (dF N0) b0 _ _ Z .none .none .none (lawOff (fun p hp => tb_ltOf (hcL p hp) (30, tabObj #[]) (by repeat (first | exact List.Mem.head _ | refine List.Mem.tail _ ?_))) l30) (lawOff (fun p hp => tb_ltOf (hcL p hp) (37, tabObj #[]) (by repeat (first | exact List.Mem.head _ | refine List.Mem.tail _ ?_))) l37) (lawOff (fun p hp => tb_ltOf (hcL p hp) (100, tabObj #[]) (by repeat (first | exact List.Mem.head _ | refine List.Mem.tail _ ?_))) l100) (.head _) (hcH.mono fun p hp => .tail _ (List.mem_append_left _ hp)) hc3 hc100 hZ) ?zqG ?zqB ?zqF ?zqX lN ?zqT ?zqk ?zqd ?zqu ?_; (case zqB => k_asm); (case zqF => k_asm); (case zqX => k_asm); (case zqT => k_asm); (case zqk => exact rfl); (case zqd => first | exact zA hd rfl | exact zB hd rfl | ktr_room); (case zqu => first | exact zA hu rfl | exact zB hu rfl | ktr_units); (case zqG => exact hGs))
    intro r1 ne1 s2 hR G1 O1 F1 N1
    obtain ⟨T5, lh, tl, bk, hv, he, tvs, te, bo, kvs, A', B', ps', vext, hr1, hne1, hA', hB', hg', hIt, hbD, hbs, hKb, hvx, hvq⟩ := hR
    subst hr1
    rw [hne1] at N1
    clear hne1
    (try dsimp only)
  k_with "assign Tuple" =>
    k_here
    (with_reducible show wpAny _ _ (assign _ _ (Value.ref T5)) _ _ _)
    rename Fr _ _ _ _ => lF
    rename News _ _ _ _ => lN
    k_dflt (refine' unpackN_ lF lN ⟨_, (lN _ (List.Mem.head _)).1, rfl, _, rfl⟩ ?zq1 ?zq2 ?zq3 ?_; (case zq1 => exact rfl); (case zq2 => exact rfl); (case zq3 => exact rfl))
    intro h' F' N'
    (try k_sweep)
  k_with "call builtin:sorted" =>
    k_here
    rename Fr _ _ _ _ => lF
    rename News _ _ _ _ => lN
    k_dflt (refine' kso_sorted lF lN (News.isList lN (.tail _ (.tail _ (.head _)))) hIt h64 ?_)
    intro D8 vs8 ns8 c8 h8' F8 N8 l8 i8 e8 p8 o8 b8
    obtain rfl : ns8 = Z.told := rise_eq p8 o8 hsort
    (try dsimp only)
  k_with "compareOp Eq ref ref" =>
    k_here
    (with_reducible show wpAny _ _ (compareOp _ (Value.ref tl) (Value.ref _)) _ _ _)
    rename News _ _ _ _ => lN
    k_dflt (refine' eq_intsK (News.isList lN (.tail _ (.tail _ (.tail _ (.head _))))) hIt (News.isList lN (.head _)) i8 ?zqu ?_; (case zqu => first | exact zA hu rfl | exact zB hu rfl | ktr_units))
    rw [decide_eq_true (rfl : Z.told = Z.told)]
  k_with "call ref" =>
    k_here
    (with_reducible show wpAny _ _ (call (Value.ref 138) _) _ _ _)
    rename Fr _ _ _ _ => lF
    rename News _ _ _ _ => lN0
    rename IntsAre _ (List.map _ _ ++ _) => hI9
    rw [← htu] at hI9
    k_dflt (
      have lN := permL lN0
      have d30 : D8 ≠ 30 := by
        obtain ⟨o, ho⟩ := hA'.at
        exact Nat.ne_of_gt (l8 (30, o) (.tail _ (.tail _ (.tail _ (.tail _ (List.mem_append_left _ ho))))))
      have d37 : D8 ≠ 37 := by
        obtain ⟨o, ho⟩ := hB'.at
        exact Nat.ne_of_gt (l8 (37, o) (.tail _ (.tail _ (.tail _ (.tail _ (List.mem_append_right _ (List.mem_append_left _ ho)))))))
      have q1 := hvq T5 (.head _)
      have q2 := hvq lh (.tail _ (.head _))
      have q3 := hvq tl (.tail _ (.tail _ (.head _)))
      have q4 := hvq bk (.tail _ (.tail _ (.tail _ (.head _))))
      refine' Ok.use (due_ok w A' B' _ ca cvs ce (classesF (dF N0)) ta _ 0 tu (dF N0) b0 _ _ U hA' hB' ?zq1 ?zq2 ?zq3 (hcH.mono ?zq4) hc3 hc100 ?zq5 hI9 htl htl2 ?zq6 ?zq7 hU) ?zqB ?zqF ?zqX lN ?zqT ?zqk ?zqd ?zqu ?_; (case zqB => k_asm); (case zqF => k_asm); (case zqX => k_asm); (case zqT => k_asm); (case zqk => exact rfl); (case zqd => first | exact zA hd rfl | exact zB hd rfl | ktr_room); (case zqu => first | exact zA hu rfl | exact zB hu rfl | ktr_units); (case zq1 => exact List.forall_mem_cons.mpr ⟨d30, List.forall_mem_cons.mpr ⟨q1.1, List.forall_mem_cons.mpr ⟨q2.1, List.forall_mem_cons.mpr ⟨q3.1, List.forall_mem_cons.mpr ⟨q4.1, List.forall_mem_cons.mpr ⟨(by decide : (100 : Nat) ≠ 30), fun p hp => (List.mem_append.mp hp).elim (fun h => (hvx p h).1) (lawOff (fun p hp => tb_ltOf (hcL p hp) (30, tabObj #[]) (by repeat (first | exact List.Mem.head _ | refine List.Mem.tail _ ?_))) l30 p)⟩⟩⟩⟩⟩⟩); (case zq2 => exact List.forall_mem_cons.mpr ⟨d37, List.forall_mem_cons.mpr ⟨q1.2.1, List.forall_mem_cons.mpr ⟨q2.2.1, List.forall_mem_cons.mpr ⟨q3.2.1, List.forall_mem_cons.mpr ⟨q4.2.1, List.forall_mem_cons.mpr ⟨(by decide : (100 : Nat) ≠ 37), fun p hp => (List.mem_append.mp hp).elim (fun h => (hvx p h).2.1) (lawOff (fun p hp => tb_ltOf (hcL p hp) (37, tabObj #[]) (by repeat (first | exact List.Mem.head _ | refine List.Mem.tail _ ?_))) l37 p)⟩⟩⟩⟩⟩⟩); (case zq3 => exact .tail _ (.tail _ (.tail _ (.tail _ (.tail _ (.tail _ (List.mem_append_right _ (.head _)))))))); (case zq4 => exact fun p hp => .tail _ (.tail _ (.tail _ (.tail _ (.tail _ (.tail _ (List.mem_append_right _ (.tail _ (List.mem_append_left _ hp))))))))); (case zq5 => exact .tail _ (.tail _ (.tail _ (.tail _ (.tail _ (.tail _ (List.mem_append_right _ (.tail _ (List.mem_append_right _ (.head _)))))))))); (case zq6 => exact fun x hx => ⟨by have := (htb x hx).1; omega, by have := (htb x hx).2; omega⟩); (case zq7 => exact Nat.le_trans hb9 (by decide)))
    intro r1 ne1 h1 tk1 hR F1 N1
    obtain ⟨bk2, bo2, kvs2, A2, B2, dext, hr1, hne1, hA2, hB2, hbD2, hbs2, hKd⟩ := hR
    subst hr1
    rw [hne1] at N1
    clear hne1
    (try dsimp only)
  k_with "compareOp Eq ref ref" =>
    k_here
    (with_reducible show wpAny _ _ (compareOp _ (Value.ref bk) (Value.ref bk2)) _ _ _)
    rename News _ _ _ _ => lN
    k_dflt (
      refine' book_eq (w := w) (prog := PySem.Challenge.rw_pg0199_01.row.prog) lN (.tail _ (List.mem_append_right _ (List.mem_append_right _ (List.mem_append_right _ (.tail _ (.tail _ (.tail _ (.tail _ (.head _))))))))) (.head _) hbs hbs2 hbD hbD2 (hKb.mono fun v t h => h.mono fun p hp => .tail _ (List.mem_append_right _ (List.mem_append_right _ (List.mem_append_right _ (.tail _ (.tail _ (.tail _ (.tail _ (.tail _ (.tail _ hp)))))))))) (hKd.mono fun v t h => h.mono fun p hp => .tail _ (List.mem_append_right _ (List.mem_append_right _ hp))) ?zqu ?_
      (case zqu => first | exact zA hu rfl | exact zB hu rfl | ktr_units)
      rw [heq])
  k_with "GrownAll" =>
    rename News _ _ _ _ => lN
    k_dflt (exact ⟨hB2.grown lN (fun p hp => .tail _ (List.mem_append_right _ (List.mem_append_left _ hp))), hA2.grown lN (fun p hp => .tail _ (List.mem_append_left _ hp)), GrownAt.of lN (.tail _ (List.mem_append_right _ (List.mem_append_right _ (List.mem_append_right _ (.tail _ (.tail _ (.tail _ (.tail _ (.tail _ (.head _)))))))))), trivial⟩)
  k_steps
  · rename Fr _ _ _ _ => lF
    exact ⟨⟨.inl ⟨_, .bool true, [], rfl, fun _ => rfl, .bool _, post_ok ns, fun _ => ⟨List.nodup_nil, fun _ h => nomatch h⟩⟩, lF.keep, by assumption, rfl⟩, by assumption⟩
)
end
-- TurnX
section
open PySem PySem.W PyProof.Rows PySem.Calls
theorem turn_c {n b d t : Int} (hn : 0 < n) : Int.fdiv ((b + 2 * n * t) * (b + 2 * n * t) + d) (4 * n) = Int.fdiv (b * b + d) (4 * n) + (b + n * t) * t := by
  have h4 : (0 : Int) < 4 * n := Int.mul_pos (by decide) hn
  have e : (b + 2 * n * t) * (b + 2 * n * t) + d = (b * b + d) + (4 * n) * ((b + n * t) * t) := by grind
  rw [e, Int.fdiv_eq_ediv_of_nonneg _ (Int.le_of_lt h4), Int.fdiv_eq_ediv_of_nonneg _ (Int.le_of_lt h4), Int.add_mul_ediv_left _ _ (Int.ne_of_gt h4)]
theorem turn_gcd {n b c t : Int} : (Int.gcd (Int.gcd n (b + 2 * n * t) : Int) (c + (b + n * t) * t) : Int) = (Int.gcd (Int.gcd n b : Int) c : Int) := by
  have e : b + 2 * n * t = b + n * (2 * t) := by grind
  have hd : (Int.gcd n b : Int) ∣ (b + n * t) * t := Int.dvd_mul_of_dvd_left (Int.dvd_add (Int.gcd_dvd_right ..) (Int.dvd_mul_of_dvd_left (Int.gcd_dvd_left ..)))
  rw [e, Int.gcd_add_mul_left_right, Int.gcd_add_right_right_of_dvd _ hd]
theorem turn_red {n b c t : Int} {k : Nat} (hn : 0 < n) (g0 : (decide (0 < n) && decide (n < 32) && small b && small c) = true)
    (g1 : (decide (0 < n) && decide (n < 32) && small (b + 2 * n * t) && small (c + (b + n * t) * t)) = true) : redF (k + 1) n (b + 2 * n * t) (c + (b + n * t) * t) = redF (k + 1) n b c := by
  have h2 : (0 : Int) < 2 * n := Int.mul_pos (by decide) hn
  have e1 : b + 2 * n * t + n - 1 = b + n - 1 + 2 * n * t := by omega
  have eq : Int.fdiv (b + 2 * n * t + n - 1) (2 * n) = Int.fdiv (b + n - 1) (2 * n) + t := by
    rw [e1, Int.fdiv_eq_ediv_of_nonneg _ (Int.le_of_lt h2), Int.fdiv_eq_ediv_of_nonneg _ (Int.le_of_lt h2), Int.add_mul_ediv_left _ _ (Int.ne_of_gt h2)]
  have er : Int.fmod (b + 2 * n * t + n - 1) (2 * n) = Int.fmod (b + n - 1) (2 * n) := by
    rw [e1, Int.fmod_eq_emod_of_nonneg _ (Int.le_of_lt h2), Int.fmod_eq_emod_of_nonneg _ (Int.le_of_lt h2), Int.add_mul_emod_self_left]
  have ez := Int.mul_fdiv_add_fmod (b + n - 1) (2 * n)
  rw [redF, redF, if_pos g0, if_pos g1]
  dsimp only
  rw [eq, er]
  generalize Int.fdiv (b + n - 1) (2 * n) = q at *
  generalize Int.fmod (b + n - 1) (2 * n) = r at *
  have hr : r = b + n - 1 - 2 * n * q := by omega
  have two : ∀ x : Int, Int.fdiv (2 * x) 2 = x := fun x => by
    rw [Int.fdiv_eq_ediv_of_nonneg _ (by decide), Int.mul_ediv_cancel_left _ (by decide)]
  have ec : c + (b + n * t) * t - Int.fdiv ((q + t) * (b + 2 * n * t + r - n + 1)) 2 = c - Int.fdiv (q * (b + r - n + 1)) 2 := by
    have f1 : (q + t) * (b + 2 * n * t + r - n + 1) = 2 * ((q + t) * (b + n * t - n * q)) := by subst hr; grind
    have f2 : q * (b + r - n + 1) = 2 * (q * (b - n * q)) := by subst hr; grind
    rw [f1, f2, two, two]
    grind
  rw [ec]
theorem fdiv_in {x m B : Int} (hB : 0 ≤ B) (h0 : -B ≤ x) (h1 : x ≤ B) (hm : 0 < m) : -B ≤ Int.fdiv x m ∧ Int.fdiv x m ≤ B := by
  have z := Int.mul_le_mul_of_nonneg_left (show (1 : Int) ≤ m from hm) hB
  rw [Int.mul_one] at z
  rw [Int.fdiv_eq_ediv_of_nonneg _ (Int.le_of_lt hm)]
  refine ⟨Int.le_ediv_of_mul_le hm ?_, Int.ediv_le_of_le_mul hm (Int.le_trans h1 z)⟩
  rw [Int.neg_mul]
  exact Int.le_trans (Int.neg_le_neg z) h0
theorem abs_mul3 {x t : Int} {b : Nat} (hx : x.natAbs ≤ b) (ht : t.natAbs ≤ 3) : (x * t).natAbs ≤ b * 3 := Int.natAbs_mul x t ▸ Nat.mul_le_mul hx ht
theorem abs_add {x y : Int} {a b : Nat} (hx : x.natAbs ≤ a) (hy : y.natAbs ≤ b) : (x + y).natAbs ≤ a + b := Nat.le_trans (Int.natAbs_add_le x y) (Nat.add_le_add hx hy)
theorem abs_of {x : Int} {a : Nat} (h0 : -(a : Int) ≤ x) (h1 : x ≤ a) : x.natAbs ≤ a := by omega
theorem small_abs {x : Int} {a : Nat} (h : x.natAbs ≤ a) (ha : a < 1048576) : small x = true := by
  rw [small, Bool.and_eq_true, decide_eq_true_eq, decide_eq_true_eq]
  omega
theorem turn_small {n b c t : Int} (h0 : 0 < n) (h1 : n ≤ 9) (hb : b.natAbs ≤ 18) (hc : c.natAbs ≤ 9999) (ht : t.natAbs ≤ 3) :
    (decide (0 < n) && decide (n < 32) && small (b + 2 * n * t) && small (c + (b + n * t) * t)) = true := by
  have hn : ∀ m : Int, 0 < m → m ≤ 9 → m.natAbs ≤ 9 := fun m a0 a1 => abs_of (Int.le_trans (by decide) (Int.le_of_lt a0)) a1
  have hm : (2 * n).natAbs ≤ 18 := Int.natAbs_mul 2 n ▸ Nat.mul_le_mul (Nat.le_refl 2) (hn n h0 h1)
  rw [decide_eq_true h0, decide_eq_true (Int.lt_of_le_of_lt h1 (by decide)), small_abs (abs_add hb (abs_mul3 hm ht)) (by decide), small_abs (abs_add hc (abs_mul3 (abs_add hb (abs_mul3 (hn n h0 h1) ht)) ht)) (by decide)]
  rfl
/-- the roots do not hang on the turn -/
theorem roots_turn {d n t : Int} (h0 : 0 < n) (h1 : n ≤ 9) (hd0 : -1000 < d) (hd1 : d < 1000) (ht0 : -4 < t) (ht1 : t < 4) : ∀ m : Nat, m ≤ 18 → rootsB d n t m = rootsB d n 0 m
  | 0, _ => rfl
  | j + 1, hm => by
    have hc : -9999 ≤ Int.fdiv ((0 + (j : Int)) * (0 + (j : Int)) + d) (4 * n) ∧ Int.fdiv ((0 + (j : Int)) * (0 + (j : Int)) + d) (4 * n) ≤ 9999 := by
      have a1 := Int.mul_nonneg (Int.natCast_nonneg j) (Int.natCast_nonneg j)
      have a2 := Int.mul_le_mul (show (j : Int) ≤ 18 by omega) (show (j : Int) ≤ 18 by omega) (Int.natCast_nonneg j) (by decide)
      rw [Int.zero_add]
      exact fdiv_in (by decide) (by omega) (by omega) (Int.mul_pos (by decide) h0)
    have g := fun t => @turn_small n (0 + (j : Int)) _ t h0 h1 (abs_of (by omega) (by omega)) (abs_of hc.1 hc.2)
    have g0 := g 0 (by decide)
    have gb := g0
    rw [Int.mul_zero, Int.mul_zero, Int.add_zero, Int.add_zero] at gb
    have k0 := turn_c (n := n) (b := 0 + (j : Int)) (d := d) (t := 0) h0
    rw [rootsB, rootsB, roots_turn h0 h1 hd0 hd1 ht0 ht1 j (Nat.le_of_succ_le hm), turn_c h0, turn_gcd, k0, turn_gcd, turn_red h0 gb (g t (abs_of (Int.le_of_lt_add_one (by omega)) (by omega))), turn_red h0 gb g0]
end
-- PlnS
section
open PySem PySem.W PyProof.Rows PySem.Calls
/-- valF that tells what is left of the turns -/
noncomputable def valG (cls : List (List Int)) (d bound : Int) : Nat → VSt → Option (VSt × Nat)
  | 0, _ => none
  | n + 1, s =>
    match get6 s.h with
    | some (value, k, y, x, step, first) =>
      if value ≤ bound then
        match get3 cls[k.toNat]? with
        | some (a, b, c) => if valOk s value k y x step a b c d = true then valG cls d bound n (valNext s value k y x step first a b c d) else none
        | none => none
      else some (s, n + 1)
    | none => none
theorem valG_F {cls : List (List Int)} {d b b' : Int} (hb : b ≤ b') : ∀ {n : Nat} {s Z : VSt} {m : Nat}, valG cls d b n s = some (Z, m) → valF cls d b n s = some Z ∧ valF cls d b' n s = valF cls d b' m Z := fun {n} => by
  induction n with
  | zero => intro s Z m h; cases h
  | succ n ih =>
    intro s Z m h
    rw [valG] at h
    split at h
    · rename_i value k y x step first hh
      split at h
      · rename_i hle
        split at h
        · rename_i a b2 c hc
          split at h
          · rename_i ok
            have z := ih h
            have hle' : value ≤ b' := Int.le_trans hle hb
            constructor
            · rw [valF, hh]
              simp only [hle, if_true, hc, ok]
              exact z.1
            · rw [valF, hh]
              simp only [hle', if_true, hc, ok]
              exact z.2
          · cases h
        · cases h
      · rename_i hle
        obtain ⟨rfl, rfl⟩ := Prod.mk.inj (Option.some.inj h)
        exact ⟨by rw [valF, hh]; simp only [hle, if_false], rfl⟩
    · cases h
noncomputable def dueS (half d : Int) (cls : List (List Int)) (i : Nat) (s : DuSt) : Option DuSt :=
  match rootsB d (1 + (i : Int)) 0 (2 * (i + 1)) with
  | none => none
  | some R =>
    match dueK half (1 + (i : Int)) (gput s.roots (1 + (i : Int)) R) cls 3 with
    | none => none
    | some e => some ⟨gput s.roots (1 + (i : Int)) R, if e.s2 > 0 then gput s.due (1 + (i : Int)) ⟨e.s1, e.s2, e.s3, e.s4, e.T⟩ else s.due⟩
theorem dueS_N {half d : Int} {cls : List (List Int)} {tf : Int → Int} {i : Nat} {s u : DuSt} (h : dueN half d cls tf i = some s) (ht : rootsB d (1 + (i : Int)) (tf (1 + (i : Int))) (2 * (i + 1)) = rootsB d (1 + (i : Int)) 0 (2 * (i + 1))) (hs : dueS half d cls i s = some u) : dueN half d cls tf (i + 1) = some u := by
  rw [dueN, h]
  simp only [ht]
  rw [dueS] at hs
  exact hs
noncomputable def risingF (a : Int) : List Int → Bool
  | [] => true
  | b :: r => decide (a ≤ b) && risingF b r
noncomputable def rising : List Int → Bool
  | [] => true
  | a :: r => risingF a r
theorem rising_pw {l : List Int} (h : rising l = true) : l.Pairwise (· ≤ ·) := by
  cases l with
  | nil => exact .nil
  | cons a r =>
    have h : risingF a r = true := h
    induction r generalizing a with
    | nil => exact .cons (fun _ h => nomatch h) .nil
    | cons b r ih =>
      have h1 := Bool.and_eq_true_iff.mp (show (decide (a ≤ b) && risingF b r) = true from h)
      have h2 := ih b h1.2 h1.2
      have hab := of_decide_eq_true h1.1
      refine .cons (fun x hx => ?_) h2
      rcases List.mem_cons.mp hx with rfl | hx
      · exact hab
      · exact Int.le_trans hab ((List.pairwise_cons.mp h2).1 x hx)
noncomputable def okZU (Z : VSt) (U : DuSt) : Bool := rising Z.told && (decide (Z.told.length < 64) && eqB Z.book U.due)
/-- from the bound b on, k bounds more -/
noncomputable def chain (half d : Int) (cls : List (List Int)) : Nat → Nat → Nat → VSt → DuSt → Bool
  | 0, _, _, _, _ => true
  | k + 1, b, m, Z, U =>
    match valG cls d (b : Int) m Z, dueS half d cls (b - 1) U with
    | some (Z', m'), some U' => okZU Z' U' && chain half d cls k (b + 1) m' Z' U'
    | _, _ => false
noncomputable def due5 (half d : Int) (cls : List (List Int)) : Option DuSt := dueN half d cls (fun _ => 0) 5
noncomputable def chk (N : Int) : Bool :=
  (classesF (dF N)).all (fun t => decide (t.length = 3)) && (decide ((classesF (dF N)).length ≤ 100) &&
    match due5 (halfF (dF N)) (dF N) (classesF (dF N)) with
    | some U => chain (halfF (dF N)) (dF N) (classesF (dF N)) 4 6 400 ⟨hifyL ((heap0 (classesF (dF N))).length / 2) (heap0 (classesF (dF N))), [], []⟩ U
    | none => false)
end
-- Pln
section
open PySem PySem.W PyProof.Rows PySem.Calls
theorem dueN_congr {half d : Int} {cls : List (List Int)} {tf tf' : Int → Int} : ∀ {n : Nat}, (∀ i : Nat, i < n → rootsB d (1 + (i : Int)) (tf (1 + (i : Int))) (2 * (i + 1)) = rootsB d (1 + (i : Int)) (tf' (1 + (i : Int))) (2 * (i + 1))) → dueN half d cls tf n = dueN half d cls tf' n
  | 0, _ => rfl
  | n + 1, h => by
    rw [dueN, dueN, dueN_congr fun i hi => h i (Nat.lt_succ_of_lt hi)]
    simp only [h n (Nat.lt_succ_self n)]
theorem chain_ok {half d : Int} {cls : List (List Int)} {tf : Int → Int} {s0 : VSt} (ht : ∀ i : Nat, i < 9 → rootsB d (1 + (i : Int)) (tf (1 + (i : Int))) (2 * (i + 1)) = rootsB d (1 + (i : Int)) 0 (2 * (i + 1))) :
    ∀ {k b m : Nat} {Z : VSt} {U : DuSt}, chain half d cls k b m Z U = true → 1 ≤ b → b + k ≤ 10 → (∀ b' : Int, (b : Int) ≤ b' → valF cls d b' 400 s0 = valF cls d b' m Z) → dueN half d cls tf (b - 1) = some U →
    ∀ j < k, ∃ Z' U', valF cls d ((b + j : Nat) : Int) 400 s0 = some Z' ∧ dueN half d cls tf (b + j) = some U' ∧ okZU Z' U' = true := fun {k} => by
  induction k with
  | zero => intro b m Z U _ _ _ _ _ j hj; exact absurd hj (Nat.not_lt_zero _)
  | succ k ih =>
    intro b m Z U h hb hbk hV hU j hj
    rw [chain] at h
    split at h
    · rename_i Z' m' U' e1 e2
      rw [Bool.and_eq_true] at h
      have v1 := valG_F (Int.le_refl _) e1
      have hi : b - 1 < 9 := by omega
      have u1 : dueN half d cls tf (b - 1 + 1) = some U' := dueS_N hU (ht (b - 1) hi) e2
      have eb : b - 1 + 1 = b := by omega
      rw [eb] at u1
      cases j with
      | zero => exact ⟨Z', U', (hV _ (Int.le_refl _)).trans v1.1, u1, h.1⟩
      | succ j =>
        have z := ih (b := b + 1) h.2 (by omega) (by omega) (fun b' hb' => (hV b' (by omega)).trans (valG_F (by omega) e1).2) (by rw [Nat.add_sub_cancel]; exact u1) j (by omega)
        have e3 : b + 1 + j = b + (j + 1) := by omega
        rw [e3] at z
        exact z
    · cases h
theorem tf_sm4 {turns : List Int} (h : ∀ x ∈ turns, -4 < x ∧ x < 4) (n : Int) : -4 < tfF turns n ∧ tfF turns n < 4 := by
  rw [tfF, List.getD_eq_getElem?_getD]
  cases e : turns[(Int.fmod n (turns.length : Int)).toNat]? with
  | none => exact ⟨by decide, by decide⟩
  | some x => exact h x (List.mem_of_getElem? e)
theorem chk_law {N : Int} (h : chk N = true) (hd0 : -1000 < dF N) (hd1 : dF N < 1000) {b : Nat} {turns : List Int} (hb6 : 6 ≤ b) (hb9 : b ≤ 9) (ht : ∀ x ∈ turns, -4 < x ∧ x < 4) : LawAt N b turns := by
  rw [chk] at h
  simp only [Bool.and_eq_true] at h
  obtain ⟨h1, h2, h4⟩ := h
  have hr : ∀ i : Nat, i < 9 → rootsB (dF N) (1 + (i : Int)) (tfF turns (1 + (i : Int))) (2 * (i + 1)) = rootsB (dF N) (1 + (i : Int)) 0 (2 * (i + 1)) := fun i hi => roots_turn (by omega) (by omega) hd0 hd1 (tf_sm4 ht _).1 (tf_sm4 ht _).2 _ (by omega)
  split at h4
  · rename_i U e
    have e5 : dueN (halfF (dF N)) (dF N) (classesF (dF N)) (tfF turns) 5 = some U := (dueN_congr fun i hi => hr i (by omega)).trans e
    obtain ⟨Z', U', g1, g2, g3⟩ := chain_ok hr h4 (by decide) (by decide) (fun _ _ => rfl) e5 (b - 6) (by omega)
    have eb : 6 + (b - 6) = b := by omega
    rw [eb] at g1 g2
    simp only [okZU, Bool.and_eq_true] at g3
    exact ⟨Z', U', g1, g2, rising_pw g3.1, of_decide_eq_true g3.2.1, g3.2.2, fun t htm => of_decide_eq_true (List.all_eq_true.mp h1 t htm), of_decide_eq_true h2⟩
  · cases h4
theorem chk_0 : ∀ n < 8, chk ((8 * 0 + n : Nat) : Int) = true := by decide +kernel
theorem chk_1 : ∀ n < 8, chk ((8 * 1 + n : Nat) : Int) = true := by decide +kernel
theorem chk_2 : ∀ n < 8, chk ((8 * 2 + n : Nat) : Int) = true := by decide +kernel
theorem chk_3 : ∀ n < 8, chk ((8 * 3 + n : Nat) : Int) = true := by decide +kernel
theorem chk_4 : ∀ n < 8, chk ((8 * 4 + n : Nat) : Int) = true := by decide +kernel
theorem chk_5 : ∀ n < 8, chk ((8 * 5 + n : Nat) : Int) = true := by decide +kernel
theorem chk_6 : ∀ n < 8, chk ((8 * 6 + n : Nat) : Int) = true := by decide +kernel
theorem chk_7 : ∀ n < 8, chk ((8 * 7 + n : Nat) : Int) = true := by decide +kernel
theorem chk_8 : ∀ n < 8, chk ((8 * 8 + n : Nat) : Int) = true := by decide +kernel
theorem chk_9 : ∀ n < 8, chk ((8 * 9 + n : Nat) : Int) = true := by decide +kernel
theorem chk_10 : ∀ n < 8, chk ((8 * 10 + n : Nat) : Int) = true := by decide +kernel
theorem chk_11 : ∀ n < 8, chk ((8 * 11 + n : Nat) : Int) = true := by decide +kernel
theorem chk_k : ∀ k : Nat, k < 12 → ∀ n < 8, chk ((8 * k + n : Nat) : Int) = true
  | 0, _ => chk_0
  | 1, _ => chk_1
  | 2, _ => chk_2
  | 3, _ => chk_3
  | 4, _ => chk_4
  | 5, _ => chk_5
  | 6, _ => chk_6
  | 7, _ => chk_7
  | 8, _ => chk_8
  | 9, _ => chk_9
  | 10, _ => chk_10
  | 11, _ => chk_11
  | k + 12, h => absurd h (Nat.not_lt.mpr (Nat.le_add_left _ _))
theorem chk_all {N : Int} (h0 : 0 ≤ N) (h1 : N < 96) : chk N = true := by
  obtain ⟨n, rfl⟩ : ∃ n : Nat, N = (n : Int) := ⟨N.toNat, by omega⟩
  have z := chk_k (n / 8) (by omega) (n % 8) (Nat.mod_lt _ (by decide))
  rw [Nat.div_add_mod] at z
  exact z
theorem lawP (N : Int) (b : Nat) (turns : List Int) (h0 : 0 ≤ N) (h1 : N < 96) (hb6 : 6 ≤ b) (hb9 : b ≤ 9) (ht : ∀ x ∈ turns, -4 < x ∧ x < 4) : LawAt N b turns := chk_law (chk_all h0 h1) (dF_bd h0 h1).1 (dF_bd h0 h1).2 hb6 hb9 ht
end
end Mine
end
theorem PySem.Challenge.cw_pg0199_01_holds : PySem.Challenge.rw_pg0199_01.Holds := by
  exact Mine.law_holds Mine.lawP
