import PyProof.Rows.All
import Wide.All
import OpenK.AllK
import Wide.FinOn
import Lean
import PySem.Challenge.RW_wy0034_01
set_option Elab.async false
local macro_rules | `(tactic| walk_at $s:str) => `(tactic| k_extra $s)
local macro_rules | `(tactic| k_enter) => `(tactic| k_extra "k_enter")
local macro_rules | `(tactic| k_mem) => `(tactic| k_extra "k_mem")
local macro_rules | `(tactic| k_all) => `(tactic| k_extra "k_all")
local macro_rules | `(tactic| k_ne) => `(tactic| k_extra "k_ne")
local macro_rules | `(tactic| case zzfresh => $t:tacticSeq) => do
  let t' ← t.raw.replaceM fun s => match s with
    | .ident i r (.str .anonymous n) _ => if n.startsWith "zz" then do return some (.ident i r (← Lean.Macro.addMacroScope (.str .anonymous n)) []) else return none
    | _ => return none
  `(tactic| ($(⟨t'⟩):tacticSeq))

section
theorem Mine.resetHd : True := by
  k_with_none
  w_top off
  trivial
open PySem PySem.W PyProof.Rows
namespace Mine
set_option maxRecDepth 100000 in
set_option maxHeartbeats 8000000 in
open_top hd for PySem.Challenge.rw_wy0034_01
end Mine
end
section
theorem Mine.resetBase : True := by
  k_with_none
  w_top off
  trivial
open PySem PySem.W PyProof.Rows
namespace Mine

/-- the surroundings a contract of level `lv` is stated in -/
abbrev AR (lv : Nat) (e : Env) (outer : List Env) : Around :=
  { handled := none, depth := 800 - 80 * lv, frames := some (e :: outer), guards := some [], units := 9000 - 1000 * lv }

theorem use_AR {M : Model} {α : Type} {A : Around} {lv : Nat} {e : Env} {outer : List Env} {t : Sem α}
    {Q : α → Shared → Prop} {E : Value → Shared → Prop} {s : Shared}
    (hh : A.handled = none) (hd : A.depth ≤ 800 - 80 * lv) (hf : A.frames = some (e :: outer)) (hg : A.guards = some [])
    (hu : A.units ≤ 9000 - 1000 * lv)
    (h : wpAny M (AR lv e outer) t Q E s) : wpAny M A t Q E s := fun Γ p hΓ =>
  h Γ p ⟨hΓ.1.trans hh, Nat.le_trans hΓ.2.1 hd, fun l hl => hΓ.2.2.1 l (hf.trans hl), fun g hg' => hΓ.2.2.2.1 g (hg.trans hg'),
    Nat.le_trans hΓ.2.2.2.2 hu⟩

abbrev Led := List (Addr × Obj)

def Con (w : World) (lv : Nat) (t : Sem Value) (pre : Led → Prop) (post : Led → Value → Led → Prop) : Prop :=
  ∀ (p : Program) (loose : List Str) (mean : ExcName → Option Value) (mg mb : Str → Option Value) (cn : Str) (cs : Scope) (a : Addr) (ccd : Value)
    (cl : List (Str × Addr)) (L : Addr) (outer : List Env) (A₀ : Around) (base h₀ : Heap) (m : Str → Option Value) (news : Led) (s : Shared)
    (Q : Value → Shared → Prop) (E : Value → Shared → Prop),
    Below A₀ base outer h₀ → Fr h₀ L s.heap m → (Mine.hd.heap_39 w.params).In h₀ → News h₀ L s.heap news → Top p loose mean mg mb h₀ →
    cs.kind = .function → pre news →
    (∀ v h' tk' news', post news v news' → Fr h₀ L h' m → News h₀ L h' news' → Q v { s with heap := h', toks := tk' }) →
    wpAny (model PySem.Challenge.rw_wy0034_01.row.prog w) (AR lv (envX cn cs L a ccd cl) outer) t Q E s

theorem Con.use {w : World} {lv : Nat} {t : Sem Value} {pre : Led → Prop} {post : Led → Value → Led → Prop} (c : Con w lv t pre post)
    {A : Around} {p : Program} {loose : List Str} {mean : ExcName → Option Value} {mg mb : Str → Option Value} {cn : Str} {cs : Scope} {a : Addr} {ccd : Value}
    {cl : List (Str × Addr)} {L : Addr} {outer : List Env} {A₀ : Around} {base h₀ : Heap} {m : Str → Option Value} {news : Led} {s : Shared}
    {Q : Value → Shared → Prop} {E : Value → Shared → Prop}
    (B : Below A₀ base outer h₀) (F : Fr h₀ L s.heap m) (X : (Mine.hd.heap_39 w.params).In h₀) (N : News h₀ L s.heap news) (T : Top p loose mean mg mb h₀)
    (hk : cs.kind = .function)
    (hh : A.handled = none) (hd : A.depth ≤ 800 - 80 * lv) (hf : A.frames = some (envX cn cs L a ccd cl :: outer)) (hg : A.guards = some [])
    (hu : A.units ≤ 9000 - 1000 * lv)
    (hp : pre news)
    (h : ∀ v h' tk' news', post news v news' → Fr h₀ L h' m → News h₀ L h' news' → Q v { s with heap := h', toks := tk' }) :
    wpAny (model PySem.Challenge.rw_wy0034_01.row.prog w) A t Q E s :=
  use_AR hh hd hf hg hu (c p loose mean mg mb cn cs a ccd cl L outer A₀ base h₀ m news s Q E B F X N T hk hp h)


/-- a contract's walk is opened: the state taken apart -/
theorem Con.opened {w : World} {lv : Nat} {t : Sem Value} {pre : Led → Prop} {post : Led → Value → Led → Prop}
    (H : ∀ (p : Program) (loose : List Str) (mean : ExcName → Option Value) (mg mb : Str → Option Value) (cn : Str) (cs : Scope) (a : Addr) (ccd : Value)
      (cl : List (Str × Addr)) (L : Addr) (outer : List Env) (A₀ : Around) (base h₀ : Heap) (m : Str → Option Value) (news : Led)
      (sh : Heap) (sg sd so) (sk : Nat) (Q : Value → Shared → Prop) (E : Value → Shared → Prop),
      Below A₀ base outer h₀ → Fr h₀ L sh m → (Mine.hd.heap_39 w.params).In h₀ → News h₀ L sh news → Top p loose mean mg mb h₀ →
      cs.kind = .function → pre news →
      (∀ v h' tk' news', post news v news' → Fr h₀ L h' m → News h₀ L h' news' → Q v ⟨h', sg, sd, tk', so⟩) →
      wpAny (model PySem.Challenge.rw_wy0034_01.row.prog w) (AR lv (envX cn cs L a ccd cl) outer) t Q E ⟨sh, sg, sd, sk, so⟩) : Con w lv t pre post := by
  rintro p loose mean mg mb cn cs a ccd cl L outer A₀ base h₀ m news ⟨sh, sg, sd, sk, so⟩ Q E B F X N T hk hp hret
  exact H p loose mean mg mb cn cs a ccd cl L outer A₀ base h₀ m news sh sg sd so sk Q E B F X N T hk hp hret
/-- the walk forgets the count of tokens -/
theorem toks_any {prog : Program} {w : World} {A : Around} {l : List Stmt} {env : Env} {Q : Flow → Shared → Prop} {E : Value → Shared → Prop} {h : Heap} {g d n o}
    (H : ∀ tk, wpAny (model prog w) A (execs l env) Q E ⟨h, g, d, tk, o⟩) : wpAny (model prog w) A (execs l env) Q E ⟨h, g, d, n + 1, o⟩ := H _

end Mine
end
section
open PySem PySem.W PyProof.Rows
namespace Mine.Div
theorem lines1 : True := by
  k_with_none
  w_top off
  trivial

theorem news_lt {h₀ h : Heap} {L : Addr} {news : Led} (N : News h₀ L h news) : ∀ p ∈ news, p.1 < h.objs.size :=
  fun p hp => Heap.lt_size (N p hp).1

theorem lines2 : True := by
  k_with "execs cons" => (((try dsimp only); refine toks_any ?_; intro _))
  k_with "k_enter" => (case zzfresh => (refine' code_def ?zzk1 ?zzk2 ?zzk3 ?zzk4 ?zzk5 ?zzkA ?zzkF ?zzkK ?zzk6 ?zzk7 ?zzk8 ?zzk9 ?zzkB ?_ ?zzc2 ?zzc3 ?zzc4 ?zzc5; (case zzkA => exact rfl); (case zzkF => exact rfl); (case zzkK => first | exact rfl | assumption); (case zzk1 => k_asm); (case zzk2 => k_asm); (case zzk3 => k_asm); (case zzk4 => k_asm); (case zzk5 => k_asm); (case zzk6 => k_is); (case zzk7 => k_is); (case zzk8 => k_room); (case zzk9 => first | exact BindsTo.of_eq rfl | exact binds_K (by k_in) rfl (by k_is) rfl rfl rfl | fail "k_enter: no rule for these arguments"); (case zzc5 => decide); (case zzkB => exact locs rfl); (case zzc2 => exact rfl); (case zzc3 => exact rfl); (case zzc4 => exact rfl); k_whole; intro zzg' zzL' zzh' zzFG' zzF' zzN' zzB' zzX' zzT'; (try dsimp only); (try k_lift zzB'); (try k_fold)))
  k_with "mine open" => ((refine wpAny_call ?_; k_dflt k_enter))
  trivial
def Fit (b : Int) : Prop := 0 < b ∧ b.natAbs.log2 < 5000
theorem Fit.pos {b : Int} (h : Fit b) : 0 < b := h.1
theorem Fit.ne {b : Int} (h : Fit b) : b ≠ 0 := Int.ne_of_gt h.1

theorem Fit.nopy {a b : Int} (h : Fit b) : Builtin.divisionGoesByPylong a b = false :=
  PyProof.noPylong_of_log2 (Nat.lt_trans h.2 (by decide))

theorem lines3 : True := by
  k_with "call builtin:divmod" => (case zzfresh => (k_here; refine divmod_N (by assumption) (by assumption) (Fit.ne (by assumption)) ?_ (Or.inl (Fit.nopy (by assumption))); intro zzh1 zzF1 zzN1))
  trivial
set_option maxRecDepth 100000 in
set_option maxHeartbeats 8000000 in
theorem c45base {w : World} {a b n : Int} {ta tb tn : Tok} (hb : Fit b) (hn : 0 ≤ n) (ha : 0 ≤ a) :
    Con w 0 (call (.ref 45) [.int a ta, .int b tb, .int n tn]) (fun _ => (Builtin.Int.intBits a : Int) - n ≤ 4000)
      (fun news v news' => ∃ D t1 t2, v = .ref D ∧
        news' = (D, { cls := .type "tuple", data := .seq #[.int (Int.fdiv a b) t1, .int (Int.fmod a b) t2] }) :: news ∧ ∀ p ∈ news, p.1 < D) := by
  refine Con.opened ?_
  k_fill
  intro p loose mean mg mb cn cs a' ccd cl L outer A₀ base h₀ m news sh sg sd so sk Q E B F X N T hk hpre hret
  walk_at "mine open"
  k_steps
  exact hret _ _ _ _ ⟨_, _, _, rfl, rfl, news_lt (by assumption)⟩ (by assumption) (by assumption)
end Mine.Div
end
section
theorem Mine.resetDivP : True := by
  k_with_none
  w_top off
  trivial
open PySem PySem.W PyProof.Rows PySem.Builtin.Int
namespace Mine.Div

theorem and_hi_lo (a b k : Nat) (hb : b < 2 ^ k) : (a * 2 ^ k) &&& b = 0 := by
  apply Nat.eq_of_testBit_eq
  intro i
  rw [Nat.testBit_and, Nat.zero_testBit]
  by_cases h : i < k
  · rw [Nat.testBit_mul_two_pow]
    simp [Nat.not_le.mpr h]
  · have : b.testBit i = false := Nat.testBit_lt_two_pow (Nat.lt_of_lt_of_le hb (Nat.pow_le_pow_right (by decide) (Nat.le_of_not_lt h)))
    simp [this]

theorem or_hi_lo {x y : Int} {k : Nat} (hx : 0 ≤ x) (hy : 0 ≤ y) (hk : y < 2 ^ k) : Builtin.bitOr (x * 2 ^ k) y = x * 2 ^ k + y := by
  have hp : (0 : Int) < 2 ^ k := kbt_pos k
  have h0 : 0 ≤ x * 2 ^ k := Int.mul_nonneg hx (Int.le_of_lt hp)
  rw [bitOr_and, bitAnd_pp h0 hy]
  have e : (x * 2 ^ k).toNat = x.toNat * 2 ^ k := by
    obtain ⟨n, rfl⟩ := Int.eq_ofNat_of_zero_le hx
    rw [← kbt_cast, ← Int.natCast_mul, Int.toNat_natCast, Int.toNat_natCast]
  have hk' : y.toNat < 2 ^ k := by
    have := kbt_cast k; lia
  rw [e, and_hi_lo _ _ _ hk']
  simp

theorem bits_le {x : Int} {k : Nat} (h0 : 0 ≤ x) (h : x < 2 ^ k) : intBits x ≤ k := by
  rw [intBits_le_iff]
  have := kbt_cast k; lia

theorem shr_eq {a : Int} {k : Nat} : a.fdiv (2 ^ k) = a / 2 ^ k := by
  rw [Int.fdiv_eq_ediv_of_nonneg _ (Int.le_of_lt (kbt_pos k))]

theorem d3_step {a12 a3 b1 b2 b P q r : Int} (hP : 0 < P) (hb : b = b1 * P + b2) (hb2 : 0 ≤ b2) (hb2' : b2 < P) (hlo : P ≤ 2 * b1) (hhi : b1 < P)
    (ha0 : 0 ≤ a12) (ha : a12 < b) (h30 : 0 ≤ a3) (h3 : a3 < P) (hq0 : 0 ≤ q) (hq : q < P) (hr : q * b1 + r = a12) (hr0 : 0 ≤ r)
    (hup : r < b1 ∨ q = P - 1) : -2 * b ≤ (r * P + a3) - q * b2 ∧ (r * P + a3) - q * b2 < b ∧
      q * b + ((r * P + a3) - q * b2) = a12 * P + a3 := by
  have e : q * b + ((r * P + a3) - q * b2) = a12 * P + a3 := by
    subst hb; rw [← hr, Int.mul_add, Int.add_mul, Int.mul_assoc]; lia
  have h1 : q * b2 ≤ P * P := by
    have := Int.mul_le_mul (Int.le_of_lt hq) (Int.le_of_lt hb2') hb2 (Int.le_of_lt hP); lia
  have h2 : P * P ≤ 2 * (b1 * P) := by
    have := Int.mul_le_mul_of_nonneg_right hlo (Int.le_of_lt hP)
    rw [Int.mul_assoc] at this; exact this
  have h3' : 0 ≤ r * P := Int.mul_nonneg hr0 (Int.le_of_lt hP)
  have hqb2 : 0 ≤ q * b2 := Int.mul_nonneg hq0 hb2
  refine ⟨by lia, ?_, e⟩
  rcases hup with h | h
  · have h4 : (r + 1) * P ≤ b1 * P := Int.mul_le_mul_of_nonneg_right (by lia) (Int.le_of_lt hP)
    rw [Int.add_mul, Int.one_mul] at h4
    lia
  · have h5 : (a12 + 1) * P ≤ b * P := Int.mul_le_mul_of_nonneg_right (by lia) (Int.le_of_lt hP)
    rw [Int.add_mul, Int.one_mul] at h5
    have h6 : q * b = P * b - b := by rw [h, Int.sub_mul, Int.one_mul]
    rw [Int.mul_comm b P] at h5
    lia

end Mine.Div
end
section
open PySem PySem.W PyProof.Rows PySem.Builtin.Int
namespace Mine.Div
theorem lines4 : True := by
  k_with_none
  w_top off
  trivial

theorem lines5 : True := by
  k_with "execs cons" => (((try dsimp only); refine toks_any ?_; intro _))
  k_with "k_enter" => (case zzfresh => (refine' code_def ?zzk1 ?zzk2 ?zzk3 ?zzk4 ?zzk5 ?zzkA ?zzkF ?zzkK ?zzk6 ?zzk7 ?zzk8 ?zzk9 ?zzkB ?_ ?zzc2 ?zzc3 ?zzc4 ?zzc5; (case zzkA => exact rfl); (case zzkF => exact rfl); (case zzkK => first | exact rfl | assumption); (case zzk1 => k_asm); (case zzk2 => k_asm); (case zzk3 => k_asm); (case zzk4 => k_asm); (case zzk5 => k_asm); (case zzk6 => k_is); (case zzk7 => k_is); (case zzk8 => k_room); (case zzk9 => first | exact BindsTo.of_eq rfl | exact binds_K (by k_in) rfl (by k_is) rfl rfl rfl | fail "k_enter: no rule for these arguments"); (case zzc5 => decide); (case zzkB => exact locs rfl); (case zzc2 => exact rfl); (case zzc3 => exact rfl); (case zzc4 => exact rfl); k_whole; intro zzg' zzL' zzh' zzFG' zzF' zzN' zzB' zzX' zzT'; (try dsimp only); (try k_lift zzB'); (try k_fold)))
  k_with "mine open" => ((refine wpAny_call ?_; k_dflt k_enter))
  k_with "binaryOp LShift int int" => ((k_here; refine lshift_int (by assumption) (by assumption) ?_))
  k_with "binaryOp RShift int int" => ((k_here; refine rshift_int (by assumption) ?_))
  k_with "binaryOp Mult int int" => ((k_here; refine mul_int ?_ (by assumption)))
  k_with "binaryOp BitOr int int" => ((k_here; refine or_int ?_; rw [or_hi_lo (by assumption) (by assumption) (by assumption)]))
  trivial
theorem sub1_mul (x y : Int) : (x - 1) * y = x * y - y := by rw [Int.sub_mul, Int.one_mul]
theorem skip1 {h g : Heap} {L : Addr} {x : Addr × Obj} {r : Led} (N : News h L g (x :: r)) : News h L g r := fun p hp => N p (.tail _ hp)
theorem skip2 {h g : Heap} {L : Addr} {x y : Addr × Obj} {r : Led} (N : News h L g (x :: y :: r)) : News h L g (x :: r) := fun p hp => by
  rcases List.mem_cons.mp hp with rfl | hp
  · exact N _ (.head _)
  · exact N _ (.tail _ (.tail _ hp))
theorem whl_split {p : Prop} [Decidable p] {T F : Prop} (t : p → T) (f : ¬ p → F) : WhlIf (decide p) T F := by
  by_cases h : p
  · exact .yes (decide_eq_true h) (t h)
  · exact .no (decide_eq_false h) (f h)
theorem lines6 : True := by
  k_with "exec While Compare" => ((k_here; refine whl_start 3 ?_))
  k_with "WhlIf" => ((first | (refine WhlIf.yes (by simp only [decide_eq_true_eq]; omega) ?_) | (refine WhlIf.no (by simp only [decide_eq_false_iff_not]; omega) ?_) | (refine whl_split (fun hw1 => ?_) (fun hw1 => ?_))))
  trivial
/-- `_div3n2n` gives quotient and rest -/
inductive D3post (b a12 a3 : Int) (n : Nat) (news : Led) : Value → Led → Prop
  | mk (D : Addr) (q r : Int) (t1 t2 : Tok) (l : AllLt D news) (e : q * b + r = a12 * 2 ^ n + a3) (h0 : 0 ≤ r) (h1 : r < b) :
    D3post b a12 a3 n news (.ref D) ((D, { cls := .type "tuple", data := .seq #[.int q t1, .int r t2] }) :: news)
theorem fr_swap {g h : Heap} {L : Addr} {m0 : Str → Option Value} {x y : Option Value} {a b : Str} (ne : a ≠ b) (F : Fr g L h (fun z => if z = a then x else if z = b then y else m0 z)) :
    Fr g L h (fun z => if z = b then y else if z = a then x else m0 z) := by
  have e : (fun z => if z = a then x else if z = b then y else m0 z) = (fun z => if z = b then y else if z = a then x else m0 z) := by
    funext z
    by_cases h1 : z = a
    · subst h1; rw [if_pos rfl, if_neg ne, if_pos rfl]
    · rw [if_neg h1, if_neg h1]
  rw [← e]; exact F
def Stop (p : Prop) := p
theorem stop_here {p : Prop} (h : Stop p) : p := h
/-- where the two ways of the guess meet -/
inductive MidP (sg : Array GenState) (sd : Drawn) (so : OsState) (g : Heap) (L : Addr) (m0 : Str → Option Value) (news : Led) (q r : Int) : Flow → Shared → Prop
  | mk (h : Heap) (tk tq tr : Nat) (F : Fr g L h (fun y => if y = Str.ofString "r" then some (.int r tr) else if y = Str.ofString "q" then some (.int q tq) else m0 y)) (N : News g L h news) :
    MidP sg sd so g L m0 news q r .next ⟨h, sg, sd, tk, so⟩
theorem mid {M : Model} {A : Around} {t : Sem Flow} {Q : Flow → Shared → Prop} {E : Value → Shared → Prop} {s : Shared} {g : Heap} {L : Addr} {m0 : Str → Option Value} {h : Heap} {news : Led} {sg : Array GenState} {sd : Drawn} {so : OsState} (q r : Int)
    (F : Fr g L h m0) (N : News g L h news) (h1 : wpAny M A t (MidP sg sd so g L m0 news q r) E s)
    (h2 : ∀ h' tk' tq tr, Fr g L h' (fun y => if y = Str.ofString "r" then some (.int r tr) else if y = Str.ofString "q" then some (.int q tq) else m0 y) → News g L h' news → Q .next ⟨h', sg, sd, tk', so⟩) : wpAny M A t Q E s :=
  wpAny_mono h1 (fun fl s' hm => by cases hm with | mk h tk tq tr F N => exact h2 _ _ _ _ F N) fun _ _ e => e
theorem lines7 : True := by
  k_with "call ref" => (case zzfresh => (k_here; (with_reducible show wpAny _ _ (call (Value.ref 45) _) _ _ _); k_dflt (refine' Con.use (c45base (by assumption) (by assumption) (by assumption)) ?zzB ?zzF ?zzX ?zzN ?zzT ?zzhk ?zzhh ?zzhd ?zzhf ?zzhg ?zzhu ?zzhp ?_; (case zzhf => exact rfl); (case zzhk => exact rfl); (case zzhh => exact rfl); (case zzhg => exact rfl); (case zzF => k_asm); (case zzN => k_asm); (case zzB => k_asm); (case zzX => k_in); (case zzT => k_asm); (case zzhd => exact Nat.le_of_ble_eq_true rfl); (case zzhu => exact Nat.le_of_ble_eq_true rfl); (case zzhp => assumption)); intro zzv' zzh' zztk' zznews' zzhpost' zzF' zzN'; obtain ⟨zzD', zzu1', zzu2', zze1', zze2', zzl1'⟩ := zzhpost'; subst zze1'; subst zze2'; replace l1' := allLt_of zzl1'))
  k_with "execs cons" => ((k_here; (with_reducible show wpAny _ _ (execs (Stmt.If _ _ _ _ :: _) _) _ _ _); refine stop_here ?_))
  trivial
set_option maxRecDepth 100000 in
set_option maxHeartbeats 8000000 in
theorem d3w {w : World} {a12 a3 b b1 b2 n q r : Int} {t1 t2 t3 t4 t5 t6 : Tok} (hn0 : 0 ≤ n) (o2 : 0 ≤ a3) (o3 : a3 < 2 ^ n.toNat) (hb : 0 < b)
    (hA : (a12.fdiv (2 ^ n.toNat) == b1) = true → (intBits 1 : Int) + n ≤ 2 ^ 27 ∧ (intBits b1 : Int) + n ≤ 2 ^ 27 ∧ 1 * 2 ^ n.toNat - 1 = q ∧ a12 - b1 * 2 ^ n.toNat + b1 = r)
    (hB : (a12.fdiv (2 ^ n.toNat) == b1) = false → 0 ≤ a12 ∧ Fit b1 ∧ (intBits a12 : Int) - n ≤ 4000 ∧ a12.fdiv b1 = q ∧ a12.fmod b1 = r)
    (z3 : (intBits r : Int) + n ≤ 2 ^ 27) (z4 : IntMulOk q b2) (o1 : 0 ≤ r) (lo : -2 * b ≤ r * 2 ^ n.toNat + a3 - q * b2) (up : r * 2 ^ n.toNat + a3 - q * b2 < b)
    (e : q * b + (r * 2 ^ n.toNat + a3 - q * b2) = a12 * 2 ^ n.toNat + a3) :
    Con w 1 (call (.ref 52) [.int a12 t1, .int a3 t2, .int b t3, .int b1 t4, .int b2 t5, .int n t6]) (fun _ => True) (D3post b a12 a3 n.toNat) := by
  refine Con.opened ?_
  k_fill
  intro p loose mean mg mb cn cs a' ccd cl L outer A₀ base h₀ m news sh sg sd so sk Q E B F X N T hk hpre hret
  walk_at "mine open"
  k_steps
  unfold Stop
  rename Fr _ _ _ _ => F9
  rename News _ _ _ _ => N9
  refine wpAny_execs_cons ?_
  refine mid (sg := sg) (sd := sd) (so := so) q r F9 N9 ?_ ?_
  · clear z3 z4 o1 lo up e
    cases hc : (a12.fdiv (2 ^ n.toNat) == b1) with
    | true =>
      obtain ⟨z1, z2, eq, er⟩ := hA hc
      clear hA hB
      subst eq er
      k_steps
      exact .mk _ _ _ _ (by first | assumption | exact fr_swap (by decide) (by assumption)) (by first | assumption | exact skip1 (by assumption))
    | false =>
      obtain ⟨ha0, hf, hbit, eq, er⟩ := hB hc
      clear hA hB
      subst eq er
      k_steps
      exact .mk _ _ _ _ (by first | assumption | exact fr_swap (by decide) (by assumption)) (by first | assumption | exact skip1 (by assumption))
  · clear hA hB
    intro h' tk' tq tr F' N'
    k_steps
    all_goals
      refine hret _ _ _ _ ⟨_, _, _, _, _, ?_, ?_, ?_, ?_⟩ (by assumption) (by assumption)
      · first | assumption | exact And.right (by assumption) | exact allLt_of (by assumption)
      · (try simp only [sub1_mul]); omega
      · omega
      · omega
end Mine.Div
end
section
theorem Mine.resetDiv3 : True := by
  k_with_none
  w_top off
  trivial
open PySem PySem.W PyProof.Rows PySem.Builtin.Int
namespace Mine.Div

theorem p2_add (k l : Nat) : (2 : Int) ^ (k + l) = 2 ^ k * 2 ^ l := by
  rw [← kbt_cast, ← kbt_cast, ← kbt_cast, Nat.pow_add, Int.natCast_mul]

theorem p2_le {k l : Nat} (h : k ≤ l) : (2 : Int) ^ k ≤ 2 ^ l := by
  rw [← kbt_cast, ← kbt_cast]; exact Int.ofNat_le.mpr (Nat.pow_le_pow_right (by decide) h)

theorem fit_of {x : Int} {k : Nat} (h0 : 0 < x) (h : x < 2 ^ k) (hk : k ≤ 4999) : Fit x := by
  refine ⟨h0, ?_⟩
  have h1 : x.natAbs < 2 ^ k := by have := kbt_cast k; lia
  have h2 : x.natAbs ≠ 0 := by lia
  exact Nat.lt_of_lt_of_le ((Nat.log2_lt h2).mpr h1) (by lia)

theorem d3 {w : World} {a12 a3 b b1 b2 n : Int} {t1 t2 t3 t4 t5 t6 : Tok} (hn0 : 0 ≤ n) (hn : n ≤ 2400)
    (hb : b = b1 * 2 ^ n.toNat + b2) (hb2 : 0 ≤ b2) (hb2' : b2 < 2 ^ n.toNat) (hlo : 2 ^ n.toNat ≤ 2 * b1) (hhi : b1 < 2 ^ n.toNat)
    (ha0 : 0 ≤ a12) (ha : a12 < b) (h30 : 0 ≤ a3) (h3 : a3 < 2 ^ n.toNat) :
    Con w 1 (call (.ref 52) [.int a12 t1, .int a3 t2, .int b t3, .int b1 t4, .int b2 t5, .int n t6]) (fun _ => True) (D3post b a12 a3 n.toNat) := by
  have hk : n.toNat ≤ 2400 := by lia
  have hP := kbt_pos n.toNat
  have hPP := p2_add n.toNat n.toNat
  have hle1 : intBits b1 ≤ n.toNat := bits_le (by lia) hhi
  have hb1 : 0 < b1 := by lia
  have hbP : 0 ≤ b1 * 2 ^ n.toNat := Int.mul_nonneg (by lia) (by lia)
  have hbPP : b < 2 ^ (n.toNat + n.toNat) := by
    have h4 : (b1 + 1) * 2 ^ n.toNat ≤ 2 ^ n.toNat * 2 ^ n.toNat := Int.mul_le_mul_of_nonneg_right (by lia) (by lia)
    rw [Int.add_mul, Int.one_mul] at h4
    lia
  have hb1P : 2 ^ n.toNat ≤ b1 * 2 ^ n.toNat := by
    have := Int.mul_le_mul_of_nonneg_right (c := 2 ^ n.toNat) (show (1 : Int) ≤ b1 by lia) (by lia)
    lia
  have hb0 : 0 < b := by lia
  have hab : intBits a12 ≤ n.toNat + n.toNat := bits_le ha0 (by lia)
  have hb2b : intBits b2 ≤ n.toNat := bits_le hb2 hb2'
  cases hc : (a12.fdiv (2 ^ n.toNat) == b1) with
  | true =>
    have hc' : a12 / 2 ^ n.toNat = b1 := by rw [← shr_eq]; exact beq_iff_eq.mp hc
    have hm := Int.emod_nonneg a12 (show (2 : Int) ^ n.toNat ≠ 0 by lia)
    have hd := Int.emod_def a12 (2 ^ n.toNat)
    rw [hc', Int.mul_comm] at hd
    have hr0 : 0 ≤ a12 - b1 * 2 ^ n.toNat + b1 := by lia
    have S := d3_step (q := 1 * 2 ^ n.toNat - 1) (r := a12 - b1 * 2 ^ n.toNat + b1) hP hb hb2 hb2' hlo hhi ha0 ha h30 h3 (by lia) (by lia)
      (by rw [Int.one_mul, sub1_mul, Int.mul_comm]; lia) hr0 (Or.inr (by lia))
    refine d3w (q := 1 * 2 ^ n.toNat - 1) (r := a12 - b1 * 2 ^ n.toNat + b1) hn0 h30 h3 hb0 (fun _ => ⟨?_, ?_, rfl, rfl⟩) (fun e => by rw [hc] at e; cases e) ?_ ?_ hr0 S.1 S.2.1 S.2.2
    · have : intBits 1 = 1 := by decide
      lia
    · lia
    · have : intBits (a12 - b1 * 2 ^ n.toNat + b1) ≤ n.toNat + n.toNat + 1 := bits_le hr0 (by rw [p2_add _ 1]; lia)
      lia
    · exact IntMulOk.of_le (m := n.toNat) (n := n.toNat) (bits_le (by lia) (by lia)) hb2b (by lia)
  | false =>
    have hc' : a12 / 2 ^ n.toNat ≠ b1 := by rw [← shr_eq]; exact fun e => by rw [e] at hc; simp at hc
    have hlt : a12 < b1 * 2 ^ n.toNat := by
      rcases Int.lt_or_le a12 (b1 * 2 ^ n.toNat) with h | h
      · exact h
      · exact absurd ((kbt_unique hP (q := b1) (r := a12 - b1 * 2 ^ n.toNat) (by rw [Int.mul_comm]; lia) (by lia) (by lia)).1) hc'
    have e1 : a12.fdiv b1 = a12 / b1 := Int.fdiv_eq_ediv_of_nonneg _ (by lia)
    have e2 : a12.fmod b1 = a12 % b1 := Int.fmod_eq_emod_of_nonneg _ (by lia)
    have hm := Int.emod_nonneg a12 (show b1 ≠ 0 by lia)
    have hm' := Int.emod_lt_of_pos a12 hb1
    have hq0 : 0 ≤ a12 / b1 := Int.ediv_nonneg ha0 (by lia)
    have hd := Int.emod_def a12 b1
    have hq : a12 / b1 < 2 ^ n.toNat := Int.ediv_lt_of_lt_mul hb1 (by rw [Int.mul_comm]; exact hlt)
    have S := d3_step (q := a12 / b1) (r := a12 % b1) hP hb hb2 hb2' hlo hhi ha0 ha h30 h3 hq0 hq
      (by rw [Int.mul_comm]; lia) hm (Or.inl hm')
    refine d3w (q := a12.fdiv b1) (r := a12.fmod b1) hn0 h30 h3 hb0 (fun e => by rw [hc] at e; cases e) (fun _ => ⟨ha0, fit_of hb1 hhi (by lia), by lia, rfl, rfl⟩) ?_ ?_ (by rw [e2]; exact hm) (by rw [e1, e2]; exact S.1) (by rw [e1, e2]; exact S.2.1) (by rw [e1, e2]; exact S.2.2)
    · have : intBits (a12.fmod b1) ≤ n.toNat := bits_le (by lia) (by lia)
      lia
    · rw [e1]; exact IntMulOk.of_le (m := n.toNat) (n := n.toNat) (bits_le hq0 hq) hb2b (by lia)

end Mine.Div
end
section
open PySem PySem.W PyProof.Rows PySem.Builtin.Int
namespace Mine.Div
theorem lines8 : True := by
  k_with_none
  w_top off
  trivial

structure D3pre (a12 a3 b b1 b2 n : Int) : Prop where
  hn0 : 0 ≤ n
  hn : n ≤ 2400
  hb : b = b1 * 2 ^ n.toNat + b2
  hb2 : 0 ≤ b2
  hb2' : b2 < 2 ^ n.toNat
  hlo : 2 ^ n.toNat ≤ 2 * b1
  hhi : b1 < 2 ^ n.toNat
  ha0 : 0 ≤ a12
  ha : a12 < b
  h30 : 0 ≤ a3
  h3 : a3 < 2 ^ n.toNat

theorem D3pre.pos {a12 a3 b b1 b2 n : Int} (h : D3pre a12 a3 b b1 b2 n) : 0 < b := by
  have := h.ha0; have := h.ha; lia

inductive D3res (b a12 a3 : Int) (n : Nat) (news : Led) : Value → Led → Prop
  | mk (D : Addr) (q r : Int) (t1 t2 : Tok) (l : AllLt D news) (e : q * b + r = a12 * 2 ^ n + a3) (h0 : 0 ≤ r) (h1 : r < b) (h2 : 0 ≤ q) (h3 : q < 2 ^ n) :
    D3res b a12 a3 n news (.ref D) ((D, { cls := .type "tuple", data := .seq #[.int q t1, .int r t2] }) :: news)

theorem Con.weak {w : World} {lv : Nat} {t : Sem Value} {pre : Led → Prop} {post post' : Led → Value → Led → Prop} (c : Con w lv t pre post)
    (h : ∀ news v news', post news v news' → post' news v news') : Con w lv t pre post' := by
  unfold Con at c ⊢
  intro p loose mean mg mb cn cs a ccd cl L outer A₀ base h₀ m news s Q E B F X N T hk hp hret
  exact c p loose mean mg mb cn cs a ccd cl L outer A₀ base h₀ m news s Q E B F X N T hk hp (fun v h' tk' news' hpost => hret v h' tk' news' (h _ _ _ hpost))

theorem c52 {w : World} {a12 a3 b b1 b2 n : Int} {t1 t2 t3 t4 t5 t6 : Tok} (H : D3pre a12 a3 b b1 b2 n) :
    Con w 1 (call (.ref 52) [.int a12 t1, .int a3 t2, .int b t3, .int b1 t4, .int b2 t5, .int n t6]) (fun _ => True) (D3res b a12 a3 n.toNat) := by
  refine Con.weak (d3 H.hn0 H.hn H.hb H.hb2 H.hb2' H.hlo H.hhi H.ha0 H.ha H.h30 H.h3) ?_
  rintro news v news' ⟨D, q, r, u1, u2, l, e, h0, h1⟩
  have hP := kbt_pos n.toNat
  have hb := H.pos
  refine .mk D q r u1 u2 l e h0 h1 ?_ ?_
  · have := H.ha0; have := H.h30
    have h2 : 0 ≤ a12 * 2 ^ n.toNat := Int.mul_nonneg H.ha0 (by lia)
    rcases Int.lt_or_le q 0 with h | h
    · have := Int.mul_le_mul_of_nonneg_right (show q ≤ -1 by lia) (Int.le_of_lt hb)
      lia
    · exact h
  · have h5 : (a12 + 1) * 2 ^ n.toNat ≤ b * 2 ^ n.toNat := Int.mul_le_mul_of_nonneg_right (by have := H.ha; lia) (by lia)
    rw [Int.add_mul, Int.one_mul] at h5
    have := H.h3
    rcases Int.lt_or_le q (2 ^ n.toNat) with h | h
    · exact h
    · have := Int.mul_le_mul_of_nonneg_right h (Int.le_of_lt hb)
      rw [Int.mul_comm (2 ^ n.toNat) b] at this
      lia

def Next (a4 b b1 b2 h : Int) : Prop := ∀ r, 0 ≤ r → r < b → D3pre r a4 b b1 b2 h
theorem Next.get {a4 b b1 b2 h r : Int} (H : Next a4 b b1 b2 h) (h0 : 0 ≤ r) (h1 : r < b) : D3pre r a4 b b1 b2 h := H r h0 h1

section
variable {prog : Program} {w : World} {A : Around} {E : Value → Shared → Prop} {s : Shared} {a n c : Int} {t u : Tok} {Q : Value → Shared → Prop}
theorem shr_is (he : a.fdiv (2 ^ n.toNat) = c) (hn : 0 ≤ n) (h : Q (.int c s.toks) { s with toks := s.toks + 1 }) : wpAny (model prog w) A (binaryOp .RShift (.int a t) (.int n u)) Q E s := by
  subst he; exact rshift_int hn h
theorem and_is (he : Builtin.bitAnd a n = c) (h : Q (.int c s.toks) { s with toks := s.toks + 1 }) : wpAny (model prog w) A (binaryOp .BitAnd (.int a t) (.int n u)) Q E s := by
  subst he; exact and_int h
theorem shl_is (he : a * 2 ^ n.toNat = c) (hn : 0 ≤ n) (hs : (intBits a : Int) + n ≤ 2 ^ 27) (h : Q (.int c s.toks) { s with toks := s.toks + 1 }) : wpAny (model prog w) A (binaryOp .LShift (.int a t) (.int n u)) Q E s := by
  subst he; exact lshift_int hn hs h
theorem ishl_is (he : a * 2 ^ n.toNat = c) (hn : 0 ≤ n) (hs : (intBits a : Int) + n ≤ 2 ^ 27) (h : Q (.int c s.toks) { s with toks := s.toks + 1 }) : wpAny (model prog w) A (inplaceOp .LShift (.int a t) (.int n u)) Q E s := by
  subst he; exact ilshift_int hn hs h
theorem shl_q (hn : 0 ≤ n) (h0 : 0 ≤ a) (h1 : a < 2 ^ n.toNat) (hn2 : n ≤ 2400) (h : Q (.int (a * 2 ^ n.toNat) s.toks) { s with toks := s.toks + 1 }) : wpAny (model prog w) A (binaryOp .LShift (.int a t) (.int n u)) Q E s :=
  lshift_int hn (by have := bits_le h0 h1; lia) h
theorem or_is (h0 : 0 ≤ a) (h1 : 0 ≤ c) (h2 : c < 2 ^ n.toNat) (h : Q (.int (a * 2 ^ n.toNat + c) s.toks) { s with toks := s.toks + 1 }) : wpAny (model prog w) A (binaryOp .BitOr (.int (a * 2 ^ n.toNat) t) (.int c u)) Q E s :=
  or_int (by rw [or_hi_lo h0 h1 h2]; exact h)
end

theorem lines9 : True := by
  k_with "execs cons" => (((try dsimp only); refine toks_any ?_; intro _))
  k_with "k_enter" => (case zzfresh => (refine' code_def ?zzk1 ?zzk2 ?zzk3 ?zzk4 ?zzk5 ?zzkA ?zzkF ?zzkK ?zzk6 ?zzk7 ?zzk8 ?zzk9 ?zzkB ?_ ?zzc2 ?zzc3 ?zzc4 ?zzc5; (case zzkA => exact rfl); (case zzkF => exact rfl); (case zzkK => first | exact rfl | assumption); (case zzk1 => k_asm); (case zzk2 => k_asm); (case zzk3 => k_asm); (case zzk4 => k_asm); (case zzk5 => k_asm); (case zzk6 => k_is); (case zzk7 => k_is); (case zzk8 => k_room); (case zzk9 => first | exact BindsTo.of_eq rfl | exact binds_K (by k_in) rfl (by k_is) rfl rfl rfl | fail "k_enter: no rule for these arguments"); (case zzc5 => decide); (case zzkB => exact locs rfl); (case zzc2 => exact rfl); (case zzc3 => exact rfl); (case zzc4 => exact rfl); k_whole; intro zzg' zzL' zzh' zzFG' zzF' zzN' zzB' zzX' zzT'; (try dsimp only); (try k_lift zzB'); (try k_fold)))
  k_with "mine open" => ((refine wpAny_call ?_; k_dflt k_enter))
  k_with "binaryOp LShift int int" => ((k_here; k_dflt (first | (refine shl_is (by with_reducible assumption) (by with_reducible assumption) (by with_reducible assumption) ?_) | (refine shl_q (by with_reducible assumption) (by with_reducible assumption) (by with_reducible assumption) (by with_reducible assumption) ?_))))
  k_with "inplaceOp LShift int int" => ((k_here; k_dflt (refine ishl_is (by with_reducible assumption) (by decide) (by with_reducible assumption) ?_)))
  k_with "binaryOp RShift int int" => ((k_here; k_dflt (refine shr_is (by with_reducible assumption) (by first | with_reducible assumption | decide) ?_)))
  k_with "inplaceOp RShift int int" => ((k_here; k_dflt (refine irshift_int (by decide) ?_)))
  k_with "binaryOp BitAnd int int" => ((k_here; k_dflt (refine and_is (by with_reducible assumption) ?_)))
  k_with "binaryOp BitOr int int" => ((k_here; k_dflt (refine or_is (by with_reducible assumption) (by with_reducible assumption) (by with_reducible assumption) ?_)))
  k_with "call ref" => (refine stop_here ?_)
  k_with "call ref" => (case zzfresh => (k_here; (with_reducible show wpAny _ _ (call (Value.ref 52) _) _ _ _); k_dflt (refine' Con.use (c52 (by first | assumption | exact Next.get (by assumption) (by assumption) (by assumption))) ?zzB ?zzF ?zzX ?zzN ?zzT ?zzhk ?zzhh ?zzhd ?zzhf ?zzhg ?zzhu ?zzhp ?_; (case zzhf => exact rfl); (case zzhk => exact rfl); (case zzhh => exact rfl); (case zzhg => exact rfl); (case zzF => k_asm); (case zzN => k_asm); (case zzB => k_asm); (case zzX => k_in); (case zzT => k_asm); (case zzhd => exact Nat.le_of_ble_eq_true rfl); (case zzhu => exact Nat.le_of_ble_eq_true rfl); (case zzhp => exact True.intro)); intro zzv' zzh' zztk' zznews' zzhpost' zzF' zzN'; k_dflt (obtain ⟨zzD', zzq', zzr', zzu1', zzu2', zzl1', zze3', zze4', zze5', zze6', zze7'⟩ := zzhpost'); (try simp only [AllLt, and_true] at zzl1')))
  trivial
theorem dropN {h g : Heap} {L : Addr} {x : Addr × Obj} {r : Led} (xs : Led) (N : News h L g (x :: (xs ++ r))) : News h L g (x :: r) := fun p hp => by
  rcases List.mem_cons.mp hp with rfl | hp
  · exact N _ (.head _)
  · exact N _ (.tail _ (List.mem_append_right _ hp))

/-- `_div2n1n` gives quotient and rest -/
inductive D2post (a b : Int) (news : Led) : Value → Led → Prop
  | mk (D : Addr) (q r : Int) (t1 t2 : Tok) (l : AllLt D news) (e : q * b + r = a) (h0 : 0 ≤ r) (h1 : r < b) :
    D2post a b news (.ref D) ((D, { cls := .type "tuple", data := .seq #[.int q t1, .int r t2] }) :: news)

theorem comb {q1 q2 r1 r2 b a12 a3 a4 P a : Int} (h1 : q1 * b + r1 = a12 * P + a3) (h2 : q2 * b + r2 = r1 * P + a4) (h3 : (a12 * P + a3) * P + a4 = a) :
    (q1 * P + q2) * b + r2 = a := by
  rw [← h3, ← h1, Int.add_mul, Int.add_mul, Int.mul_right_comm]; lia

theorem fd2 (x : Int) : x.fdiv (2 ^ (1 : Int).toNat) = x / 2 := by
  rw [show ((2 : Int) ^ (1 : Int).toNat) = 2 from rfl, Int.fdiv_eq_ediv_of_nonneg _ (by decide)]
theorem odd_q {q r a b a0 b0 : Int} (C : q * b + r = a) (ha : a0 * 2 ^ (1 : Int).toNat = a) (hb : b0 * 2 ^ (1 : Int).toNat = b) (h0 : 0 ≤ r) (h1 : r < b) :
    q * b0 + r.fdiv (2 ^ (1 : Int).toNat) = a0 := by
  have e : ((2 : Int) ^ (1 : Int).toNat) = 2 := rfl
  rw [fd2]; rw [e] at ha hb
  subst hb; subst ha
  rw [← Int.mul_assoc] at C
  lia
theorem odd_0 {r : Int} (h0 : 0 ≤ r) : 0 ≤ r.fdiv (2 ^ (1 : Int).toNat) := by rw [fd2]; lia
theorem odd_1 {r b b0 : Int} (hb : b0 * 2 ^ (1 : Int).toNat = b) (h1 : r < b) : r.fdiv (2 ^ (1 : Int).toNat) < b0 := by
  have e : ((2 : Int) ^ (1 : Int).toNat) = 2 := rfl
  rw [fd2]; rw [e] at hb; lia


inductive MidA (sg : Array GenState) (sd : Drawn) (so : OsState) (g : Heap) (L : Addr) (m0 : Str → Option Value) (news : Led) (a b n : Int) : Flow → Shared → Prop
  | mk (h : Heap) (tk ta tb tn : Nat) (F : Fr g L h (fun y => if y = Str.ofString "n" then some (.int n tn) else if y = Str.ofString "b" then some (.int b tb) else if y = Str.ofString "a" then some (.int a ta) else m0 y)) (N : News g L h news) :
    MidA sg sd so g L m0 news a b n .next ⟨h, sg, sd, tk, so⟩
theorem midA {M : Model} {A : Around} {t : Sem Flow} {Q : Flow → Shared → Prop} {E : Value → Shared → Prop} {s : Shared} {g : Heap} {L : Addr} {m0 : Str → Option Value} {h : Heap} {news : Led} {sg : Array GenState} {sd : Drawn} {so : OsState} (a b n : Int)
    (F : Fr g L h m0) (N : News g L h news) (h1 : wpAny M A t (MidA sg sd so g L m0 news a b n) E s)
    (h2 : ∀ h' tk' ta tb tn, Fr g L h' (fun y => if y = Str.ofString "n" then some (.int n tn) else if y = Str.ofString "b" then some (.int b tb) else if y = Str.ofString "a" then some (.int a ta) else m0 y) → News g L h' news → Q .next ⟨h', sg, sd, tk', so⟩) : wpAny M A t Q E s :=
  wpAny_mono h1 (fun fl s' hm => by cases hm with | mk h tk ta tb tn F N => exact h2 _ _ _ _ _ F N) fun _ _ e => e
theorem fr_same {g h : Heap} {L : Addr} {m0 : Str → Option Value} {x : Option Value} (a : Str) (F : Fr g L h m0) (e : m0 a = x) : Fr g L h (fun z => if z = a then x else m0 z) := by
  have e : (fun z => if z = a then x else m0 z) = m0 := by
    funext z
    by_cases h1 : z = a
    · subst h1; rw [if_pos rfl, e]
    · rw [if_neg h1]
  rw [e]; exact F
/-- a count of bits, even or made even -/
inductive Pad (a0 b0 n0 a b n pad : Int) : Prop
  | even (hp : pad = 0) (ha : a = a0) (hb : b = b0) (hn : n = n0)
  | odd (hp : pad = 1) (ha : a0 * 2 ^ (1 : Int).toNat = a) (hb : b0 * 2 ^ (1 : Int).toNat = b) (hn : n0 + 1 = n) (z2 : (intBits a0 : Int) + 1 ≤ 2 ^ 27) (z3 : (intBits b0 : Int) + 1 ≤ 2 ^ 27)
theorem lines10 : True := by
  k_with "execs cons" => ((k_here; (with_reducible show wpAny _ _ (execs (Stmt.If (Expr.Name _ _) _ _ _ :: _) _) _ _ _); refine stop_here ?_))
  trivial
set_option maxRecDepth 100000 in
set_option maxHeartbeats 8000000 in
theorem d2w {w : World} {a0 b0 n0 pad a b n h P b1 b2 a12 a3' a3 a4 : Int} {t1 t2 t3 : Tok} (hn0 : 0 ≤ n) (hbit : ¬ (intBits a0 : Int) - n0 ≤ 4000)
    (hpad : Builtin.bitAnd n0 1 = pad) (hp9 : Pad a0 b0 n0 a b n pad) (hh : n.fdiv (2 ^ (1 : Int).toNat) = h) (hh0 : 0 ≤ h) (hhu : h ≤ 2400) (hP : 1 * 2 ^ h.toNat = P) (z1 : (intBits 1 : Int) + h ≤ 2 ^ 27)
    (hb1 : b.fdiv (2 ^ h.toNat) = b1) (hb2 : Builtin.bitAnd b (P - 1) = b2) (ha12 : a.fdiv (2 ^ n.toNat) = a12) (ha3q : a.fdiv (2 ^ h.toNat) = a3')
    (ha3 : Builtin.bitAnd a3' (P - 1) = a3) (ha4 : Builtin.bitAnd a (P - 1) = a4)
    (H1 : D3pre a12 a3 b b1 b2 h) (H2 : Next a4 b b1 b2 h) (hA : (a12 * 2 ^ h.toNat + a3) * 2 ^ h.toNat + a4 = a) :
    Con w 2 (call (.ref 45) [.int a0 t1, .int b0 t2, .int n0 t3]) (fun _ => True) (D2post a0 b0) := by
  refine Con.opened ?_
  k_fill
  intro p loose mean mg mb cn cs a' ccd cl L outer A₀ base h₀ m news sh sg sd so sk Q E B F X N T hk hpre hret
  walk_at "mine open"
  k_steps
  unfold Stop
  rename Fr _ _ _ _ => F9
  rename News _ _ _ _ => N9
  refine wpAny_execs_cons ?_
  refine midA (sg := sg) (sd := sd) (so := so) a b n F9 N9 ?_ ?_
  · clear hpad hbit hA H1 H2 ha4 ha3 ha3q ha12 hb2 hb1 z1 hP hhu hh0 hh hn0
    cases hp9 with
    | even hp ha hb hn =>
      subst hp ha hb hn
      k_steps
      exact .mk _ _ _ _ _ (fr_same _ (fr_same _ (fr_same _ (by assumption) rfl) rfl) rfl) (by assumption)
    | odd hp ha hb hn z2 z3 =>
      subst hp hn
      k_steps
      exact .mk _ _ _ _ _ (by assumption) (by assumption)
  · intro h' tk' ta tb tn F' N'
    k_steps
    unfold Stop
    refine wpAny_execs_cons ?_
    have C := comb (P := 2 ^ h.toNat) (by assumption) (by assumption) hA
    clear hpad hbit H1 H2 ha4 ha3 ha3q ha12 hb2 hb1 hh hn0 hA
    cases hp9 with
    | even hp ha hb hn =>
      subst hp ha hb hn
      k_steps
      refine hret _ _ _ _ (.mk _ _ _ _ _ ?_ C ?_ ?_) (by assumption) (dropN [_, _, _] (by assumption))
      · exact And.right (And.right (And.right (by assumption)))
      · assumption
      · assumption
    | odd hp ha hb hn z2 z3 =>
      subst hp
      k_steps
      refine hret _ _ _ _ (.mk _ _ _ _ _ ?_ ?_ ?_ ?_) (by assumption) (dropN [_, _, _] (by assumption))
      · exact And.right (And.right (And.right (by assumption)))
      · exact odd_q C ha hb (by with_reducible assumption) (by with_reducible assumption)
      · exact odd_0 (by with_reducible assumption)
      · exact odd_1 hb (by with_reducible assumption)
end Mine.Div
end
section
theorem Mine.resetDiv5 : True := by
  k_with_none
  w_top off
  trivial
open PySem PySem.W PyProof.Rows PySem.Builtin.Int
namespace Mine.Div

theorem prep {a b : Int} {k : Nat} (hk : k ≤ 2400) (hk1 : 1 ≤ k) (hb0 : 2 ^ (k + k) ≤ 2 * b) (hb1 : b < 2 ^ (k + k)) (ha0 : 0 ≤ a) (ha : a < 2 ^ (k + k) * b) :
    D3pre (a / 2 ^ (k + k)) (a / 2 ^ k % 2 ^ k) b (b / 2 ^ k) (b % 2 ^ k) (k : Int) ∧ Next (a % 2 ^ k) b (b / 2 ^ k) (b % 2 ^ k) (k : Int) ∧
      (a / 2 ^ (k + k) * 2 ^ k + a / 2 ^ k % 2 ^ k) * 2 ^ k + a % 2 ^ k = a := by
  have hP := kbt_pos k
  have hPP := p2_add k k
  have hP2 : (0 : Int) < 2 ^ (k + k) := kbt_pos _
  have e0 := Int.emod_def b (2 ^ k)
  have m0 := Int.emod_nonneg b (show (2 : Int) ^ k ≠ 0 by lia)
  have m1 := Int.emod_lt_of_pos b hP
  have e1 := Int.emod_def a (2 ^ k)
  have n0 := Int.emod_nonneg a (show (2 : Int) ^ k ≠ 0 by lia)
  have n1 := Int.emod_lt_of_pos a hP
  have e2 := Int.emod_def (a / 2 ^ k) (2 ^ k)
  have o0 := Int.emod_nonneg (a / 2 ^ k) (show (2 : Int) ^ k ≠ 0 by lia)
  have o1 := Int.emod_lt_of_pos (a / 2 ^ k) hP
  have hdd : a / 2 ^ (k + k) = a / 2 ^ k / 2 ^ k := by rw [hPP, Int.ediv_ediv_of_nonneg (Int.le_of_lt hP)]
  have hbP : b / 2 ^ k * 2 ^ k + b % 2 ^ k = b := by rw [Int.mul_comm]; lia
  have hlo : (2 : Int) ^ k ≤ 2 * (b / 2 ^ k) := by
    have hev : (2 : Int) ^ k = 2 * 2 ^ (k - 1) := by
      obtain ⟨j, rfl⟩ : ∃ j, k = j + 1 := ⟨k - 1, by lia⟩
      rw [p2_add j 1, Nat.add_sub_cancel]; lia
    rcases Int.lt_or_le (2 * (b / 2 ^ k)) (2 ^ k) with h | h
    · have h1 : 2 * (b / 2 ^ k) + 2 ≤ 2 ^ k := by lia
      have h2 := Int.mul_le_mul_of_nonneg_right h1 (Int.le_of_lt hP)
      rw [Int.add_mul, Int.mul_assoc] at h2
      lia
    · exact h
  have hhi : b / 2 ^ k < 2 ^ k := Int.ediv_lt_of_lt_mul hP (by rw [← hPP]; exact hb1)
  have hA0 : 0 ≤ a / 2 ^ (k + k) := Int.ediv_nonneg ha0 (by lia)
  have hA1 : a / 2 ^ (k + k) < b := Int.ediv_lt_of_lt_mul hP2 (by rw [Int.mul_comm]; exact ha)
  refine ⟨⟨by lia, by lia, hbP.symm, m0, m1, hlo, hhi, hA0, hA1, o0, o1⟩, fun r h0 h1 => ⟨by lia, by lia, hbP.symm, m0, m1, hlo, hhi, h0, h1, n0, n1⟩, ?_⟩
  have h3 : a / 2 ^ (k + k) * 2 ^ k + a / 2 ^ k % 2 ^ k = a / 2 ^ k := by
    rw [hdd, Int.mul_comm]; lia
  rw [h3, Int.mul_comm]; lia

theorem mask1 (x : Int) (k : Nat) : Builtin.bitAnd x (1 * 2 ^ k - 1) = x % 2 ^ k := by rw [Int.one_mul, kbt_mask]
theorem and1 (n : Int) : Builtin.bitAnd n 1 = n % 2 := kbt_mask n 1

/-- `_div2n1n` as the law calls it -/
theorem c45 {w : World} {a b n : Int} {t1 t2 t3 : Tok} (hn0 : 2 ≤ n) (hn : n ≤ 4799) (hb0 : 2 ^ n.toNat ≤ 2 * b) (hb1 : b < 2 ^ n.toNat)
    (ha0 : 0 ≤ a) (ha : a < 2 ^ n.toNat * b) :
    Con w 2 (call (.ref 45) [.int a t1, .int b t2, .int n t3]) (fun _ => True) (D2post a b) := by
  have hbpos : 0 < b := by have := kbt_pos n.toNat; lia
  by_cases hbit : (intBits a : Int) - n ≤ 4000
  · have hF : Fit b := fit_of hbpos hb1 (by lia)
    intro p loose mean mg mb cn cs a' ccd cl L outer A₀ base h₀ m news s Q E B F X N T hk hpre hret
    refine Con.use (c45base hF (by lia) ha0) B F X N T hk rfl (Nat.le_of_ble_eq_true rfl) rfl rfl (Nat.le_of_ble_eq_true rfl) hbit ?_
    rintro v h' tk' news' ⟨D, u1, u2, e1, e2, l⟩ F' N'
    subst e1 e2
    refine hret _ h' tk' _ (.mk D _ _ u1 u2 (allLt_of l) ?_ ?_ ?_) F' N'
    · rw [Int.mul_comm]; exact Int.mul_fdiv_add_fmod a b
    · rw [Int.fmod_eq_emod_of_nonneg _ (by lia)]; exact Int.emod_nonneg _ (by lia)
    · rw [Int.fmod_eq_emod_of_nonneg _ (by lia)]; exact Int.emod_lt_of_pos _ hbpos
  · have hz1 : intBits 1 = 1 := by decide
    have hbb : intBits b ≤ n.toNat := bits_le (by lia) hb1
    have hab : intBits a ≤ n.toNat + n.toNat := bits_le ha0 (by
      rw [p2_add]
      exact Int.lt_of_lt_of_le ha (Int.mul_le_mul_of_nonneg_left (Int.le_of_lt hb1) (Int.le_of_lt (kbt_pos _))))
    rcases Int.emod_two_eq n with hp | hp
    · obtain ⟨k, rfl⟩ : ∃ k : Nat, n = ((k + k : Nat) : Int) := ⟨(n / 2).toNat, by lia⟩
      have en : ((k + k : Nat) : Int).toNat = k + k := Int.toNat_natCast _
      rw [en] at hb0 hb1 ha
      have ek : (k : Int).toNat = k := Int.toNat_natCast _
      obtain ⟨P1, P2, P3⟩ := prep (k := k) (by lia) (by lia) hb0 hb1 ha0 ha
      have hh : ((k + k : Nat) : Int).fdiv (2 ^ (1 : Int).toNat) = (k : Int) := by rw [fd2]; lia
      refine d2w (h := (k : Int)) (by lia) hbit rfl (.even (by rw [and1]; exact hp) rfl rfl rfl) hh (by lia) (by lia) rfl (by lia) rfl rfl rfl rfl rfl rfl ?_ ?_ ?_
      · rw [ek, en, mask1, mask1, shr_eq, shr_eq, shr_eq]; exact P1
      · rw [ek, mask1, mask1, shr_eq]; exact P2
      · rw [ek, en, mask1, mask1, shr_eq, shr_eq]; exact P3
    · obtain ⟨k, hk⟩ : ∃ k : Nat, n + 1 = ((k + k : Nat) : Int) := ⟨((n + 1) / 2).toNat, by lia⟩
      have en : (n + 1).toNat = k + k := by rw [hk]; exact Int.toNat_natCast _
      have en' : k + k = n.toNat + 1 := by lia
      have ek : (k : Int).toNat = k := Int.toNat_natCast _
      have e2 : ((2 : Int) ^ (1 : Int).toNat) = 2 := rfl
      have hpw : (2 : Int) ^ (k + k) = 2 ^ n.toNat * 2 := by rw [en', p2_add]; rfl
      obtain ⟨P1, P2, P3⟩ := prep (a := a * 2) (b := b * 2) (k := k) (by lia) (by lia) (by lia) (by lia) (by lia) (by
        rw [hpw, Int.mul_assoc, Int.mul_left_comm 2 b 2, ← Int.mul_assoc]; lia)
      have hh : (n + 1).fdiv (2 ^ (1 : Int).toNat) = (k : Int) := by rw [fd2]; lia
      refine d2w (a := a * 2) (b := b * 2) (n := n + 1) (h := (k : Int)) (by lia) hbit rfl (.odd (by rw [and1]; exact hp) (by rw [e2]) (by rw [e2]) rfl (by lia) (by lia)) hh (by lia) (by lia) rfl (by lia) rfl rfl rfl rfl rfl rfl ?_ ?_ ?_
      · rw [ek, en, mask1, mask1, shr_eq, shr_eq, shr_eq]; exact P1
      · rw [ek, mask1, mask1, shr_eq]; exact P2
      · rw [ek, en, mask1, mask1, shr_eq, shr_eq]; exact P3

end Mine.Div
end
section
theorem Mine.resetRest : True := by
  k_with_none
  w_top off
  trivial
open PySem PySem.Spec PySem.Calls PySem.W PyProof.Rows
namespace Mine

/-- a ledger's addresses that another ledger does not name -/
def Apart (own rest : Led) : Prop := ∀ p ∈ rest, ∀ q ∈ own, q.1 ≠ p.1
/-- objects that stand in a heap -/
def Stand (g : Heap) (rest : Led) : Prop := ∀ p ∈ rest, g.get? p.1 = some p.2

theorem apart_of {g h : Heap} {L : Addr} {own rest : Led} (N : News g L h own) (S : Stand g rest) : Apart own rest := fun p hp q hq e => by
  have h1 := (N q hq).2.2
  rw [e, S p hp] at h1; cases h1

theorem News.both {h₀ h : Heap} {L : Addr} {a b : Led} (N : News h₀ L h a) (M : News h₀ L h b) : News h₀ L h (a ++ b) := fun p hp =>
  (List.mem_append.mp hp).elim (N p) (M p)
theorem News.left {h₀ h : Heap} {L : Addr} {a b : Led} (N : News h₀ L h (a ++ b)) : News h₀ L h a := fun p hp => N p (List.mem_append_left _ hp)
theorem News.right {h₀ h : Heap} {L : Addr} {a b : Led} (N : News h₀ L h (a ++ b)) : News h₀ L h b := fun p hp => N p (List.mem_append_right _ hp)

section
variable {prog : Program} {w : World} {A₀ A : Around} {s : Shared} {base h₀ : Heap} {outer : List Env} {L : Addr} {m : Str → Option Value} {env : Env} {own rest : Led} {K : Frag}
  {p : Program} {loose : List Str} {mean : ExcName → Option Value} {mg mb : Str → Option Value}
  {R : Result → Shared → Prop} {name qual : Str} {params : Arguments} {body : List Stmt} {scope : Scope} {dV kV doc pm cdv ct oc : Value} {an od : Option Addr} {osl : Array (Option Value)} {f : Addr} {args : Args} {binds : List (Str × Value)}

theorem rest_stands (B : Below A₀ base outer h₀) (F : Fr h₀ L s.heap m) (N : News h₀ L s.heap (own ++ rest)) (D : Apart own rest)
    (hA : A.frames = some (env :: outer)) (hf : env.frame = some L) (hke : env.scope.kind = .function) :
    ∃ g, g.objs.size = s.heap.objs.size ∧ (∀ b o, g.get? b = some o → s.heap.get? b = some o) ∧ Fr h₀ L g m ∧ Below A base (env :: outer) g ∧ h₀.StaysIn g ∧ Stand g rest ∧ (∀ q ∈ own, g.get? q.1 = none) ∧
      ∀ v s', LeaveK h₀ L m g (fun r s' => News h₀ L s'.heap rest → R r s') v s' → R (.ok (.ret v)) s' := by
  obtain ⟨FG, BG, st, lv⟩ := groundX (R := fun r s' => News h₀ L s'.heap rest → R r s') B F (News.left N) hA hf hke
  have S : Stand (hideAll s.heap (own.map (·.1))) rest := fun q hq => hideAll_get _ (N q (List.mem_append_right _ hq)).1 (fun hm => by
    obtain ⟨x, hx, e⟩ := List.mem_map.mp hm
    exact D q hq x hx e)
  refine ⟨_, hideAll_size _ _, fun b o e => of_hideAll _ e, FG, BG, st, S, fun q hq => hideAll_none _ (List.mem_map_of_mem hq), fun v s' hl => lv v s' hl ?_⟩
  obtain ⟨L', m', news', F', N', k⟩ := hl
  exact fun q hq => ⟨F'.keep _ _ (S q hq), (N q (List.mem_append_right _ hq)).2⟩

theorem code_defR
    (B : Below A₀ base outer h₀) (F : Fr h₀ L s.heap m) (X₀ : K.In h₀) (N : News h₀ L s.heap (own ++ rest)) (D : Apart own rest) (T : Top p loose mean mg mb h₀) (hA : A.frames = some (env :: outer)) (hf : env.frame = some L) (hke : env.scope.kind = .function)
    (ho : K.lookup f = some ⟨oc, od, .func (fnOf name qual params body scope dV kV doc pm an cdv ct), osl⟩) (hcd : codeIn K cdv qual = true) (hroom : A.depth < recursionLimit)
    (hbind : BindsTo s (fnOf name qual params body scope dV kV doc pm an cdv ct) args binds) (hloc : ∀ y ∈ binds, scope.names.lookup y.1 = some .local)
    (h : ∀ g L' h₁, Fr h₀ L g m → Fr g L' h₁ (fun y => binds.reverse.lookup y) → News g L' h₁ own → Below A base (env :: outer) g → K.In g → Top p loose mean mg mb g → Stand g rest →
      wpAny (model prog w) (A.deeper (envOf qual scope L' f cdv)) (execs body (envOf qual scope L' f cdv))
        (fun fl s' => LeaveK h₀ L m g (fun r s' => News h₀ L s'.heap rest → R r s') (match fl with | .ret v => v | _ => .none) s')
        (fun e s' => wpAny (model prog w) (A.deeper (envOf qual scope L' f cdv)) (leaving (envOf qual scope L' f cdv) e) (fun _ s'' => R (.error e) s'') (fun e' s'' => R (.error e') s'') s')
        { s with heap := h₁, toks := s.toks + binds.length })
    (hco : scope.isCoroutine = false) (hgen : scope.isGenerator = false) (hk : scope.kind = .function)
    (hcell : ∀ x ∈ scope.names, x.2 ≠ .cell) : codeAny (model prog w) A (.call (.ref f) args) R s := by
  obtain ⟨g, hsz, hin, FG, BG, st, S, hno, lv⟩ := rest_stands (R := R) B F N D hA hf hke
  have Xs := X₀.keeps F.keep
  refine codeAny_call_def (fd := fnX name qual params body scope [] dV kV doc pm an cdv ct) (body := body) (binds := binds) hroom (Xs _ _ ho) rfl (T.nolimit.keeps F.keep) (codeRec_of Xs hcd) rfl hbind hcell hloc (fun h₁ hns hk₁ => ?_) hco hgen hk
  exact wpAny_mono (h g s.heap.objs.size h₁ FG ⟨hns, fun b o e => hk₁ b o (hin _ _ e), Nat.le_of_eq hsz⟩
    (fun q hq => ⟨hk₁ _ _ (N q (List.mem_append_left _ hq)).1, Nat.ne_of_lt (Heap.lt_size (N q (List.mem_append_left _ hq)).1), hno q hq⟩) BG (X₀.keeps st) (T.keeps st) S)
    (fun fl s' hl => lv _ _ hl) fun _ _ y => y

theorem code_defCR
    (B : Below A₀ base outer h₀) (F : Fr h₀ L s.heap m) (X₀ : K.In h₀) (N : News h₀ L s.heap (own ++ rest)) (D : Apart own rest) (T : Top p loose mean mg mb h₀) (hA : A.frames = some (env :: outer)) (hf : env.frame = some L) (hke : env.scope.kind = .function)
    (ho : K.lookup f = some ⟨oc, od, .func (fnOf name qual params body scope dV kV doc pm an cdv ct), osl⟩) (hcd : codeIn K cdv qual = true) (hroom : A.depth < recursionLimit)
    (hbind : BindsTo s (fnOf name qual params body scope dV kV doc pm an cdv ct) args binds) (hkind : (binds.all fun y => scope.names.lookup y.1 == some .local || scope.names.lookup y.1 == some .cell) = true)
    (hnd : ((cellsFrom 0 scope.names []).map (·.1)).Nodup)
    (h : ∀ g L' h₁ tk cells, Fr h₀ L g m → Fr g L' h₁ (bindL (envOfC qual scope L' f cdv).kindOf binds fun _ => none) → News g L' h₁ (cells ++ own) →
      CellsAre (bindC (envOfC qual scope L' f cdv).kindOf binds fun _ => none) (cellsFrom (L' + 1) scope.names []) cells → Below A base (env :: outer) g → K.In g → Top p loose mean mg mb g → (∀ p ∈ own, p.1 < L') → Stand g rest →
      wpAny (model prog w) (A.deeper (envOfC qual scope L' f cdv)) (execs body (envOfC qual scope L' f cdv))
        (fun fl s' => LeaveK h₀ L m g (fun r s' => News h₀ L s'.heap rest → R r s') (match fl with | .ret v => v | _ => .none) s')
        (fun e s' => wpAny (model prog w) (A.deeper (envOfC qual scope L' f cdv)) (leaving (envOfC qual scope L' f cdv) e) (fun _ s'' => R (.error e) s'') (fun e' s'' => R (.error e') s'') s')
        { s with heap := h₁, toks := tk })
    (hco : scope.isCoroutine = false) (hgen : scope.isGenerator = false) (hk : scope.kind = .function) : codeAny (model prog w) A (.call (.ref f) args) R s := by
  obtain ⟨g, hsz, hin, FG, BG, st, S, hno, lv⟩ := rest_stands (R := R) B F N D hA hf hke
  have Xs := X₀.keeps F.keep
  refine codeAny_call_function hroom (Xs _ _ ho) rfl hco hgen rfl (codeRec_of Xs hcd) (hbind _ _ _ _ ?_)
  refine wpAny_newFunctionEnv_cells hk (kindsX hkind _) fun env' he s' x => ?_
  subst he
  refine ⟨(T.nolimit.keeps F.keep).keeps x.toInCall.keep, codeAny_func ?_⟩
  obtain ⟨h₁, tk, rfl, _⟩ := x.done
  have hk₁ := x.toInCall.keep
  obtain ⟨cells, NC, Y⟩ := Cl.news (h₀ := s.heap) (Nat.le_refl _) fun n c hm => ⟨x.cell n c (lookup_of_mem_nodup (cellsFrom_names scope.names 0 (s.heap.objs.size + 1) [] [] rfl ▸ hnd) hm), x.above n c hm⟩
  refine wpAny_mono (h g s.heap.objs.size h₁ tk cells FG ⟨x.toInCall.ns, fun b o e => hk₁ b o (hin _ _ e), Nat.le_of_eq hsz⟩ (fun q hq => ?_) Y BG (X₀.keeps st) (T.keeps st)
    (fun q hq => Heap.lt_size (N q (List.mem_append_left _ hq)).1) S) (fun fl s' hl => lv _ _ hl) fun _ _ y => y
  rcases List.mem_append.mp hq with hq | hq
  · refine ⟨(NC q hq).1, (NC q hq).2.1, ?_⟩
    cases e : g.get? q.1 with
    | none => rfl
    | some o => have := hin _ _ e; rw [(NC q hq).2.2] at this; cases this
  · exact ⟨hk₁ _ _ (N q (List.mem_append_left _ hq)).1, Nat.ne_of_lt (Heap.lt_size (N q (List.mem_append_left _ hq)).1), hno q hq⟩
end
end Mine
end
section
theorem Mine.resetComp : True := by
  k_with_none
  w_top off
  trivial
open PySem PySem.Spec PySem.Calls PySem.W PyProof.Rows PyProof.Rows.LCg PyProof.Rows.LCt
namespace Mine.LC

/-- an iterator at `I` that hands on `n` values, the i-th one as `P` says -/
inductive Src (prog : Program) (w : World) (A : Around) (h₀ : Heap) (L : Addr) (S : Led → Prop) (P : Nat → Value → Prop) (n : Nat) (I : Addr) (h : Heap) : Prop
  | mk (fp : List Addr) (St : Nat → Heap → Prop) (W : Walks prog w A I fp [I] n P St) (e1 : ∀ i h, St i h → ∃ o, h.get? I = some o)
    (e2 : ∀ i h h' o nw, St i h → h.get? I = some o → h'.get? I = some o → (∀ b o, h₀.get? b = some o → h'.get? b = some o) → News h₀ L h' nw → S nw → St i h')
    (e3 : St 0 h) (e4 : ∀ b ∈ fp, b < h.objs.size) : Src prog w A h₀ L S P n I h

def PyI (prog : Program) (w : World) (A : Around) (h₀ : Heap) (L : Addr) (news : Led) (S : Led → Prop) (P : Nat → Value → Prop) (n : Nat) (xv : Value) (s : Shared) : Prop :=
  ∀ (Q : Value → Shared → Prop) (E : Value → Shared → Prop),
    (∀ I h', (∀ b o, s.heap.get? b = some o → h'.get? b = some o) → Src prog w A h₀ L S P n I h' → L ≠ I → h₀.get? I = none → (∀ p ∈ news, p.1 ≠ I) → Q (.ref I) { s with heap := h' }) →
    wpAny (model prog w) A (pyIter xv) Q E s

section
variable {prog : Program} {w : World} {A : Around} {h₀ : Heap} {L : Addr} {m : Str → Option Value} {news : Led} {s : Shared}

theorem pyI_new {S : Led → Prop} {P : Nat → Value → Prop} {n : Nat} {xv : Value} (F : Fr h₀ L s.heap m) (N : News h₀ L s.heap news)
    (h : ∀ (Q : Value → Shared → Prop) (E : Value → Shared → Prop), (∀ o, Src prog w A h₀ L S P n s.heap.objs.size (s.heap.push o) → Q (.ref s.heap.objs.size) { s with heap := s.heap.push o }) → wpAny (model prog w) A (pyIter xv) Q E s) :
    PyI prog w A h₀ L news S P n xv s := fun Q E k =>
  h Q E fun o hs => k _ _ (fun _ _ e => Heap.get?_push_of_some _ e) hs (Nat.ne_of_lt F.ns.lt) (next_is_new F) fun p hp => Nat.ne_of_lt (Heap.lt_size (N p hp).1)

theorem pyI_str {x : Str} {t : Tok} (hh : A.handled = none) (F : Fr h₀ L s.heap m) (N : News h₀ L s.heap news) :
    PyI prog w A h₀ L news (fun _ => True) (SignAt x) x.cps.size (.str x t) s := pyI_new F N fun Q E k => by
  have fin : ∀ (ty : String) (o : Obj), o.cls = .type ty → o.data = .fields #[.str x t, .int 0 0] → (∀ I, Walks prog w A I [I] [I] x.cps.size (SignAt x) (fun i h => h.IsStrIter I ty x t i)) → o.isFreed = false →
      Src prog w A h₀ L (fun _ => True) (SignAt x) x.cps.size s.heap.objs.size (s.heap.push o) := fun ty o h1 h2 W hfr =>
    ⟨_, _, W _, fun i h st => let ⟨o, e, _⟩ := st; ⟨o, e⟩, fun i h h' o nw st e e' _ _ _ => by
      obtain ⟨o', q, r⟩ := st; rw [e] at q; cases q; exact ⟨o, e', r⟩, ⟨o, Heap.get?_push_size _ hfr, h1, h2⟩, fun b hb => by
        rw [List.mem_singleton.mp hb, Heap.size_push]; exact Nat.lt_succ_self _⟩
  cases ha : x.cps.all (· < 128)
  · exact wpAny_pyIter_wide ha (k _ (fin "str_iterator" _ rfl rfl (fun I => Walks.strWide hh I x t) rfl))
  · exact wpAny_pyIter_ascii ha (k _ (fin "str_ascii_iterator" _ rfl rfl (fun I => Walks.strAscii hh I x t) rfl))

def TupAt (ax : Addr) (its : Array Value) (news : Led) : Prop := ∃ o, (ax, o) ∈ news ∧ o.cls = .type "tuple" ∧ ∃ n, o.data = .seq its n

theorem pyI_tuple {ax : Addr} {its : Array Value} (hh : A.handled = none) (F : Fr h₀ L s.heap m) (N : News h₀ L s.heap news) (S : TupAt ax its news) :
    PyI prog w A h₀ L news (TupAt ax its) (fun i v => its[i]? = some v) its.size (.ref ax) s := pyI_new F N fun Q E k => by
  have at' : ∀ {h : Heap} {nw : Led}, News h₀ L h nw → TupAt ax its nw → h.IsTuple ax its := fun N' ⟨o, hm, h1, n, h2⟩ => ⟨o, (N' _ hm).1, h1, n, h2⟩
  have hl := at' N S
  have hlt : ax < s.heap.objs.size := by obtain ⟨_, e, _⟩ := hl; exact Heap.lt_size e
  refine wpAny_pyIter_tuple hl (k _ ⟨_, _, Walks.tuple hh s.heap.objs.size ax (Nat.ne_of_lt hlt) its, fun i h st => ?_, fun i h h' o nw st e e' _ N' S' => ⟨?_, at' N' S'⟩, ⟨⟨_, Heap.get?_push_size _ rfl, rfl, rfl⟩, ?_⟩, fun b hb => ?_⟩)
  · obtain ⟨o, e, _⟩ := st.1; exact ⟨o, e⟩
  · obtain ⟨o', q, r⟩ := st.1; rw [e] at q; cases q; exact ⟨o, e', r⟩
  · obtain ⟨o, e, r⟩ := hl; exact ⟨o, Heap.get?_push_of_some _ e, r⟩
  · rw [Heap.size_push]
    rcases List.mem_cons.mp hb with rfl | hb
    · exact Nat.lt_succ_self _
    · rw [List.mem_singleton.mp hb]; exact Nat.lt_succ_of_lt hlt

theorem pyI_list {ax : Addr} {its : Array Value} (hh : A.handled = none) (F : Fr h₀ L s.heap m) (N : News h₀ L s.heap news) (S : SrcAt h₀ ax its news) :
    PyI prog w A h₀ L news (SrcAt h₀ ax its) (fun i v => its[i]? = some v) its.size (.ref ax) s := pyI_new F N fun Q E k => by
  have hl := S.list F.keep N
  have hlt : ax < s.heap.objs.size := by obtain ⟨_, e, _⟩ := hl; exact Heap.lt_size e
  refine wpAny_pyIter_list hl (k _ ⟨_, _, Walks.list hh s.heap.objs.size ax (Nat.ne_of_lt hlt) its, fun i h st => ?_, list_st, ⟨⟨_, Heap.get?_push_size _ rfl, rfl, rfl⟩, hl.push _⟩, fun b hb => ?_⟩)
  · obtain ⟨o, e, _⟩ := st.1; exact ⟨o, e⟩
  · rw [Heap.size_push]
    rcases List.mem_cons.mp hb with rfl | hb
    · exact Nat.lt_succ_self _
    · rw [List.mem_singleton.mp hb]; exact Nat.lt_succ_of_lt hlt

theorem pyI_range {r : Addr} {a b : Int} {t u v : Tok} {n : Nat} (hh : A.handled = none) (F : Fr h₀ L s.heap m) (N : News h₀ L s.heap news) (hr : IsRange s.heap r a b 1 t u v) (hsm : Builtin.Range.small a b 1 = true) (hn : Builtin.Range.rangeSize a b 1 = ((n : Nat) : Int)) :
    PyI prog w A h₀ L news (fun _ => True) (fun i v => ∃ t, v = .int (a + (i : Int)) t) n (.ref r) s := pyI_new F N fun Q E k => by
  refine wpAny_pyIter_range hr hsm (k _ ⟨_, _, range_walks hh a n, fun i h st => ⟨_, st⟩, range_st, by show IsRangeIter _ _ _ _ _; rw [hn]; simpa using Heap.get?_push_size _ rfl, fun b hb => ?_⟩)
  rw [List.mem_singleton.mp hb]
  show s.heap.objs.size < (s.heap.push _).objs.size
  rw [Heap.size_push]; exact Nat.lt_succ_self _

/-- the values of a block, the i-th of the kept items as `R` says -/
inductive AreAll (R : Nat → Value → Prop) : List Nat → List Value → Prop
  | nil : AreAll R [] []
  | cons {i : Nat} {y : Value} {is : List Nat} {ys : List Value} : R i y → AreAll R is ys → AreAll R (i :: is) (y :: ys)
theorem AreAll.snoc {R : Nat → Value → Prop} {i : Nat} {y : Value} {is : List Nat} {ys : List Value} (h : AreAll R is ys) (hy : R i y) : AreAll R (is ++ [i]) (ys ++ [y]) := by
  induction h with
  | nil => exact .cons hy .nil
  | cons h0 _ ih => exact .cons h0 ih
theorem AreAll.length {R : Nat → Value → Prop} {is : List Nat} {ys : List Value} (h : AreAll R is ys) : ys.length = is.length := by
  induction h with
  | nil => rfl
  | cons _ _ ih => exact congrArg (· + 1) ih
theorem AreAll.mono {R R' : Nat → Value → Prop} (hR : ∀ i y, R i y → R' i y) {is : List Nat} {ys : List Value} (h : AreAll R is ys) : AreAll R' is ys := by
  induction h with
  | nil => exact .nil
  | cons h _ ih => exact .cons (hR _ _ h) ih

/-- the end of an item's evaluation: the ledger stands as it stood -/
def ItemEnd (h₀ : Heap) (L : Addr) (m : Str → Option Value) (s₁ : Shared) (led : Led) (R : Value → Prop) (y : Value) (s₂ : Shared) : Prop :=
  ∃ h' tk, s₂ = { s₁ with heap := h', toks := tk } ∧ Fr h₀ L h' m ∧ News h₀ L h' led ∧ R y

variable {env : Env} {elt ct : Expr} {x : Str} {scope : Scope} {cl : List (Str × Addr)} {S : Led → Prop} {P : Nat → Value → Prop}

/-- an item of a block without a test -/
def ItemU (prog : Program) (w : World) (A : Around) (h₀ : Heap) (L : Addr) (m : Str → Option Value) (env : Env) (elt : Expr) (x : Str) (scope : Scope) (cl : List (Str × Addr)) (s : Shared) (P : Nat → Value → Prop) (news : Led) (R : Nat → Value → Prop) (n : Nat) : Prop :=
  ∀ i ys v I oI C oC D m₂ h tk (E' : Value → Shared → Prop), i < n → P i v → NsObj oC m₂ → m₂ x = some v → Fr h₀ L h m → News h₀ L h ((I, oI) :: (C, oC) :: (D, lst ys) :: news) → Off3 I C D news → ((@Ne Nat I C) ∧ (@Ne Nat I D) ∧ (@Ne Nat C D)) →
    wpAny (model prog w) A (eval elt (compEnvC scope cl C env)) (ItemEnd h₀ L m { s with heap := h, toks := tk } ((I, oI) :: (C, oC) :: (D, lst ys) :: news) (R i)) E' { s with heap := h, toks := tk }

theorem rest_map {R : Nat → Value → Prop} {n : Nat} {Fin : List Value → Led → Prop} (hS : S news)
    (item : ItemU prog w A h₀ L m env elt x scope cl s P news R n)
    (fin : ∀ ys, AreAll R (List.range n) ys → Fin ys news) :
    CompRest prog w A h₀ L m env elt x scope cl s S P Fin n 0 [] news := by
  have key : ∀ k i ys, i + k = n → AreAll R (List.range i) ys → CompRest prog w A h₀ L m env elt x scope cl s S P Fin k i ys news := by
    intro k
    induction k with
    | zero => intro i ys hi ha; exact CompRest.zero (fin ys (by rw [← hi]; exact ha))
    | succ k ih =>
      intro i ys hi ha
      refine CompRest.succ fun v I oI C oC D m₂ h tk E' hP hC hx F N off ne => ?_
      refine wpAny_mono (item i ys v I oI C oC D m₂ h tk E' (by lia) hP hC hx F N off ne) (fun y s₂ he => ?_) fun _ _ e => e
      obtain ⟨h', tk', rfl, F', N', hR⟩ := he
      exact CompEnd.intro F' N' news (fun p hp => hp) off hS (ih (i + 1) (ys ++ [y]) (by lia) (by rw [List.range_succ]; exact ha.snoc hR))
  exact key n 0 [] (Nat.zero_add n) .nil

def ItemT (prog : Program) (w : World) (A : Around) (h₀ : Heap) (L : Addr) (m : Str → Option Value) (env : Env) (ct elt : Expr) (x : Str) (scope : Scope) (cl : List (Str × Addr)) (s : Shared) (P : Nat → Value → Prop) (news : Led) (p : Nat → Bool) (R : Nat → Value → Prop) (n : Nat) : Prop :=
  ∀ i ys v I oI C oC D m₂ h tk (E' : Value → Shared → Prop), i < n → P i v → NsObj oC m₂ → m₂ x = some v → Fr h₀ L h m → News h₀ L h ((I, oI) :: (C, oC) :: (D, lst ys) :: news) → Off3 I C D news → ((@Ne Nat I C) ∧ (@Ne Nat I D) ∧ (@Ne Nat C D)) →
    wpAny (model prog w) A (isTrue ct (compEnvC scope cl C env) (eval ct (compEnvC scope cl C env))) (fun ok s' => ok = p i ∧ if ok = true then
      wpAny (model prog w) A (eval elt (compEnvC scope cl C env)) (ItemEnd h₀ L m { s with heap := h, toks := tk } ((I, oI) :: (C, oC) :: (D, lst ys) :: news) (R i)) E' s'
      else ItemEnd h₀ L m { s with heap := h, toks := tk } ((I, oI) :: (C, oC) :: (D, lst ys) :: news) (fun _ => True) Value.none s') E' { s with heap := h, toks := tk }

theorem rest_filter {p : Nat → Bool} {R : Nat → Value → Prop} {n : Nat} {Fin : List Value → Led → Prop} (hS : S news)
    (item : ItemT prog w A h₀ L m env ct elt x scope cl s P news p R n)
    (fin : ∀ ys, AreAll R ((List.range n).filter p) ys → Fin ys news) :
    CompRestT prog w A h₀ L m env ct elt x scope cl s S P Fin n 0 [] news := by
  have key : ∀ k i ys, i + k = n → AreAll R ((List.range i).filter p) ys → CompRestT prog w A h₀ L m env ct elt x scope cl s S P Fin k i ys news := by
    intro k
    induction k with
    | zero => intro i ys hi ha; exact CompRestT.zero (fin ys (by rw [← hi]; exact ha))
    | succ k ih =>
      intro i ys hi ha
      refine CompRestT.succ fun v I oI C oC D m₂ h tk E' hP hC hx F N off ne => ?_
      refine wpAny_mono (item i ys v I oI C oC D m₂ h tk E' (by lia) hP hC hx F N off ne) (fun ok s₂ he => ?_) fun _ _ e => e
      obtain ⟨rfl, he⟩ := he
      cases hp : p i with
      | true =>
        rw [if_pos hp] at he
        rw [if_pos rfl]
        refine wpAny_mono he (fun y s₃ he => ?_) fun _ _ e => e
        obtain ⟨h', tk', rfl, F', N', hR⟩ := he
        exact CompEnd.intro F' N' news (fun p hp => hp) off hS (ih (i + 1) (ys ++ [y]) (by lia) (by
          rw [List.range_succ, List.filter_append, List.filter_cons_of_pos hp, List.filter_nil]; exact ha.snoc hR))
      | false =>
        rw [if_neg (by rw [hp]; exact Bool.false_ne_true)] at he
        rw [if_neg Bool.false_ne_true]
        obtain ⟨h', tk', rfl, F', N', _⟩ := he
        exact CompEnd.intro F' N' news (fun p hp => hp) off hS (ih (i + 1) ys (by lia) (by
          rw [List.range_succ, List.filter_append, List.filter_cons_of_neg (by rw [hp]; exact Bool.false_ne_true), List.filter_nil, List.append_nil]; exact ha))
  exact key n 0 [] (Nat.zero_add n) .nil

/-- what the iterable's walk must show -/
inductive SrcM (prog : Program) (w : World) (A : Around) (h₀ : Heap) (L : Addr) (m : Str → Option Value) (env : Env) (elt : Expr) (x : Str) (scope : Scope) (cl : List (Str × Addr)) (Fin : Shared → List Value → Led → Prop) (xv : Value) (s₁ : Shared) : Prop
  | mk (news : Led) (S : Led → Prop) (P : Nat → Value → Prop) (n : Nat) (F : Fr h₀ L s₁.heap m) (N : News h₀ L s₁.heap news) (e1 : S news) (e2 : n ≤ sizeLine) (e3 : PyI prog w A h₀ L news S P n xv s₁)
    (e4 : ∀ s₂ : Shared, (∃ h, s₂ = { s₁ with heap := h }) → CompRest prog w A h₀ L m env elt x scope cl s₂ S P (Fin s₂) n 0 [] news) : SrcM prog w A h₀ L m env elt x scope cl Fin xv s₁
inductive SrcMT (prog : Program) (w : World) (A : Around) (h₀ : Heap) (L : Addr) (m : Str → Option Value) (env : Env) (ct elt : Expr) (x : Str) (scope : Scope) (cl : List (Str × Addr)) (Fin : Shared → List Value → Led → Prop) (xv : Value) (s₁ : Shared) : Prop
  | mk (news : Led) (S : Led → Prop) (P : Nat → Value → Prop) (n : Nat) (F : Fr h₀ L s₁.heap m) (N : News h₀ L s₁.heap news) (e1 : S news) (e2 : n ≤ sizeLine) (e3 : PyI prog w A h₀ L news S P n xv s₁)
    (e4 : ∀ s₂ : Shared, (∃ h, s₂ = { s₁ with heap := h }) → CompRestT prog w A h₀ L m env ct elt x scope cl s₂ S P (Fin s₂) n 0 [] news) : SrcMT prog w A h₀ L m env ct elt x scope cl Fin xv s₁
variable {E : Value → Shared → Prop}
theorem comp_M {iter : Expr} {px : Pos} {pos : Pos} {Q : Value → Shared → Prop} (F₀ : Fr h₀ L s.heap m)
    (hclos : closureFor scope env = pure cl) (hcell : ∀ y ∈ scope.names, y.2 ≠ .cell) (hkind : scope.kind = .function)
    (hnames : ∀ y ∈ scope.names, y.2 = .local → scope.names.lookup y.1 = some .local) (hx : scope.names.lookup x = some .local)
    (h : wpAny (model prog w) A (eval iter env) (SrcM prog w A h₀ L m env elt x scope cl (fun s₂ => FinE h₀ L m s₂ Q)) E s)
    (hs : ∀ x, foldedSetIterable iter env x = pure x := by intro _; rfl) :
    wpAny (model prog w) A (eval (.ListComp elt [⟨.Name x px, iter, [], 0⟩] scope pos) env) Q E s := by
  rw [eval_ListComp]
  refine wpAny_comprehension_free (use := none) rfl hs hclos hkind hnames (wpAny_mono h (fun xv s₁ h₁ => ?_) fun _ _ e => e)
  obtain ⟨news, S, P, n, F, N, hS, hsz, hI, R⟩ := h₁
  refine hI _ _ fun I h' up hsrc hLI hI₀ off => ?_
  obtain ⟨fp, St, W, hIo, hSt, hst, hfp⟩ := hsrc
  refine block_U W hsz hIo hSt hcell hkind hx hst hfp (F.keeps up) (N.grown up) hLI hI₀ off hS (R _ ⟨_, rfl⟩) ?_
  intro D C h tk m' ys news' F' N' o1 hn hC₀ hD₀ hCL hDL hCD offC fin
  refine ⟨m', hn, fun h'' hs'' => fin D h'' tk (F'.change hs'' hCL hC₀) (fun p hp => ?_) o1⟩
  refine ⟨hs''.extBut _ _ ?_ (N' p hp).1, (N' p hp).2⟩
  rcases List.mem_cons.mp hp with rfl | hp
  · exact Ne.symm hCD
  · exact offC p hp
theorem comp_MT {iter : Expr} {px : Pos} {pos : Pos} {Q : Value → Shared → Prop} (F₀ : Fr h₀ L s.heap m)
    (hclos : closureFor scope env = pure cl) (hcell : ∀ y ∈ scope.names, y.2 ≠ .cell) (hkind : scope.kind = .function)
    (hnames : ∀ y ∈ scope.names, y.2 = .local → scope.names.lookup y.1 = some .local) (hx : scope.names.lookup x = some .local)
    (h : wpAny (model prog w) A (eval iter env) (SrcMT prog w A h₀ L m env ct elt x scope cl (fun s₂ => FinE h₀ L m s₂ Q)) E s)
    (hs : ∀ x, foldedSetIterable iter env x = pure x := by intro _; rfl) :
    wpAny (model prog w) A (eval (.ListComp elt [⟨.Name x px, iter, [ct], 0⟩] scope pos) env) Q E s := by
  rw [eval_ListComp]
  refine wpAny_comprehension_free (use := none) rfl hs hclos hkind hnames (wpAny_mono h (fun xv s₁ h₁ => ?_) fun _ _ e => e)
  obtain ⟨news, S, P, n, F, N, hS, hsz, hI, R⟩ := h₁
  refine hI _ _ fun I h' up hsrc hLI hI₀ off => ?_
  obtain ⟨fp, St, W, hIo, hSt, hst, hfp⟩ := hsrc
  refine block_T W hsz hIo hSt hcell hkind hx hst hfp (F.keeps up) (N.grown up) hLI hI₀ off hS (R _ ⟨_, rfl⟩) ?_
  intro D C h tk m' ys news' F' N' o1 hn hC₀ hD₀ hCL hDL hCD offC fin
  refine ⟨m', hn, fun h'' hs'' => fin D h'' tk (F'.change hs'' hCL hC₀) (fun p hp => ?_) o1⟩
  refine ⟨hs''.extBut _ _ ?_ (N' p hp).1, (N' p hp).2⟩
  rcases List.mem_cons.mp hp with rfl | hp
  · exact Ne.symm hCD
  · exact offC p hp
theorem assign_M {iter : Expr} {y : Str} {px py : Pos} {pos spos : Pos} {Q : Flow → Shared → Prop} (F₀ : Fr h₀ L s.heap m) (hLe : env.locals = L)
    (hsw : swapsWith (.ListComp elt [⟨.Name x px, iter, [], 0⟩] scope pos) (some (.Name y py)) spos.line env = pure true)
    (hclos : closureFor scope env = pure cl) (hcell : ∀ z ∈ scope.names, z.2 ≠ .cell) (hkind : scope.kind = .function)
    (hnames : ∀ z ∈ scope.names, z.2 = .local → scope.names.lookup z.1 = some .local) (hx : scope.names.lookup x = some .local)
    (hy : env.kindOf y = some .local) (hp : (env.scope.kind == .class || (env.scope.kind == .module && env.locals != env.globals)) = false)
    (h : wpAny (model prog w) A (eval iter env) (SrcM prog w A h₀ L m env elt x scope cl (fun s₂ => FinA h₀ L m s₂ y Q)) E s)
    (hs : ∀ x, foldedSetIterable iter env x = pure x := by intro _; rfl) :
    wpAny (model prog w) A (exec (.Assign [.Name y py] (.ListComp elt [⟨.Name x px, iter, [], 0⟩] scope pos) spos) env) Q E s := by
  subst hLe
  rw [exec_Assign_Name_used _ _ _ _ hsw]
  refine wpAny_bind (wpAny_standAt (wpAny_bind ?_))
  show wpAny _ A (do let _ ← comprehension (.ListComp elt [⟨.Name x px, iter, [], 0⟩] scope pos) scope env _ (newList []) false (eval iter env) (some (assign (.Name y py) env))) _ _ s
  refine wpAny_bind (wpAny_mono (wpAny_comprehension_free (use := some (assign (.Name y py) env)) (Q := fun _ s' => Q .next s') rfl hs hclos hkind hnames
    (wpAny_mono h (fun xv s₁ h₁ => ?_) fun _ _ e => e)) (fun _ s' hq => wpAny_pure (wpAny_pure hq)) fun _ _ e => e)
  obtain ⟨news, S, P, n, F, N, hS, hsz, hI, R⟩ := h₁
  refine hI _ _ fun I h' up hsrc hLI hI₀ off => ?_
  obtain ⟨fp, St, W, hIo, hSt, hst, hfp⟩ := hsrc
  refine block_U W hsz hIo hSt hcell hkind hx hst hfp (F.keeps up) (N.grown up) hLI hI₀ off hS (R _ ⟨_, rfl⟩) ?_
  intro D C h tk m' ys news' F' N' o1 hn hC₀ hD₀ hCL hDL hCD offC fin
  show wpAny _ A (assign (.Name y py) env (.ref D)) _ _ _
  refine wpAny_assign_Name (wpAny_storeName_local hy F'.ns (fun h₂ hn₂ hs₂ => ?_) hp)
  have hL₀ : h₀.get? env.locals = none := Heap.get?_none_of_le F'.above
  have F₂ : Fr h₀ env.locals h₂ (fun z => if z = y then some (.ref D) else m z) := ⟨hn₂, fun b o e => hs₂.extBut b o (fun q => by rw [q, hL₀] at e; cases e) (F'.keep b o e), F'.above⟩
  refine ⟨m', hn.sameBut hs₂ hCL, fun h'' hs'' => fin D h'' _ (F₂.change hs'' hCL hC₀) (fun p hp => ?_) o1⟩
  have z : h₂.get? p.1 = some p.2 := hs₂.extBut _ _ (N' p hp).2.1 (N' p hp).1
  refine ⟨hs''.extBut _ _ ?_ z, (N' p hp).2⟩
  rcases List.mem_cons.mp hp with rfl | hp
  · exact Ne.symm hCD
  · exact offC p hp
theorem assign_MT {iter : Expr} {y : Str} {px py : Pos} {pos spos : Pos} {Q : Flow → Shared → Prop} (F₀ : Fr h₀ L s.heap m) (hLe : env.locals = L)
    (hsw : swapsWith (.ListComp elt [⟨.Name x px, iter, [ct], 0⟩] scope pos) (some (.Name y py)) spos.line env = pure true)
    (hclos : closureFor scope env = pure cl) (hcell : ∀ z ∈ scope.names, z.2 ≠ .cell) (hkind : scope.kind = .function)
    (hnames : ∀ z ∈ scope.names, z.2 = .local → scope.names.lookup z.1 = some .local) (hx : scope.names.lookup x = some .local)
    (hy : env.kindOf y = some .local) (hp : (env.scope.kind == .class || (env.scope.kind == .module && env.locals != env.globals)) = false)
    (h : wpAny (model prog w) A (eval iter env) (SrcMT prog w A h₀ L m env ct elt x scope cl (fun s₂ => FinA h₀ L m s₂ y Q)) E s)
    (hs : ∀ x, foldedSetIterable iter env x = pure x := by intro _; rfl) :
    wpAny (model prog w) A (exec (.Assign [.Name y py] (.ListComp elt [⟨.Name x px, iter, [ct], 0⟩] scope pos) spos) env) Q E s := by
  subst hLe
  rw [exec_Assign_Name_used _ _ _ _ hsw]
  refine wpAny_bind (wpAny_standAt (wpAny_bind ?_))
  show wpAny _ A (do let _ ← comprehension (.ListComp elt [⟨.Name x px, iter, [ct], 0⟩] scope pos) scope env _ (newList []) false (eval iter env) (some (assign (.Name y py) env))) _ _ s
  refine wpAny_bind (wpAny_mono (wpAny_comprehension_free (use := some (assign (.Name y py) env)) (Q := fun _ s' => Q .next s') rfl hs hclos hkind hnames
    (wpAny_mono h (fun xv s₁ h₁ => ?_) fun _ _ e => e)) (fun _ s' hq => wpAny_pure (wpAny_pure hq)) fun _ _ e => e)
  obtain ⟨news, S, P, n, F, N, hS, hsz, hI, R⟩ := h₁
  refine hI _ _ fun I h' up hsrc hLI hI₀ off => ?_
  obtain ⟨fp, St, W, hIo, hSt, hst, hfp⟩ := hsrc
  refine block_T W hsz hIo hSt hcell hkind hx hst hfp (F.keeps up) (N.grown up) hLI hI₀ off hS (R _ ⟨_, rfl⟩) ?_
  intro D C h tk m' ys news' F' N' o1 hn hC₀ hD₀ hCL hDL hCD offC fin
  show wpAny _ A (assign (.Name y py) env (.ref D)) _ _ _
  refine wpAny_assign_Name (wpAny_storeName_local hy F'.ns (fun h₂ hn₂ hs₂ => ?_) hp)
  have hL₀ : h₀.get? env.locals = none := Heap.get?_none_of_le F'.above
  have F₂ : Fr h₀ env.locals h₂ (fun z => if z = y then some (.ref D) else m z) := ⟨hn₂, fun b o e => hs₂.extBut b o (fun q => by rw [q, hL₀] at e; cases e) (F'.keep b o e), F'.above⟩
  refine ⟨m', hn.sameBut hs₂ hCL, fun h'' hs'' => fin D h'' _ (F₂.change hs'' hCL hC₀) (fun p hp => ?_) o1⟩
  have z : h₂.get? p.1 = some p.2 := hs₂.extBut _ _ (N' p hp).2.1 (N' p hp).1
  refine ⟨hs''.extBut _ _ ?_ z, (N' p hp).2⟩
  rcases List.mem_cons.mp hp with rfl | hp
  · exact Ne.symm hCD
  · exact offC p hp

variable {Fin : Shared → List Value → Led → Prop}
theorem SrcM.str {y : Str} {t : Tok} (hh : A.handled = none) (F : Fr h₀ L s.heap m) (N : News h₀ L s.heap news) (hsz : y.cps.size ≤ sizeLine)
    (h : ∀ g, CompRest prog w A h₀ L m env elt x scope cl { s with heap := g } (fun _ => True) (SignAt y) (Fin { s with heap := g }) y.cps.size 0 [] news) :
    SrcM prog w A h₀ L m env elt x scope cl Fin (.str y t) s := ⟨news, _, _, _, F, N, trivial, hsz, pyI_str hh F N, fun _ ⟨g, e⟩ => e ▸ h g⟩
theorem SrcM.tup {ax : Addr} {its : Array Value} {k : Nat} (hh : A.handled = none) (F : Fr h₀ L s.heap m) (N : News h₀ L s.heap news) (hm : (ax, ({ cls := .type "tuple", data := .seq its k } : Obj)) ∈ news) (hsz : its.size ≤ sizeLine)
    (h : ∀ g, CompRest prog w A h₀ L m env elt x scope cl { s with heap := g } (TupAt ax its) (fun i v => its[i]? = some v) (Fin { s with heap := g }) its.size 0 [] news) :
    SrcM prog w A h₀ L m env elt x scope cl Fin (.ref ax) s := ⟨news, _, _, _, F, N, ⟨_, hm, rfl, _, rfl⟩, hsz, pyI_tuple hh F N ⟨_, hm, rfl, _, rfl⟩, fun _ ⟨g, e⟩ => e ▸ h g⟩
theorem SrcM.led {ax : Addr} {its : Array Value} {k : Nat} (hh : A.handled = none) (F : Fr h₀ L s.heap m) (N : News h₀ L s.heap news) (hm : (ax, ({ cls := .type "list", data := .seq its k } : Obj)) ∈ news) (hsz : its.size ≤ sizeLine)
    (h : ∀ g, CompRest prog w A h₀ L m env elt x scope cl { s with heap := g } (SrcAt h₀ ax its) (fun i v => its[i]? = some v) (Fin { s with heap := g }) its.size 0 [] news) :
    SrcM prog w A h₀ L m env elt x scope cl Fin (.ref ax) s := ⟨news, _, _, _, F, N, .inr ⟨_, hm, rfl, _, rfl⟩, hsz, pyI_list hh F N (.inr ⟨_, hm, rfl, _, rfl⟩), fun _ ⟨g, e⟩ => e ▸ h g⟩
theorem SrcM.range {r : Addr} {a b : Int} {t u v : Tok} {n : Nat} (hh : A.handled = none) (F : Fr h₀ L s.heap m) (N : News h₀ L s.heap news) (hr : IsRange s.heap r a b 1 t u v) (hsm : Builtin.Range.small a b 1 = true) (hn : Builtin.Range.rangeSize a b 1 = ((n : Nat) : Int)) (hsz : n ≤ sizeLine)
    (h : ∀ g, CompRest prog w A h₀ L m env elt x scope cl { s with heap := g } (fun _ => True) (fun i v => ∃ t, v = .int (a + (i : Int)) t) (Fin { s with heap := g }) n 0 [] news) :
    SrcM prog w A h₀ L m env elt x scope cl Fin (.ref r) s := ⟨news, _, _, _, F, N, trivial, hsz, pyI_range hh F N hr hsm hn, fun _ ⟨g, e⟩ => e ▸ h g⟩
theorem SrcMT.str {y : Str} {t : Tok} (hh : A.handled = none) (F : Fr h₀ L s.heap m) (N : News h₀ L s.heap news) (hsz : y.cps.size ≤ sizeLine)
    (h : ∀ g, CompRestT prog w A h₀ L m env ct elt x scope cl { s with heap := g } (fun _ => True) (SignAt y) (Fin { s with heap := g }) y.cps.size 0 [] news) :
    SrcMT prog w A h₀ L m env ct elt x scope cl Fin (.str y t) s := ⟨news, _, _, _, F, N, trivial, hsz, pyI_str hh F N, fun _ ⟨g, e⟩ => e ▸ h g⟩
theorem SrcMT.tup {ax : Addr} {its : Array Value} {k : Nat} (hh : A.handled = none) (F : Fr h₀ L s.heap m) (N : News h₀ L s.heap news) (hm : (ax, ({ cls := .type "tuple", data := .seq its k } : Obj)) ∈ news) (hsz : its.size ≤ sizeLine)
    (h : ∀ g, CompRestT prog w A h₀ L m env ct elt x scope cl { s with heap := g } (TupAt ax its) (fun i v => its[i]? = some v) (Fin { s with heap := g }) its.size 0 [] news) :
    SrcMT prog w A h₀ L m env ct elt x scope cl Fin (.ref ax) s := ⟨news, _, _, _, F, N, ⟨_, hm, rfl, _, rfl⟩, hsz, pyI_tuple hh F N ⟨_, hm, rfl, _, rfl⟩, fun _ ⟨g, e⟩ => e ▸ h g⟩
theorem SrcMT.led {ax : Addr} {its : Array Value} {k : Nat} (hh : A.handled = none) (F : Fr h₀ L s.heap m) (N : News h₀ L s.heap news) (hm : (ax, ({ cls := .type "list", data := .seq its k } : Obj)) ∈ news) (hsz : its.size ≤ sizeLine)
    (h : ∀ g, CompRestT prog w A h₀ L m env ct elt x scope cl { s with heap := g } (SrcAt h₀ ax its) (fun i v => its[i]? = some v) (Fin { s with heap := g }) its.size 0 [] news) :
    SrcMT prog w A h₀ L m env ct elt x scope cl Fin (.ref ax) s := ⟨news, _, _, _, F, N, .inr ⟨_, hm, rfl, _, rfl⟩, hsz, pyI_list hh F N (.inr ⟨_, hm, rfl, _, rfl⟩), fun _ ⟨g, e⟩ => e ▸ h g⟩
theorem SrcMT.range {r : Addr} {a b : Int} {t u v : Tok} {n : Nat} (hh : A.handled = none) (F : Fr h₀ L s.heap m) (N : News h₀ L s.heap news) (hr : IsRange s.heap r a b 1 t u v) (hsm : Builtin.Range.small a b 1 = true) (hn : Builtin.Range.rangeSize a b 1 = ((n : Nat) : Int)) (hsz : n ≤ sizeLine)
    (h : ∀ g, CompRestT prog w A h₀ L m env ct elt x scope cl { s with heap := g } (fun _ => True) (fun i v => ∃ t, v = .int (a + (i : Int)) t) (Fin { s with heap := g }) n 0 [] news) :
    SrcMT prog w A h₀ L m env ct elt x scope cl Fin (.ref r) s := ⟨news, _, _, _, F, N, trivial, hsz, pyI_range hh F N hr hsm hn, fun _ ⟨g, e⟩ => e ▸ h g⟩
end
end Mine.LC
end
section
theorem Mine.resetCom : True := by
  k_with_none
  w_top off
  trivial
open PySem PySem.Spec PySem.Calls PySem.W PyProof.Rows PyProof.Rows.LCg
namespace Mine

abbrev lstO (vs : List Value) : Obj := { cls := .type "list", data := .seq vs.toArray }
abbrev tupO (vs : List Value) : Obj := { cls := .type "tuple", data := .seq vs.toArray }
/-- a contract over a ledger of its own -/
def ConF (w : World) (lv : Nat) (t : Sem Value) (own : Led) (post : Value → Led → Prop) : Prop :=
  ∀ rest, Con w lv t (fun news => news = own ++ rest ∧ Apart own rest) (fun _ v news' => ∃ own', news' = own' ++ rest ∧ Apart own' rest ∧ post v own')
def Stop (p : Prop) := p
theorem stop_here {p : Prop} (h : Stop p) : p := h

theorem ConF.opened {w : World} {lv : Nat} {t : Sem Value} {own : Led} {post : Value → Led → Prop}
    (H : ∀ (rest : Led) (p : Program) (loose : List Str) (mean : ExcName → Option Value) (mg mb : Str → Option Value) (cn : Str) (cs : Scope) (a : Addr) (ccd : Value)
      (cl : List (Str × Addr)) (L : Addr) (outer : List Env) (A₀ : Around) (base h₀ : Heap) (m : Str → Option Value)
      (sh : Heap) (sg sd so) (sk : Nat) (Q : Value → Shared → Prop) (E : Value → Shared → Prop),
      Below A₀ base outer h₀ → Fr h₀ L sh m → (Mine.hd.heap_39 w.params).In h₀ → News h₀ L sh (own ++ rest) → Top p loose mean mg mb h₀ →
      cs.kind = .function → Apart own rest →
      (∀ v h' tk' news', (∃ own', news' = own' ++ rest ∧ Apart own' rest ∧ post v own') → Fr h₀ L h' m → News h₀ L h' news' → Q v ⟨h', sg, sd, tk', so⟩) →
      wpAny (model PySem.Challenge.rw_wy0034_01.row.prog w) (AR lv (envX cn cs L a ccd cl) outer) t Q E ⟨sh, sg, sd, sk, so⟩) : ConF w lv t own post := by
  rintro rest p loose mean mg mb cn cs a ccd cl L outer A₀ base h₀ m news ⟨sh, sg, sd, sk, so⟩ Q E B F X N T hk ⟨rfl, hap⟩ hret
  exact H rest p loose mean mg mb cn cs a ccd cl L outer A₀ base h₀ m sh sg sd so sk Q E B F X N T hk hap hret

theorem News.sub {h₀ h : Heap} {L : Addr} {l l' : Led} (N : News h₀ L h l) (hs : ∀ p ∈ l', p ∈ l) : News h₀ L h l' := fun p hp => N p (hs p hp)
theorem News.zero {h₀ h : Heap} {L : Addr} : News h₀ L h [] := fun _ hp => nomatch hp
theorem Apart.zero {rest : Led} : Apart [] rest := fun _ _ _ hq => nomatch hq
theorem Apart.sub {own own' rest : Led} (D : Apart own rest) (hs : ∀ p ∈ own', p ∈ own) : Apart own' rest := fun p hp q hq => D p hp q (hs q hq)

section
variable {prog : Program} {w : World} {A : Around} {E : Value → Shared → Prop} {s : Shared} {a b c : Int} {t u : Tok} {Q : Value → Shared → Prop}
theorem mod_is (hb : 0 < b) (he : a % b = c) (h : Q (.int c s.toks) { s with toks := s.toks + 1 }) : wpAny (model prog w) A (binaryOp .Mod (.int a t) (.int b u)) Q E s :=
  mod_int' (Int.ne_of_gt hb) (by rw [Int.fmod_eq_emod_of_nonneg _ (Int.le_of_lt hb), he]; exact h)
end

/-- texts by their signs -/
abbrev S (l : List Nat) : Str := ⟨l.toArray⟩
theorem S_app (a b : List Nat) : S a ++ S b = S (a ++ b) := by
  show Str.append _ _ = _
  simp [Str.append]
def inter (sep : List Nat) : List (List Nat) → List Nat
  | [] => []
  | [x] => x
  | x :: y :: r => x ++ sep ++ inter sep (y :: r)
theorem join_S (sep : List Nat) : ∀ ls : List (List Nat), Str.join (S sep) (ls.map S) = S (inter sep ls)
  | [] => rfl
  | [x] => rfl
  | x :: y :: r => by
    show S x ++ S sep ++ Str.join (S sep) ((y :: r).map S) = _
    rw [join_S sep (y :: r), S_app, S_app]; rfl
theorem glued_S (sep : List Nat) (ls : List (List Nat)) : Txt.join (S sep) (ls.map S) = S (inter sep ls) := by
  show Builtin.Str.glued _ _ = _
  rw [StrLaws.glued_eq_join, join_S]

def wd (ds : List Nat) : List Nat := ds.map (65 + ·)
def bl : Nat → List Nat
  | 0 => [32]
  | 1 => [9, 32]
  | _ => [32, 32, 9]
def pr : Nat → Nat → List Nat
  | 0, d => [97 + d, 97 + d]
  | 1, d => [65 + d, 65 + d]
  | _, d => [97 + d, 65 + d]
def tx (ds : List Nat) (k : Nat) : List Nat := bl k ++ inter (bl k) (ds.map (pr k)) ++ bl k
def sp (ds : List Nat) : List Nat := inter [32] (ds.map fun d => [65 + d, 97 + d])
/-- digits of a tag: at most three, to the base 16 -/
structure Ok (ds : List Nat) : Prop where
  len : ds.length ≤ 3
  lt : ∀ d ∈ ds, d < 16
theorem Ok.fall {P : List Nat → Prop} (h0 : P []) (h1 : ∀ a, a < 16 → P [a]) (h2 : ∀ a b, a < 16 → b < 16 → P [a, b]) (h3 : ∀ a b c, a < 16 → b < 16 → c < 16 → P [a, b, c]) {ds : List Nat} (h : Ok ds) : P ds := by
  obtain ⟨hl, hd⟩ := h
  cases ds with
  | nil => exact h0
  | cons a r => cases r with
    | nil => exact h1 a (hd _ (.head _))
    | cons b r => cases r with
      | nil => exact h2 a b (hd _ (.head _)) (hd _ (.tail _ (.head _)))
      | cons c r => cases r with
        | nil => exact h3 a b c (hd _ (.head _)) (hd _ (.tail _ (.head _))) (hd _ (.tail _ (.tail _ (.head _))))
        | cons d r => exact absurd hl (by simp)

section
variable {prog : Program} {w : World} {A : Around} {E : Value → Shared → Prop} {s : Shared} {d : Nat} {t : Tok} {Q : Value → Shared → Prop}
theorem low_letter : ∀ d : Fin 16, Txt.lower (S [65 + d.val]) = S [97 + d.val] := by decide +kernel
theorem lower_letter (hd : d < 16) (h : ∀ t' k, Q (.str (S [97 + d]) t') { s with toks := k }) : wpAny (model prog w) A (call (.builtin "str.lower") [.str ⟨#[65 + d]⟩ t]) Q E s :=
  SCL.lower (Nat.le_of_ble_eq_true rfl) fun _ => by
    have e := low_letter ⟨d, hd⟩
    show Q (.str (Txt.lower (S [65 + d])) _) _
    rw [e]; exact h _ _
end

open Mine.LC in
theorem strsAre_of {f : Nat → Str} {is : List Nat} {ys : List Value} (h : AreAll (fun i y => ∃ u, y = .str (f i) u) is ys) : StrsAre ys (is.map f) := by
  induction h with
  | nil => exact .nil
  | cons h _ ih => obtain ⟨u, e⟩ := h; rw [e]; exact .cons _ u ih

theorem uncons {α : Type} {n : Nat} : ∀ {l : List α}, l.length = n + 1 → ∃ a r, l = a :: r ∧ r.length = n := by
  intro l h
  cases l with
  | nil => cases h
  | cons a r => exact ⟨a, r, rfl, Nat.succ.inj h⟩
open Mine.LC in
theorem toks_by {g : Nat → Tok → Value} {is : List Nat} {ys : List Value} (h : AreAll (fun j y => ∃ u, y = g j u) is ys) : ∃ us : List Tok, us.length = is.length ∧ ys = List.zipWith g is us := by
  induction h with
  | nil => exact ⟨[], rfl, rfl⟩
  | cons h _ ih =>
    obtain ⟨u, e⟩ := h
    obtain ⟨us, e1, e2⟩ := ih
    exact ⟨u :: us, congrArg (· + 1) e1, by rw [e, e2]; rfl⟩
theorem map_range_get {β : Type} (f : Nat → β) : ∀ (ds : List Nat), (List.range ds.length).map (fun i => f (ds.getD i 0)) = ds.map f := by
  intro ds
  apply List.ext_getElem
  · simp
  · intro i h1 h2
    simp at h1 h2 ⊢
    simp [h2]
theorem wd_get (ds : List Nat) (i : Nat) (h : i < ds.length) : (S (wd ds)).cps[i]? = some (65 + ds.getD i 0) := by
  simp [wd, h]

section
variable {prog : Program} {w : World} {A : Around} {E : Value → Shared → Prop} {s : Shared} {t u : Tok} {Q : Value → Shared → Prop} {x y : Str} {a b : List Nat}
theorem S_len (a : List Nat) : (S a).length = a.length := by simp [Str.length]
theorem add_S (hx : x = S a) (hy : y = S b) (ha : a.length ≤ 1000000) (hb : b.length ≤ 1000000) (h : ∀ t' k, Q (.str (S (a ++ b)) t') { s with toks := k }) :
    wpAny (model prog w) A (binaryOp .Add (.str x t) (.str y u)) Q E s := by
  subst hx hy
  refine PyProof.Rows.add_str (fun t' k => by rw [S_app]; exact h t' k) ?_
  rw [S_len, S_len, sizeLine_eq]; lia
theorem join_SS {D : Addr} {ys : List Value} {sep : List Nat} {ls : List (List Nat)} (hl : s.heap.IsList D ys.toArray) (hi : StrsAre ys (ls.map S)) (hx : x = S sep)
    (hs : sep.length ≤ 16) (hw : (ls.map List.length).sum + ls.length ≤ 1048576) (h : ∀ t' k, Q (.str (S (inter sep ls)) t') { s with toks := k }) :
    wpAny (model prog w) A (call (.builtin "str.join") [.str x t, .ref D]) Q E s := by
  subst hx
  refine join_listW hl (by simpa using hi) (by rw [S_len]; exact hs) ?_ fun t' k => by rw [glued_S]; exact h t' k
  have e : (ls.map S).map (fun z => z.length) = ls.map List.length := by rw [List.map_map]; exact List.map_congr_left fun z _ => S_len z
  rw [e, List.length_map]; exact hw
end

theorem inter_len (sep : List Nat) : ∀ ls : List (List Nat), (inter sep ls).length ≤ (ls.map List.length).sum + ls.length * sep.length
  | [] => Nat.zero_le _
  | [x] => by simp [inter]
  | x :: y :: r => by
    have := inter_len sep (y :: r)
    simp only [inter, List.length_append, List.map_cons, List.sum_cons, List.length_cons, Nat.succ_mul] at this ⊢
    lia
theorem pr_len (k d : Nat) : (pr k d).length = 2 := by unfold pr; split <;> rfl
theorem two_sum {β : Type} (f : β → List Nat) (hf : ∀ d, (f d).length = 2) : ∀ ds : List β, ((ds.map f).map List.length).sum = 2 * ds.length
  | [] => rfl
  | d :: r => by
    simp only [List.map_cons, List.sum_cons, List.length_cons, two_sum f hf r, hf]; lia
theorem pr_weight {ds : List Nat} (hd : Ok ds) (k : Nat) : ((ds.map (pr k)).map List.length).sum + (ds.map (pr k)).length ≤ 1048576 := by
  have := hd.len
  rw [two_sum _ (pr_len k), List.length_map]; lia
theorem pr_inter {ds : List Nat} (hd : Ok ds) (k : Nat) (sep : List Nat) (hs : sep.length ≤ 16) : (inter sep (ds.map (pr k))).length ≤ 1000 := by
  have h1 := hd.len
  have h2 := inter_len sep (ds.map (pr k))
  rw [two_sum _ (pr_len k), List.length_map] at h2
  have h3 : ds.length * sep.length ≤ 3 * 16 := Nat.mul_le_mul h1 hs
  lia
end Mine
namespace Mine
section
variable {prog : Program} {w : World} {A : Around} {E : Value → Shared → Prop} {s : Shared} {a b c : Int} {t u : Tok} {Q : Value → Shared → Prop}
theorem mod_e (hb : 0 < b) (h : Q (.int (a % b) s.toks) { s with toks := s.toks + 1 }) : wpAny (model prog w) A (binaryOp .Mod (.int a t) (.int b u)) Q E s :=
  mod_is hb rfl h
theorem fdiv_e (hb : 0 < b) (hs : Builtin.divisionGoesByPylong a b = false) (h : Q (.int (a / b) s.toks) { s with toks := s.toks + 1 }) : wpAny (model prog w) A (binaryOp .FloorDiv (.int a t) (.int b u)) Q E s :=
  floordiv_int (Int.ne_of_gt hb) (by rw [Int.fdiv_eq_ediv_of_nonneg _ (Int.le_of_lt hb)]; exact h) (Or.inl hs)
theorem pow_is (hn : 0 ≤ b) (hn2 : b ≤ 1000000) (ha : a.natAbs < 2 ^ 64) (he : a ^ b.toNat = c) (h : Q (.int c s.toks) { s with toks := s.toks + 1 }) : wpAny (model prog w) A (binaryOp .Pow (.int a t) (.int b u)) Q E s := by
  subst he; exact pow_int_small hn hn2 ha h
end
theorem alpha_at : ∀ i : Fin 16, (Txt.charAt (Str.ofString "ABCDEFGHIJKLMNOP") (i.val : Int)).isSome = true ∧ Txt.item (Str.ofString "ABCDEFGHIJKLMNOP") (i.val : Int) = S [65 + i.val] := by decide +kernel
theorem alpha_item {prog : Program} {w : World} {A : Around} {E : Value → Shared → Prop} {s : Shared} {i : Int} {t u : Tok} {Q : Value → Shared → Prop} (h0 : 0 ≤ i) (h1 : i < 16)
    (h : ∀ t' k, Q (.str (S [65 + i.toNat]) t') { s with toks := k }) {value slice : Expr}
    (hs : subscripted slice false (.str (Str.ofString "ABCDEFGHIJKLMNOP") t) (.int i u) = operate [.str (Str.ofString "ABCDEFGHIJKLMNOP") t, .int i u] (getItem (.str (Str.ofString "ABCDEFGHIJKLMNOP") t) (.int i u)) := by with_unfolding_all rfl) :
    wpAny (model prog w) A (subscriptTail value slice (.str (Str.ofString "ABCDEFGHIJKLMNOP") t) (.int i u)) Q E s := by
  have e := alpha_at ⟨i.toNat, by lia⟩
  have hi : ((i.toNat : Nat) : Int) = i := Int.toNat_of_nonneg h0
  simp only [hi] at e
  refine tail_any (typeIs_str _ _ _) F.slot_str_getitem.lookup (SB.getItem ?_ e.1 ?_) hs
  · unfold fitsSsize; simp; lia
  · rw [e.2]; exact h _ _
/-- the digits of a tag, without noughts ahead -/
def dg (n : Nat) : List Nat := (if 256 ≤ n then [n / 256 % 16] else []) ++ (if 16 ≤ n then [n / 16 % 16] else []) ++ (if 1 ≤ n then [n % 16] else [])
theorem dg_ok (n : Nat) : Ok (dg n) := by
  unfold dg
  refine ⟨?_, ?_⟩
  · simp only [List.length_append]; split <;> split <;> split <;> simp
  · intro d hd
    simp only [List.mem_append] at hd
    rcases hd with (hd | hd) | hd <;> (split at hd <;> simp at hd) <;> lia
end Mine
end
section
theorem Mine.resetComB : True := by
  k_with_none
  w_top off
  trivial
open PySem PySem.Spec PySem.Calls PySem.W PyProof.Rows PyProof.Rows.LCg
namespace Mine
theorem Apart.nil {own : Led} : Apart own [] := fun _ hp => nomatch hp

section
variable {w : World} {lv : Nat} {t : Sem Value} {own : Led} {post : Value → Led → Prop}
  {A : Around} {p : Program} {loose : List Str} {mean : ExcName → Option Value} {mg mb : Str → Option Value} {cn : Str} {cs : Scope} {a : Addr} {ccd : Value}
  {cl : List (Str × Addr)} {L : Addr} {outer : List Env} {A₀ : Around} {base h₀ : Heap} {m : Str → Option Value} {rest : Led} {s : Shared}
  {Q : Value → Shared → Prop} {E : Value → Shared → Prop}
/-- the whole ledger is the contract's own -/
theorem ConF.use0 (c : ConF w lv t own post)
    (B : Below A₀ base outer h₀) (F : Fr h₀ L s.heap m) (X : (Mine.hd.heap_39 w.params).In h₀) (N : News h₀ L s.heap own) (T : Top p loose mean mg mb h₀)
    (hk : cs.kind = .function) (hh : A.handled = none) (hd : A.depth ≤ 800 - 80 * lv) (hf : A.frames = some (envX cn cs L a ccd cl :: outer)) (hg : A.guards = some [])
    (hu : A.units ≤ 9000 - 1000 * lv)
    (h : ∀ v h' tk' own', post v own' → Fr h₀ L h' m → News h₀ L h' own' → Q v { s with heap := h', toks := tk' }) :
    wpAny (model PySem.Challenge.rw_wy0034_01.row.prog w) A t Q E s := by
  refine Con.use (c []) B F X N T hk hh hd hf hg hu ⟨(List.append_nil _).symm, Apart.nil⟩ ?_
  rintro v h' tk' news' ⟨own', rfl, _, hp⟩ F' N'
  exact h v h' tk' own' hp F' (by rw [List.append_nil] at N'; exact N')
/-- the contract touches nothing of the ledger -/
theorem ConF.useE {post : Value → Prop} (c : ConF w lv t [] (fun v own' => own' = [] ∧ post v))
    (B : Below A₀ base outer h₀) (F : Fr h₀ L s.heap m) (X : (Mine.hd.heap_39 w.params).In h₀) (N : News h₀ L s.heap rest) (T : Top p loose mean mg mb h₀)
    (hk : cs.kind = .function) (hh : A.handled = none) (hd : A.depth ≤ 800 - 80 * lv) (hf : A.frames = some (envX cn cs L a ccd cl :: outer)) (hg : A.guards = some [])
    (hu : A.units ≤ 9000 - 1000 * lv)
    (h : ∀ v h' tk', post v → Fr h₀ L h' m → News h₀ L h' rest → Q v { s with heap := h', toks := tk' }) :
    wpAny (model PySem.Challenge.rw_wy0034_01.row.prog w) A t Q E s := by
  refine Con.use (c rest) B F X N T hk hh hd hf hg hu ⟨rfl, Apart.zero⟩ ?_
  rintro v h' tk' news' ⟨own', rfl, _, rfl, hp⟩ F' N'
  exact h v h' tk' hp F' N'
/-- a part of the ledger is the contract's own; the rest stands apart -/
theorem ConF.useP (c : ConF w lv t own post)
    (B : Below A₀ base outer h₀) (F : Fr h₀ L s.heap m) (X : (Mine.hd.heap_39 w.params).In h₀) (N : News h₀ L s.heap (own ++ rest)) (D : Apart own rest) (T : Top p loose mean mg mb h₀)
    (hk : cs.kind = .function) (hh : A.handled = none) (hd : A.depth ≤ 800 - 80 * lv) (hf : A.frames = some (envX cn cs L a ccd cl :: outer)) (hg : A.guards = some [])
    (hu : A.units ≤ 9000 - 1000 * lv)
    (h : ∀ v h' tk' own', post v own' → Apart own' rest → Fr h₀ L h' m → News h₀ L h' (own' ++ rest) → Q v { s with heap := h', toks := tk' }) :
    wpAny (model PySem.Challenge.rw_wy0034_01.row.prog w) A t Q E s := by
  refine Con.use (c rest) B F X N T hk hh hd hf hg hu ⟨rfl, D⟩ ?_
  rintro v h' tk' news' ⟨own', rfl, D', hp⟩ F' N'
  exact h v h' tk' own' hp D' F' N'
end

theorem occ_all : ∀ d : Fin 16, Builtin.Str.occurrences (Str.ofString "ABCDEFGHIJKLMNOP") (S [65 + d.val]) 0 (Str.ofString "ABCDEFGHIJKLMNOP").length 1 = [d.val] := by decide +kernel
theorem index_letter {prog : Program} {w : World} {A : Around} {E : Value → Shared → Prop} {s : Shared} {d : Nat} {t u : Tok} {Q : Value → Shared → Prop} (hd : d < 16)
    (h : ∀ t' k, Q (.int (d : Int) t') { s with toks := k }) : wpAny (model prog w) A (call (.builtin "str.index") [.str (Str.ofString "ABCDEFGHIJKLMNOP") t, .str ⟨#[65 + d]⟩ u]) Q E s :=
  SC.index (occ_all ⟨d, hd⟩) (h _ _)

open Mine.LC in
theorem intsAre_of {f : Nat → Int} {is : List Nat} {ys : List Value} (h : AreAll (fun i y => ∃ u, y = .int (f i) u) is ys) : IntsAre ys (is.map f) := by
  induction h with
  | nil => exact .nil
  | cons h _ ih => obtain ⟨u, e⟩ := h; rw [e]; exact .cons _ u ih
theorem map_range_rev {β : Type} (f : Nat → β) (ds : List Nat) : (List.range ds.length).map (fun i => f (ds.getD (ds.length - 1 - i) 0)) = (ds.map f).reverse := by
  apply List.ext_getElem
  · simp
  · intro i h1 h2
    simp at h1 h2 ⊢
    have : ds.length - 1 - i < ds.length := by omega
    simp [this]
end Mine
namespace Mine
theorem apart2 {g h : Heap} {L : Addr} {own rest : Led} {x y : Addr × Obj} (S : Stand g rest) (N : News g L h (x :: y :: own)) : Apart own rest :=
  apart_of (News.sub N (fun p hp => .tail _ (.tail _ hp))) S
theorem apart1 {g h : Heap} {L : Addr} {own rest : Led} {x : Addr × Obj} (S : Stand g rest) (N : News g L h (x :: own)) : Apart own rest :=
  apart_of (News.sub N (fun p hp => .tail _ hp)) S
theorem apart0 {g h : Heap} {L : Addr} {own rest : Led} (S : Stand g rest) (N : News g L h own) : Apart own rest := apart_of N S
end Mine
end
section
open PySem PySem.W PyProof.Rows PySem.Builtin.Int
namespace Mine.Dig
theorem lines11 : True := by
  k_with_none
  w_top off
  k_with "execs cons" => (((try dsimp only); refine toks_any ?_; intro _))
  k_with "k_enter" => (case zzfresh => (refine' code_def ?zzk1 ?zzk2 ?zzk3 ?zzk4 ?zzk5 ?zzkA ?zzkF ?zzkK ?zzk6 ?zzk7 ?zzk8 ?zzk9 ?zzkB ?_ ?zzc2 ?zzc3 ?zzc4 ?zzc5; (case zzkA => exact rfl); (case zzkF => exact rfl); (case zzkK => first | exact rfl | assumption); (case zzk1 => k_asm); (case zzk2 => k_asm); (case zzk3 => k_asm); (case zzk4 => k_asm); (case zzk5 => k_asm); (case zzk6 => k_is); (case zzk7 => k_is); (case zzk8 => k_room); (case zzk9 => first | exact BindsTo.of_eq rfl | exact binds_K (by k_in) rfl (by k_is) rfl rfl rfl | fail "k_enter: no rule for these arguments"); (case zzc5 => decide); (case zzkB => exact locs rfl); (case zzc2 => exact rfl); (case zzc3 => exact rfl); (case zzc4 => exact rfl); k_whole; intro zzg' zzL' zzh' zzFG' zzF' zzN' zzB' zzX' zzT'; (try dsimp only); (try k_lift zzB'); (try k_fold)))
  k_with "k_enter" => (case zzfresh => (refine' code_defC ?zzk1 ?zzk2 ?zzk3 ?zzk4 ?zzk5 ?zzkA ?zzkF ?zzkK ?zzk6 ?zzk7 ?zzk8 ?zzk9 ?zzkB ?zzkD ?_ ?zzc2 ?zzc3 ?zzc4; (case zzkA => exact rfl); (case zzkF => exact rfl); (case zzkK => first | exact rfl | assumption); (case zzk1 => k_asm); (case zzk2 => k_asm); (case zzk3 => k_asm); (case zzk4 => k_asm); (case zzk5 => k_asm); (case zzk6 => k_is); (case zzk7 => k_is); (case zzk8 => k_room); (case zzk9 => first | exact BindsTo.of_eq rfl | exact binds_K (by k_in) rfl (by k_is) rfl rfl rfl | fail "k_enter: no rule for these arguments"); (case zzkB => exact rfl); (case zzkD => decide +kernel); (case zzc2 => exact rfl); (case zzc3 => exact rfl); (case zzc4 => exact rfl); k_whole; intro zzg' zzL' zzh' zztk' zzcells' zzFG' zzF' zzN' zzY' zzB' zzX' zzT' zzl1; (try k_lt zzl1); k_cells zzY'; (try simp only [List.cons_append, List.nil_append] at zzN'); (try dsimp only); (try k_lift zzB'); (try k_fold)))
  k_with "mine open" => ((refine wpAny_call ?_; k_dflt (first | k_enter | kc_enter)))
  k_with "mine open R" => (case zzfresh => (refine wpAny_call ?_; k_dflt (refine' code_defR ?zzk1 ?zzk2 ?zzk3 ?zzk4 ?zzkD ?zzk5 ?zzkA ?zzkF ?zzkK ?zzk6 ?zzk7 ?zzk8 ?zzk9 ?zzkB ?_ ?zzc2 ?zzc3 ?zzc4 ?zzc5; (case zzkA => exact rfl); (case zzkF => exact rfl); (case zzkK => first | exact rfl | assumption); (case zzk1 => k_asm); (case zzk2 => k_asm); (case zzk3 => k_asm); (case zzk4 => with_reducible assumption); (case zzkD => with_reducible assumption); (case zzk5 => k_asm); (case zzk6 => k_is); (case zzk7 => k_is); (case zzk8 => k_room); (case zzk9 => first | exact BindsTo.of_eq rfl | exact binds_K (by k_in) rfl (by k_is) rfl rfl rfl | fail "k_enter: no rule for these arguments"); (case zzc5 => decide); (case zzkB => exact locs rfl); (case zzc2 => exact rfl); (case zzc3 => exact rfl); (case zzc4 => exact rfl)); k_whole; intro zzg' zzL' zzh' zzFG' zzF' zzN' zzB' zzX' zzT' zzS'; (try dsimp only); (try k_lift zzB'); (try k_fold)))
  k_with "mine open CR" => (case zzfresh => (refine wpAny_call ?_; k_dflt (refine' code_defCR ?zzk1 ?zzk2 ?zzk3 ?zzk4 ?zzkR ?zzk5 ?zzkA ?zzkF ?zzkK ?zzk6 ?zzk7 ?zzk8 ?zzk9 ?zzkB ?zzkD ?_ ?zzc2 ?zzc3 ?zzc4; (case zzkA => exact rfl); (case zzkF => exact rfl); (case zzkK => first | exact rfl | assumption); (case zzk1 => k_asm); (case zzk2 => k_asm); (case zzk3 => k_asm); (case zzk4 => with_reducible assumption); (case zzkR => with_reducible assumption); (case zzk5 => k_asm); (case zzk6 => k_is); (case zzk7 => k_is); (case zzk8 => k_room); (case zzk9 => first | exact BindsTo.of_eq rfl | exact binds_K (by k_in) rfl (by k_is) rfl rfl rfl | fail "k_enter: no rule for these arguments"); (case zzkB => exact rfl); (case zzkD => decide +kernel); (case zzc2 => exact rfl); (case zzc3 => exact rfl); (case zzc4 => exact rfl)); k_whole; intro zzg' zzL' zzh' zztk' zzcells' zzFG' zzF' zzN' zzY' zzB' zzX' zzT' zzl1 zzS'; (try k_lt zzl1); k_cells zzY'; (try simp only [List.cons_append, List.nil_append] at zzN'); (try dsimp only); (try k_lift zzB'); (try k_fold)))
  trivial
abbrev lstO (vs : List Value) (n : Nat) : Obj := { cls := .type "list", data := .seq vs.toArray n }
theorem shl16 {prog : Program} {w : World} {A : Around} {E : Value → Shared → Prop} {s : Shared} {a n : Int} {t u : Tok} {Q : Value → Shared → Prop}
    (hn : n = 4) (h0 : 0 ≤ a) (h1 : a < 4096) (h : Q (.int (a * 16) s.toks) { s with toks := s.toks + 1 }) : wpAny (model prog w) A (binaryOp .LShift (.int a t) (.int n u)) Q E s := by
  subst hn
  exact lshift_int (by decide) (by have := Div.bits_le (k := 12) h0 h1; lia) h
theorem lines12 : True := by
  k_with "binaryOp LShift int int" => ((k_here; k_dflt (refine shl16 (by first | rfl | lia) (by lia) (by lia) ?_)))
  trivial
abbrev innerQ : Str := Str.ofString "_digits2int.<locals>.inner"
abbrev tabSet (c : Addr) (oc : Obj) : Led := [(54, tabObj #[rawInt 35, rawInt 4, .ref c]), (c, oc)]
/-- the code table of `_digits2int`: empty, or with the code of `inner` -/
inductive Tab : Led → Prop
  | empty : Tab [(54, tabObj #[])]
  | full {c : Addr} {oc : Obj} {vs : Array Value} {t : Tok} : oc.data = .fields vs → vs[1]? = some (.str innerQ t) → @LT.lt Nat _ 54 c → Tab (tabSet c oc)

theorem News.two {h₀ h : Heap} {L : Addr} {l : Led} {a b : Addr × Obj} (N : News h₀ L h l) (ha : a ∈ l) (hb : b ∈ l) : News h₀ L h [a, b] := fun p hp => by
  rcases List.mem_cons.mp hp with rfl | hp
  · exact N _ ha
  · rcases List.mem_cons.mp hp with rfl | hp
    · exact N _ hb
    · cases hp


/-- the nested def, as the written part has it -/
noncomputable def innerAt (P : Params) : Option (Arguments × List Stmt × Scope) :=
  match List.lookup (59 : Nat) (Mine.hd.heap_39 P) with
  | some ⟨_, _, .func ⟨_, _, _, .stmts (.FunctionDef _ ps b _ _ _ sc _ _ _ :: _), _, _, _, _, _, _, _, _, _, _, _⟩, _⟩ => some (ps, b, sc)
  | _ => none
abbrev ARd (d : Nat) (e : Env) (outer : List Env) : Around :=
  { handled := none, depth := 800 - 10 * d, frames := some (e :: outer), guards := some [], units := 8900 - 100 * d }
theorem use_ARd {M : Model} {α : Type} {A : Around} {d : Nat} {e : Env} {outer : List Env} {t : Sem α}
    {Q : α → Shared → Prop} {E : Value → Shared → Prop} {s : Shared}
    (hh : A.handled = none) (hd : A.depth ≤ 800 - 10 * d) (hf : A.frames = some (e :: outer)) (hg : A.guards = some [])
    (hu : A.units ≤ 8900 - 100 * d)
    (h : wpAny M (ARd d e outer) t Q E s) : wpAny M A t Q E s := fun Γ p hΓ =>
  h Γ p ⟨hΓ.1.trans hh, Nat.le_trans hΓ.2.1 hd, fun l hl => hΓ.2.2.1 l (hf.trans hl), fun g hg' => hΓ.2.2.2.1 g (hg.trans hg'),
    Nat.le_trans hΓ.2.2.2.2 hu⟩
/-- what `inner` finds -/
inductive InAt (P : Params) (f D : Addr) (ds : List Value) (news : Led) : Prop
  | mk (params : Arguments) (body : List Stmt) (scope : Scope) (doc pm ctv : Value) (c' a1 a2 a3 : Addr) (oc o1 o2 o3 : Obj) (vs : Array Value) (tq t4 : Tok) (nn : Nat) (hat : innerAt P = some (params, body, scope))
    (m1 : (f, fnMade (Str.ofString "inner") innerQ params body scope [(Str.ofString "n", a2), (Str.ofString "inner", a3), (Str.ofString "digits", a1)] doc pm c' ctv) ∈ news) (m2 : (c', oc) ∈ news) (d2 : oc.data = .fields vs) (d3 : vs[1]? = some (.str innerQ tq))
    (m4 : (a1, o1) ∈ news) (d4 : o1.data = .cell (some (.ref D))) (m5 : (a2, o2) ∈ news) (d5 : o2.data = .cell (some (.int 4 t4))) (m6 : (a3, o3) ∈ news) (d6 : o3.data = .cell (some (.ref f))) (m7 : (D, lstO ds nn) ∈ news) : InAt P f D ds news
def Inn (w : World) (d : Nat) (f D : Addr) (ds : List Value) (l r x : Int) : Prop :=
  ∀ (tl tr : Tok) (p : Program) (loose : List Str) (mean : ExcName → Option Value) (mg mb : Str → Option Value) (cn : Str) (cs : Scope) (a : Addr) (ccd : Value)
    (cl : List (Str × Addr)) (L : Addr) (outer : List Env) (A₀ : Around) (base h₀ : Heap) (m : Str → Option Value) (news : Led) (sh : Heap) (sg sd so) (sk : Nat)
    (Q : Value → Shared → Prop) (E : Value → Shared → Prop),
    Below A₀ base outer h₀ → Fr h₀ L sh m → (Mine.hd.heap_39 w.params).In h₀ → News h₀ L sh news → Top p loose mean mg mb h₀ →
    cs.kind = .function → InAt w.params f D ds news →
    (∀ h' tk' t, Fr h₀ L h' m → News h₀ L h' news → Q (.int x t) ⟨h', sg, sd, tk', so⟩) →
    wpAny (model PySem.Challenge.rw_wy0034_01.row.prog w) (ARd d (envX cn cs L a ccd cl) outer) (call (.ref f) [.int l tl, .int r tr]) Q E ⟨sh, sg, sd, sk, so⟩
theorem Inn.use {w : World} {d : Nat} {f D : Addr} {ds : List Value} {l r x : Int} (c : Inn w d f D ds l r x)
    {A : Around} {tl tr : Tok} {p : Program} {loose : List Str} {mean : ExcName → Option Value} {mg mb : Str → Option Value} {cn : Str} {cs : Scope} {a : Addr} {ccd : Value}
    {cl : List (Str × Addr)} {L : Addr} {outer : List Env} {A₀ : Around} {base h₀ : Heap} {m : Str → Option Value} {news : Led} {s : Shared}
    {Q : Value → Shared → Prop} {E : Value → Shared → Prop}
    (B : Below A₀ base outer h₀) (F : Fr h₀ L s.heap m) (X : (Mine.hd.heap_39 w.params).In h₀) (N : News h₀ L s.heap news) (T : Top p loose mean mg mb h₀)
    (hk : cs.kind = .function) (I : InAt w.params f D ds news)
    (hh : A.handled = none) (hd : A.depth ≤ 800 - 10 * d) (hf : A.frames = some (envX cn cs L a ccd cl :: outer)) (hg : A.guards = some [])
    (hu : A.units ≤ 8900 - 100 * d)
    (h : ∀ h' tk' t, Fr h₀ L h' m → News h₀ L h' news → Q (.int x t) { s with heap := h', toks := tk' }) :
    wpAny (model PySem.Challenge.rw_wy0034_01.row.prog w) A (call (.ref f) [.int l tl, .int r tr]) Q E s :=
  use_ARd hh hd hf hg hu (c tl tr p loose mean mg mb cn cs a ccd cl L outer A₀ base h₀ m news s.heap s.gens s.drawn s.os s.toks Q E B F X N T hk I h)
theorem dep_ok0 : ∀ d : Fin 6, 800 - 10 * (d.val + 1) + 1 ≤ 800 - 10 * d.val := by decide
theorem dep_ok {d : Nat} (h : d ≤ 5) : 800 - 10 * (d + 1) + 1 ≤ 800 - 10 * d := dep_ok0 ⟨d, Nat.lt_succ_of_le h⟩
theorem uni_ok0 : ∀ d : Fin 6, 8900 - 100 * (d.val + 1) + 3 ≤ 8900 - 100 * d.val := by decide
theorem uni_ok {d : Nat} (h : d ≤ 5) : 8900 - 100 * (d + 1) + 3 ≤ 8900 - 100 * d := uni_ok0 ⟨d, Nat.lt_succ_of_le h⟩
theorem mid_ok {l r mid : Int} (hm : mid = l + 1) (hr : r = l + 2 ∨ r = l + 3) : (l + r) / 2 = mid := by omega
theorem far_ok {l r : Int} (hr : r = l + 2 ∨ r = l + 3) : l + 1 ≠ r := by omega
theorem sh_ok {l mid : Int} (hm : mid = l + 1) : (mid - l) * 4 = 4 := by omega
theorem room {d : Nat} : 800 - 10 * d < 1000 := Nat.lt_of_le_of_lt (Nat.sub_le _ _) (by decide)
section
variable {prog : Program} {w : World} {A : Around} {E : Value → Shared → Prop} {s : Shared} {a b c : Int} {t u : Tok} {Q : Value → Shared → Prop}
theorem eq_t (h : a = b) (hQ : Q (.bool true) s) : wpAny (model prog w) A (compareOp .Eq (.int a t) (.int b u)) Q E s := by
  subst h; refine eq_int ?_; simpa using hQ
theorem eq_f (h : a ≠ b) (hQ : Q (.bool false) s) : wpAny (model prog w) A (compareOp .Eq (.int a t) (.int b u)) Q E s := by
  refine eq_int ?_; rw [beq_false_of_ne h]; exact hQ
theorem add_e (h : a + b = c) (hQ : Q (.int c s.toks) { s with toks := s.toks + 1 }) : wpAny (model prog w) A (binaryOp .Add (.int a t) (.int b u)) Q E s := add_int (by rw [h]; exact hQ)
theorem sub_e (h : a - b = c) (hQ : Q (.int c s.toks) { s with toks := s.toks + 1 }) : wpAny (model prog w) A (binaryOp .Sub (.int a t) (.int b u)) Q E s := sub_int (by rw [h]; exact hQ)
theorem mul4 (h : a = 1) (h2 : b = 4) (hQ : Q (.int 4 s.toks) { s with toks := s.toks + 1 }) : wpAny (model prog w) A (binaryOp .Mult (.int a t) (.int b u)) Q E s := by
  subst h h2; exact mul_int hQ
theorem shr1 (h1 : b = 1) (h : a / 2 = c) (hQ : Q (.int c s.toks) { s with toks := s.toks + 1 }) : wpAny (model prog w) A (binaryOp .RShift (.int a t) (.int b u)) Q E s := by
  subst h1
  refine rshift_int (by decide) ?_
  have e : a.fdiv (2 ^ (1 : Int).toNat) = c := by rw [Int.fdiv_eq_ediv_of_nonneg _ (by decide)]; exact h
  rw [e]; exact hQ
end
theorem lines13 : True := by
  k_with "call ref" => (case zzfresh => (k_here; k_dflt (first | (refine' Inn.use (by with_reducible assumption) ?zzB ?zzF ?zzX ?zzN ?zzT ?zzhk ?zzI ?zzhh ?zzhd ?zzhf ?zzhg ?zzhu ?_; (case zzhf => exact rfl); (case zzhk => exact rfl); (case zzhh => exact rfl); (case zzhg => exact rfl); (case zzF => k_asm); (case zzN => k_asm); (case zzB => k_asm); (case zzX => k_in); (case zzT => k_asm); (case zzI => with_reducible assumption); (case zzhd => exact dep_ok (by with_reducible assumption)); (case zzhu => exact uni_ok (by with_reducible assumption))); intro zzh' zztk' zzt' zzF' zzN')))
  k_with "compareOp Eq int int" => ((k_here; k_dflt (first | refine eq_t (by with_reducible assumption) ?_ | refine eq_f (by with_reducible assumption) ?_)))
  k_with "mine inner" => (case zzfresh => (k_dflt (refine wpAny_call ?_; refine' code_nest ?zzk1 ?zzk2 ?zzk3 ?zzk4 ?zzk5 ?zzkA ?zzkF ?zzkK ?zzk6 ?zzk7 ?zzk8 ?zzk9 ?zzkB ?_ ?zzc2 ?zzc3 ?zzc4 ?zzc5; (case zzkA => exact rfl); (case zzkF => exact rfl); (case zzkK => first | exact rfl | assumption); (case zzk1 => k_asm); (case zzk2 => k_asm); (case zzk3 => k_asm); (case zzk4 => k_asm); (case zzk5 => k_asm); (case zzk6 => k_mem); (case zzk7 => exact codeRec_news (by k_asm) (by k_mem) (by assumption) (by assumption)); (case zzk8 => exact room); (case zzk9 => exact BindsTo.of_eq rfl); (case zzc5 => decide); (case zzkB => exact locs rfl); (case zzc2 => exact rfl); (case zzc3 => exact rfl); (case zzc4 => exact rfl); k_whole; intro zzg' zzL' zzh' zzFG' zzF' zzN' zzB' zzX' zzT'; (try dsimp only); (try k_lift zzB'); (try k_fold))))
  k_with "eval Name" => (case zzfresh => (k_here; k_dflt (refine' nameX_F ?zzN ?zzc ?zzm ?zzd ?_ ?zza ?zzb; (case zza => rfl); (case zzb => rfl); (case zzN => k_asm); (case zzc => rfl); (case zzm => with_reducible assumption); (case zzd => with_reducible assumption); k_whole)))
  k_with "subscriptTail" => ((k_here; (with_reducible show wpAny _ _ (subscriptTail _ _ (Value.ref _) (Value.int _ _)) _ _ _); k_dflt (refine item_list (items := _) (News.isList (by k_asm) (by with_reducible assumption)) (by with_reducible assumption) (by with_reducible assumption) (by with_reducible assumption) ?_)))
  trivial
set_option maxRecDepth 100000 in
set_option maxHeartbeats 400000 in
theorem inn1 {w : World} {d : Nat} {f D : Addr} {ds : List Value} {l r x : Int} {tx : Tok} (hr : l + 1 = r) (h0 : 0 ≤ l) (h1 : l < 2 ^ 63) (hx : ds.toArray[l.toNat]? = some (.int x tx)) : Inn w d f D ds l r x := by
  intro tl tr p loose mean mg mb cn cs a ccd cl L outer A₀ base h₀ m news sh sg sd so sk Q E B F
  k_fill
  intro X N T hk I hret
  have I9 := I
  obtain ⟨params, body, scope, doc, pm, ctv, c', a1, a2, a3, oc, o1, o2, o3, vs, tq, t4, nn, hat, m1, m2, d2, d3, m4, d4, m5, d5, m6, d6, m7⟩ := I9
  have e : innerAt w.params = some (_, _, _) := rfl
  cases hat.symm.trans e
  clear hat e
  walk_at "mine inner"
  k_steps
  exact hret _ _ _ (by assumption) (by assumption)

theorem lines14 : True := by
  k_with "binaryOp LShift int int" => ((k_here; k_dflt (refine shl16 (by with_reducible assumption) (by with_reducible assumption) (by with_reducible assumption) ?_)))
  k_with "binaryOp RShift int int" => ((k_here; k_dflt (refine shr1 rfl (by with_reducible assumption) ?_)))
  k_with "callWith ref" => (case zzfresh => (k_here; k_dflt (refine' callWith_F ?zzk1 ?_; (case zzk1 => exact FnAt.of (by k_asm) (by k_mem)); k_whole)))
  trivial
set_option maxRecDepth 100000 in
set_option maxHeartbeats 400000 in
theorem inn2 {w : World} {d : Nat} {f D : Addr} {ds : List Value} {l r x y mid : Int} (hm : mid = l + 1) (hr : r = l + 2 ∨ r = l + 3) (hd : d ≤ 5) (x0 : 0 ≤ x) (x1 : x < 4096) (c1 : Inn w d f D ds mid r x) (c2 : Inn w d f D ds l mid y) : Inn w (d + 1) f D ds l r (x * 16 + y) := by
  intro tl tr p loose mean mg mb cn cs a ccd cl L outer A₀ base h₀ m news sh sg sd so sk Q E B F
  k_fill
  intro X N T hk I hret
  have I9 := I
  obtain ⟨params, body, scope, doc, pm, ctv, c', a1, a2, a3, oc, o1, o2, o3, vs, tq, t4, nn, hat, m1, m2, d2, d3, m4, d4, m5, d5, m6, d6, m7⟩ := I9
  have e : innerAt w.params = some (_, _, _) := rfl
  cases hat.symm.trans e
  clear hat e
  have hmid := mid_ok hm hr
  have hfar := far_ok hr
  have hsh := sh_ok hm
  walk_at "mine inner"
  k_steps
  exact hret _ _ _ (by assumption) (by assumption)

section
variable {prog : Program} {w : World} {A : Around} {E : Value → Shared → Prop} {s : Shared} {l : Addr} {vs : List Value}
theorem truthy_fork {Q : Bool → Shared → Prop} (hl : s.heap.IsList l vs.toArray) (hk : vs.length ≤ 1000) (h0 : vs = [] → ∀ tk, Q false { s with toks := tk }) (h1 : vs ≠ [] → ∀ tk, Q true { s with toks := tk }) : wpAny (model prog w) A (truthy (.ref l)) Q E s := by
  refine wpAny_truthy_list hl (by rw [List.size_toArray]; lia) ?_
  cases vs with
  | nil => exact h0 rfl _
  | cons v r => exact h1 (by simp) _
theorem len_n {k : Int} {Q : Value → Shared → Prop} (hl : s.heap.IsList l vs.toArray) (e : (vs.length : Int) = k) (hk : k ≤ 1000) (h : ∀ t' tk, Q (.int k t') { s with toks := tk }) :
    wpAny (model prog w) A (call (.builtin "len") [.ref l]) Q E s := by
  refine len_list hl (by rw [List.size_toArray]; lia) ?_
  rw [List.size_toArray, e]; exact h _ _
end
theorem lines15 : True := by
  k_with "exec FunctionDef" => (refine stop_here ?_)
  k_with "call ref" => (refine stop_here ?_)
  k_with "truthy ref" => (case zzfresh => (k_here; k_dflt (refine truthy_fork (News.isList (by k_asm) (by k_mem)) (by with_reducible assumption) ?_ ?_ <;> intro zze' zztk')))
  k_with "call builtin:len" => ((k_here; (with_reducible show wpAny _ _ (call (Value.builtin _) [Value.ref _]) _ _ _); k_dflt (refine len_n (News.isList (by k_asm) (by k_mem)) (by with_reducible assumption) (by with_reducible assumption) ?_); intro _ _))
  trivial
set_option maxRecDepth 100000 in
set_option maxHeartbeats 1600000 in
theorem digE {w : World} {D : Addr} {t : Tok} {nn : Nat} {vs : List Value} {k x : Int} (hD : @Ne Nat 54 D) (hl : vs.length ≤ 1000) (hk9 : (vs.length : Int) = k) (hk8 : k ≤ 1000) (hx : vs = [] → x = 0) (hI : ∀ f, vs ≠ [] → Inn w 3 f D vs 0 k x) :
    ConF w 1 (call (.ref 59) [.ref D, .int 4 t]) [(D, lstO vs nn), (54, tabObj #[])] (fun v own' => ∃ t, v = .int x t ∧ Tab own') := by
  refine ConF.opened ?_
  k_fill
  intro rest p loose mean mg mb cn cs a' ccd cl L outer A₀ base h₀ m sh sg sd so sk Q E B F X N T hk hap hret
  walk_at "mine open CR"
  have C9 := codeHd_of_K (c := 58) (P := 54) (by assumption) (by first | k_is | rfl)
  k_steps
  unfold Stop
  refine nestDef_K rfl rfl rfl ?_
  refine' nest_K ?F ?N ?T ?C ?cd ?U ?ht9 ?hn9 ?cl9 ?_
  (case F => k_asm)
  (case N => k_asm)
  (case T => k_asm)
  (case cd => exact rfl)
  (case C => kn_code)
  (case U => k_updF)
  (case ht9 => kn_triples)
  (case hn9 => kn_among)
  (case cl9 => exact rfl)
  k_whole
  intro f' c' oc' vs' t' ct' dc' h' tk' F' N' d1' d2' l1 l2
  (try dsimp only at N')
  k_lt l1
  k_lt2 l2
  have HA := apart_of (News.two (a := (54, tabObj #[rawInt 35, rawInt 4, .ref c'])) (b := (c', oc')) N' (by k_mem) (by k_mem)) (by assumption)
  k_steps
  · rename News h₀ L _ (_ :: _) => NN
    exact hret _ _ _ _ ⟨tabSet c' oc', rfl, HA, _, by rw [hx (by assumption)], .full d1' d2' (by lia)⟩ (by assumption) (Mine.News.both (News.two NN (by k_mem) (by k_mem)) (by assumption))
  unfold Stop
  refine' Inn.use (hI f' (by assumption)) ?B ?F ?X ?N ?T ?hk ?I ?hh ?hd ?hf ?hg ?hu ?_
  (case hf => exact rfl)
  (case hk => exact rfl)
  (case hh => exact rfl)
  (case hg => exact rfl)
  (case F => k_asm)
  (case N => k_asm)
  (case B => k_asm)
  (case X => k_in)
  (case T => k_asm)
  (case I => exact ⟨_, _, _, _, _, _, _, _, _, _, _, _, _, _, _, _, _, _, rfl, by k_mem, by k_mem, d1', d2', by k_mem, by assumption, by k_mem, by assumption, by k_mem, by assumption, by k_mem⟩)
  (case hd => exact Nat.le_of_ble_eq_true rfl)
  (case hu => exact Nat.le_of_ble_eq_true rfl)
  intro h9 tk9 t9 F9 N9
  k_steps
  rename News h₀ L _ (_ :: _) => NN
  exact hret _ _ _ _ ⟨tabSet c' oc', rfl, HA, _, rfl, .full d1' d2' (by lia)⟩ (by assumption) (Mine.News.both (News.two NN (by k_mem) (by k_mem)) (by assumption))

set_option maxRecDepth 100000 in
set_option maxHeartbeats 1600000 in
theorem digF {w : World} {D : Addr} {t : Tok} {nn : Nat} {vs : List Value} {k x : Int} {e : Addr} {oe : Obj} {ve : Array Value} {te : Tok} (hD : @Ne Nat 54 D) (d1 : oe.data = .fields ve) (d2 : ve[1]? = some (.str innerQ te)) (he : @LT.lt Nat _ 54 e) (hed : @Ne Nat e D) (hl : vs.length ≤ 1000) (hk9 : (vs.length : Int) = k) (hk8 : k ≤ 1000) (hx : vs = [] → x = 0) (hI : ∀ f, vs ≠ [] → Inn w 3 f D vs 0 k x) :
    ConF w 1 (call (.ref 59) [.ref D, .int 4 t]) [(D, lstO vs nn), (54, tabObj #[rawInt 35, rawInt 4, .ref e]), (e, oe)] (fun v own' => ∃ t, v = .int x t ∧ Tab own') := by
  refine ConF.opened ?_
  k_fill
  intro rest p loose mean mg mb cn cs a' ccd cl L outer A₀ base h₀ m sh sg sd so sk Q E B F X N T hk hap hret
  walk_at "mine open CR"
  have C9 := codeHd_of_K (c := 58) (P := 54) (by assumption) (by first | k_is | rfl)
  k_steps
  unfold Stop
  refine nestDef_K rfl rfl rfl ?_
  refine' nestHit_K ?F ?N ?T ?C ?cd ?mem ?ht9 ?hn9 ?cl9 ?_
  (case F => k_asm)
  (case N => k_asm)
  (case T => k_asm)
  (case cd => exact rfl)
  (case C => kn_code)
  (case mem => k_mem)
  (case ht9 => kn_triples)
  (case hn9 => kn_hit)
  (case cl9 => exact rfl)
  k_whole
  intro f' ct' dc' h' tk' F' N' l1
  (try dsimp only at N')
  k_lt l1
  have HA := apart_of (News.two (a := (54, tabObj #[rawInt 35, rawInt 4, .ref e])) (b := (e, oe)) N' (by k_mem) (by k_mem)) (by assumption)
  k_steps
  · rename News h₀ L _ (_ :: _) => NN
    exact hret _ _ _ _ ⟨tabSet e oe, rfl, HA, _, by rw [hx (by assumption)], .full d1 d2 he⟩ (by assumption) (Mine.News.both (News.two NN (by k_mem) (by k_mem)) (by assumption))
  unfold Stop
  refine' Inn.use (hI f' (by assumption)) ?B ?F ?X ?N ?T ?hk ?I ?hh ?hd ?hf ?hg ?hu ?_
  (case hf => exact rfl)
  (case hk => exact rfl)
  (case hh => exact rfl)
  (case hg => exact rfl)
  (case F => k_asm)
  (case N => k_asm)
  (case B => k_asm)
  (case X => k_in)
  (case T => k_asm)
  (case I => exact ⟨_, _, _, _, _, _, _, _, _, _, _, _, _, _, _, _, _, _, rfl, by k_mem, by k_mem, d1, d2, by k_mem, by assumption, by k_mem, by assumption, by k_mem, by assumption, by k_mem⟩)
  (case hd => exact Nat.le_of_ble_eq_true rfl)
  (case hu => exact Nat.le_of_ble_eq_true rfl)
  intro h9 tk9 t9 F9 N9
  k_steps
  rename News h₀ L _ (_ :: _) => NN
  exact hret _ _ _ _ ⟨tabSet e oe, rfl, HA, _, rfl, .full d1 d2 he⟩ (by assumption) (Mine.News.both (News.two NN (by k_mem) (by k_mem)) (by assumption))

/-- the number that the digits, least first, spell -/
def dval (ns : List Int) : Int := ns.foldr (fun d acc => acc * 16 + d) 0

theorem inns {w : World} {f D : Addr} {vs : List Value} {ns : List Int} (hi : IntsAre vs ns) (hn : ∀ x ∈ ns, 0 ≤ x ∧ x < 16) (hl : ns.length ≤ 3) (ne : vs ≠ []) : Inn w 3 f D vs 0 (ns.length : Int) (dval ns) := by
  cases hi with
  | nil => exact absurd rfl ne
  | cons a ta r =>
    have ba := hn a (by simp)
    cases r with
    | nil =>
      rw [show dval [a] = a by simp [dval]]
      exact inn1 (tx := ta) rfl (by decide) (by decide) rfl
    | cons b tb r =>
      have bb := hn b (by simp)
      cases r with
      | nil =>
        rw [show dval [a, b] = b * 16 + a by simp [dval]]
        exact inn2 (d := 2) (mid := 1) rfl (.inl rfl) (by decide) bb.1 (by lia) (inn1 (tx := tb) rfl (by decide) (by decide) rfl) (inn1 (tx := ta) rfl (by decide) (by decide) rfl)
      | cons c tc r =>
        have bc := hn c (by simp)
        cases r with
        | nil =>
          rw [show dval [a, b, c] = (c * 16 + b) * 16 + a by simp [dval]]
          exact inn2 (d := 2) (mid := 1) rfl (.inr rfl) (by decide) (by lia) (by lia) (inn2 (d := 1) (mid := 2) rfl (.inl rfl) (by decide) bc.1 (by lia) (inn1 (tx := tc) rfl (by decide) (by decide) rfl) (inn1 (tx := tb) rfl (by decide) (by decide) rfl)) (inn1 (tx := ta) rfl (by decide) (by decide) rfl)
        | cons d td r => simp at hl

theorem digs {w : World} {D : Addr} {t : Tok} {nn : Nat} {vs : List Value} {ns : List Int} {tabs : Led} (hi : IntsAre vs ns) (hn : ∀ x ∈ ns, 0 ≤ x ∧ x < 16) (hl : ns.length ≤ 3) (T : Tab tabs) (lt : LCg.Off1 D tabs) :
    ConF w 1 (call (.ref 59) [.ref D, .int 4 t]) ((D, lstO vs nn) :: tabs) (fun v own' => ∃ t, v = .int (dval ns) t ∧ Tab own') := by
  have hlen := hi.length
  have hx : vs = [] → dval ns = 0 := fun e => by subst e; cases hi; rfl
  cases T with
  | empty => exact digE lt.1 (by lia) (by rw [hlen]) (by lia) hx fun f ne => inns hi hn hl ne
  | full d1 d2 he => exact digF lt.1 d1 d2 he lt.2.1 (by lia) (by rw [hlen]) (by lia) hx fun f ne => inns hi hn hl ne
end Mine.Dig
end
section
open PySem PySem.W PyProof.Rows PySem.Builtin.Int
open PyProof.Rows.LCg Mine.LC
namespace Mine.Wr
theorem lines16 : True := by
  k_with_none
  w_top off
  k_with "execs cons" => (((try dsimp only); refine toks_any ?_; intro _))
  k_with "k_enter" => (case zzfresh => (refine' code_def ?zzk1 ?zzk2 ?zzk3 ?zzk4 ?zzk5 ?zzkA ?zzkF ?zzkK ?zzk6 ?zzk7 ?zzk8 ?zzk9 ?zzkB ?_ ?zzc2 ?zzc3 ?zzc4 ?zzc5; (case zzkA => exact rfl); (case zzkF => exact rfl); (case zzkK => first | exact rfl | assumption); (case zzk1 => k_asm); (case zzk2 => k_asm); (case zzk3 => k_asm); (case zzk4 => k_asm); (case zzk5 => k_asm); (case zzk6 => k_is); (case zzk7 => k_is); (case zzk8 => k_room); (case zzk9 => first | exact BindsTo.of_eq rfl | exact binds_K (by k_in) rfl (by k_is) rfl rfl rfl | fail "k_enter: no rule for these arguments"); (case zzc5 => decide); (case zzkB => exact locs rfl); (case zzc2 => exact rfl); (case zzc3 => exact rfl); (case zzc4 => exact rfl); k_whole; intro zzg' zzL' zzh' zzFG' zzF' zzN' zzB' zzX' zzT'; (try dsimp only); (try k_lift zzB'); (try k_fold)))
  k_with "k_enter" => (case zzfresh => (refine' code_defC ?zzk1 ?zzk2 ?zzk3 ?zzk4 ?zzk5 ?zzkA ?zzkF ?zzkK ?zzk6 ?zzk7 ?zzk8 ?zzk9 ?zzkB ?zzkD ?_ ?zzc2 ?zzc3 ?zzc4; (case zzkA => exact rfl); (case zzkF => exact rfl); (case zzkK => first | exact rfl | assumption); (case zzk1 => k_asm); (case zzk2 => k_asm); (case zzk3 => k_asm); (case zzk4 => k_asm); (case zzk5 => k_asm); (case zzk6 => k_is); (case zzk7 => k_is); (case zzk8 => k_room); (case zzk9 => first | exact BindsTo.of_eq rfl | exact binds_K (by k_in) rfl (by k_is) rfl rfl rfl | fail "k_enter: no rule for these arguments"); (case zzkB => exact rfl); (case zzkD => decide +kernel); (case zzc2 => exact rfl); (case zzc3 => exact rfl); (case zzc4 => exact rfl); k_whole; intro zzg' zzL' zzh' zztk' zzcells' zzFG' zzF' zzN' zzY' zzB' zzX' zzT' zzl1; (try k_lt zzl1); k_cells zzY'; (try simp only [List.cons_append, List.nil_append] at zzN'); (try dsimp only); (try k_lift zzB'); (try k_fold)))
  k_with "mine open" => ((refine wpAny_call ?_; k_dflt (first | k_enter | kc_enter)))
  k_with "mine open R" => (case zzfresh => (refine wpAny_call ?_; k_dflt (refine' code_defR ?zzk1 ?zzk2 ?zzk3 ?zzk4 ?zzkD ?zzk5 ?zzkA ?zzkF ?zzkK ?zzk6 ?zzk7 ?zzk8 ?zzk9 ?zzkB ?_ ?zzc2 ?zzc3 ?zzc4 ?zzc5; (case zzkA => exact rfl); (case zzkF => exact rfl); (case zzkK => first | exact rfl | assumption); (case zzk1 => k_asm); (case zzk2 => k_asm); (case zzk3 => k_asm); (case zzk4 => with_reducible assumption); (case zzkD => with_reducible assumption); (case zzk5 => k_asm); (case zzk6 => k_is); (case zzk7 => k_is); (case zzk8 => k_room); (case zzk9 => first | exact BindsTo.of_eq rfl | exact binds_K (by k_in) rfl (by k_is) rfl rfl rfl | fail "k_enter: no rule for these arguments"); (case zzc5 => decide); (case zzkB => exact locs rfl); (case zzc2 => exact rfl); (case zzc3 => exact rfl); (case zzc4 => exact rfl)); k_whole; intro zzg' zzL' zzh' zzFG' zzF' zzN' zzB' zzX' zzT' zzS'; (try dsimp only); (try k_lift zzB'); (try k_fold)))
  k_with "mine open CR" => (case zzfresh => (refine wpAny_call ?_; k_dflt (refine' code_defCR ?zzk1 ?zzk2 ?zzk3 ?zzk4 ?zzkR ?zzk5 ?zzkA ?zzkF ?zzkK ?zzk6 ?zzk7 ?zzk8 ?zzk9 ?zzkB ?zzkD ?_ ?zzc2 ?zzc3 ?zzc4; (case zzkA => exact rfl); (case zzkF => exact rfl); (case zzkK => first | exact rfl | assumption); (case zzk1 => k_asm); (case zzk2 => k_asm); (case zzk3 => k_asm); (case zzk4 => with_reducible assumption); (case zzkR => with_reducible assumption); (case zzk5 => k_asm); (case zzk6 => k_is); (case zzk7 => k_is); (case zzk8 => k_room); (case zzk9 => first | exact BindsTo.of_eq rfl | exact binds_K (by k_in) rfl (by k_is) rfl rfl rfl | fail "k_enter: no rule for these arguments"); (case zzkB => exact rfl); (case zzkD => decide +kernel); (case zzc2 => exact rfl); (case zzc3 => exact rfl); (case zzc4 => exact rfl)); k_whole; intro zzg' zzL' zzh' zztk' zzcells' zzFG' zzF' zzN' zzY' zzB' zzX' zzT' zzl1 zzS'; (try k_lt zzl1); k_cells zzY'; (try simp only [List.cons_append, List.nil_append] at zzN'); (try dsimp only); (try k_lift zzB'); (try k_fold)))
  k_with "mine open CR0" => (case zzfresh => (refine wpAny_call ?_; k_dflt (refine' code_defCR (own := []) ?zzk1 ?zzk2 ?zzk3 ?zzk4 ?zzkR ?zzk5 ?zzkA ?zzkF ?zzkK ?zzk6 ?zzk7 ?zzk8 ?zzk9 ?zzkB ?zzkD ?_ ?zzc2 ?zzc3 ?zzc4; (case zzkA => exact rfl); (case zzkF => exact rfl); (case zzkK => first | exact rfl | assumption); (case zzk1 => k_asm); (case zzk2 => k_asm); (case zzk3 => k_asm); (case zzk4 => k_asm); (case zzkR => exact Apart.zero); (case zzk5 => k_asm); (case zzk6 => k_is); (case zzk7 => k_is); (case zzk8 => k_room); (case zzk9 => first | exact BindsTo.of_eq rfl | exact binds_K (by k_in) rfl (by k_is) rfl rfl rfl | fail "k_enter: no rule for these arguments"); (case zzkB => exact rfl); (case zzkD => decide +kernel); (case zzc2 => exact rfl); (case zzc3 => exact rfl); (case zzc4 => exact rfl)); k_whole; intro zzg' zzL' zzh' zztk' zzcells' zzFG' zzF' zzN' zzY' zzB' zzX' zzT' zzl1 zzS'; clear zzl1; k_cells zzY'; (try simp only [List.cons_append, List.nil_append, List.append_nil] at zzN'); (try dsimp only); (try k_lift zzB'); (try k_fold)))
  k_with "mine open R0" => (case zzfresh => (refine wpAny_call ?_; k_dflt (refine' code_defR (own := []) ?zzk1 ?zzk2 ?zzk3 ?zzk4 ?zzkD ?zzk5 ?zzkA ?zzkF ?zzkK ?zzk6 ?zzk7 ?zzk8 ?zzk9 ?zzkB ?_ ?zzc2 ?zzc3 ?zzc4 ?zzc5; (case zzkA => exact rfl); (case zzkF => exact rfl); (case zzkK => first | exact rfl | assumption); (case zzk1 => k_asm); (case zzk2 => k_asm); (case zzk3 => k_asm); (case zzk4 => k_asm); (case zzkD => exact Apart.zero); (case zzk5 => k_asm); (case zzk6 => k_is); (case zzk7 => k_is); (case zzk8 => k_room); (case zzk9 => first | exact BindsTo.of_eq rfl | exact binds_K (by k_in) rfl (by k_is) rfl rfl rfl | fail "k_enter: no rule for these arguments"); (case zzc5 => decide); (case zzkB => exact locs rfl); (case zzc2 => exact rfl); (case zzc3 => exact rfl); (case zzc4 => exact rfl)); k_whole; intro zzg' zzL' zzh' zzFG' zzF' zzN' zzB' zzX' zzT' zzS'; (try dsimp only); (try k_lift zzB'); (try k_fold)))
  k_with "exec Assign cons ListComp" => ((k_here; k_dflt (first | refine assign_M (F₀ := by k_asm) (by rfl) (by with_unfolding_all rfl) (by with_unfolding_all rfl) (by decide) (by rfl) (by decide) (by rfl) (by rfl) (by rfl) ?_ | refine assign_MT (F₀ := by k_asm) (by rfl) (by with_unfolding_all rfl) (by with_unfolding_all rfl) (by decide) (by rfl) (by decide) (by rfl) (by rfl) (by rfl) ?_)))
  k_with "eval ListComp" => ((k_here; k_dflt (first | refine comp_M (F₀ := by k_asm) (by with_unfolding_all rfl) (by decide) (by rfl) (by decide) (by rfl) ?_ | refine comp_MT (F₀ := by k_asm) (by with_unfolding_all rfl) (by decide) (by rfl) (by decide) (by rfl) ?_)))
  k_with "binaryOp Mod int int" => ((k_here; k_dflt (refine mod_is (by decide) (by with_reducible assumption) ?_)))
  k_with "call builtin:str.lower" => ((k_here; k_dflt (refine lower_letter (by with_reducible assumption) ?_); intro _ _))
  k_with "binaryOp Add str str" => ((k_here; k_dflt (refine add_S (by first | with_reducible assumption | exact rfl) (by first | with_reducible assumption | exact rfl) (by (first | exact Nat.le_of_ble_eq_true rfl | (simp only [List.length_append, List.length_cons, List.length_nil]; lia) | lia)) (by (first | exact Nat.le_of_ble_eq_true rfl | (simp only [List.length_append, List.length_cons, List.length_nil]; lia) | lia)) ?_); intro _ _))
  k_with "call builtin:str.join" => ((k_here; k_dflt (refine join_SS (News.isList (by k_asm) (by k_mem)) (by with_reducible assumption) (by with_reducible assumption) (by decide) (by with_reducible assumption) ?_); intro _ _))
  trivial
set_option maxRecDepth 100000 in
set_option maxHeartbeats 8000000 in
theorem wr0 {w : World} {ds : List Nat} {turn : Int} {t1 t2 : Tok} (hd : Ok ds) (hk : turn % 3 = 0) :
    ConF w 0 (call (.ref 216) [.str (S (wd ds)) t1, .int turn t2]) [] (fun v own' => own' = [] ∧ ∃ t, v = .str (S (tx ds 0)) t) := by
  have hbl : Str.ofString " " = S [32] := by decide +kernel
  have hw := pr_weight hd 0
  have hin := pr_inter hd 0 [32] (by decide)
  refine ConF.opened ?_
  k_fill
  intro rest p loose mean mg mb cn cs a' ccd cl L outer A₀ base h₀ m sh sg sd so sk Q E B F X N T hk' hap hret
  walk_at "mine open CR0"
  k_steps
  refine ⟨_, fun _ => True, _, _, by k_asm, by k_asm, trivial, ?_, pyI_str rfl (by k_asm) (by k_asm), ?_⟩
  · rw [sizeLine_eq]; have := hd.len; simp [wd]; lia
  rintro s₂ ⟨g', rfl⟩
  refine rest_map (R := fun i y => ∃ u, y = .str (S (pr 0 (ds.getD i 0))) u) trivial ?_ ?_
  · intro i ys v I oI C oC D m₂ h tk E' hi hP hC hx F1 N1 off ne
    obtain ⟨c, u, hc, rfl⟩ := hP
    have hi' : i < ds.length := by simpa [wd] using hi
    rw [wd_get ds i hi'] at hc
    cases hc
    have hlt : ds.getD i 0 < 16 := hd.lt _ (by simp [hi'])
    k_steps
    exact ⟨_, _, rfl, by assumption, News.sub (by assumption) (fun p hp => List.mem_cons_of_mem _ hp), _, rfl⟩
  · intro ys ha
    have hsa : StrsAre ys ((ds.map (pr 0)).map S) := by
      have h1 := strsAre_of (f := fun i => S (pr 0 (ds.getD i 0))) ha
      have e : (S (wd ds)).cps.size = ds.length := by simp [wd]
      rw [e, map_range_get (fun d => S (pr 0 d))] at h1
      rw [List.map_map]; exact h1
    clear ha
    k_steps
    exact hret _ _ _ _ ⟨[], rfl, Apart.zero, rfl, _, rfl⟩ (by assumption) (by assumption)

set_option maxRecDepth 100000 in
set_option maxHeartbeats 8000000 in
theorem wr1 {w : World} {ds : List Nat} {turn : Int} {t1 t2 : Tok} (hd : Ok ds) (hk : turn % 3 = 1) :
    ConF w 0 (call (.ref 216) [.str (S (wd ds)) t1, .int turn t2]) [] (fun v own' => own' = [] ∧ ∃ t, v = .str (S (tx ds 1)) t) := by
  have hbl : Str.ofString "\t " = S [9, 32] := by decide +kernel
  have hw := pr_weight hd 1
  have hin := pr_inter hd 1 [9, 32] (by decide)
  refine ConF.opened ?_
  k_fill
  intro rest p loose mean mg mb cn cs a' ccd cl L outer A₀ base h₀ m sh sg sd so sk Q E B F X N T hk' hap hret
  walk_at "mine open CR0"
  k_steps
  refine ⟨_, fun _ => True, _, _, by k_asm, by k_asm, trivial, ?_, pyI_str rfl (by k_asm) (by k_asm), ?_⟩
  · rw [sizeLine_eq]; have := hd.len; simp [wd]; lia
  rintro s₂ ⟨g', rfl⟩
  refine rest_map (R := fun i y => ∃ u, y = .str (S (pr 1 (ds.getD i 0))) u) trivial ?_ ?_
  · intro i ys v I oI C oC D m₂ h tk E' hi hP hC hx F1 N1 off ne
    obtain ⟨c, u, hc, rfl⟩ := hP
    have hi' : i < ds.length := by simpa [wd] using hi
    rw [wd_get ds i hi'] at hc
    cases hc
    have hlt : ds.getD i 0 < 16 := hd.lt _ (by simp [hi'])
    k_steps
    exact ⟨_, _, rfl, by assumption, News.sub (by assumption) (fun p hp => List.mem_cons_of_mem _ hp), _, rfl⟩
  · intro ys ha
    have hsa : StrsAre ys ((ds.map (pr 1)).map S) := by
      have h1 := strsAre_of (f := fun i => S (pr 1 (ds.getD i 0))) ha
      have e : (S (wd ds)).cps.size = ds.length := by simp [wd]
      rw [e, map_range_get (fun d => S (pr 1 d))] at h1
      rw [List.map_map]; exact h1
    clear ha
    k_steps
    exact hret _ _ _ _ ⟨[], rfl, Apart.zero, rfl, _, rfl⟩ (by assumption) (by assumption)

set_option maxRecDepth 100000 in
set_option maxHeartbeats 8000000 in
theorem wr2 {w : World} {ds : List Nat} {turn : Int} {t1 t2 : Tok} (hd : Ok ds) (hk : turn % 3 = 2) :
    ConF w 0 (call (.ref 216) [.str (S (wd ds)) t1, .int turn t2]) [] (fun v own' => own' = [] ∧ ∃ t, v = .str (S (tx ds 2)) t) := by
  have hbl : Str.ofString "  \t" = S [32, 32, 9] := by decide +kernel
  have hw := pr_weight hd 2
  have hin := pr_inter hd 2 [32, 32, 9] (by decide)
  refine ConF.opened ?_
  k_fill
  intro rest p loose mean mg mb cn cs a' ccd cl L outer A₀ base h₀ m sh sg sd so sk Q E B F X N T hk' hap hret
  walk_at "mine open CR0"
  k_steps
  refine ⟨_, fun _ => True, _, _, by k_asm, by k_asm, trivial, ?_, pyI_str rfl (by k_asm) (by k_asm), ?_⟩
  · rw [sizeLine_eq]; have := hd.len; simp [wd]; lia
  rintro s₂ ⟨g', rfl⟩
  refine rest_map (R := fun i y => ∃ u, y = .str (S (pr 2 (ds.getD i 0))) u) trivial ?_ ?_
  · intro i ys v I oI C oC D m₂ h tk E' hi hP hC hx F1 N1 off ne
    obtain ⟨c, u, hc, rfl⟩ := hP
    have hi' : i < ds.length := by simpa [wd] using hi
    rw [wd_get ds i hi'] at hc
    cases hc
    have hlt : ds.getD i 0 < 16 := hd.lt _ (by simp [hi'])
    k_steps
    exact ⟨_, _, rfl, by assumption, News.sub (by assumption) (fun p hp => List.mem_cons_of_mem _ hp), _, rfl⟩
  · intro ys ha
    have hsa : StrsAre ys ((ds.map (pr 2)).map S) := by
      have h1 := strsAre_of (f := fun i => S (pr 2 (ds.getD i 0))) ha
      have e : (S (wd ds)).cps.size = ds.length := by simp [wd]
      rw [e, map_range_get (fun d => S (pr 2 d))] at h1
      rw [List.map_map]; exact h1
    clear ha
    k_steps
    exact hret _ _ _ _ ⟨[], rfl, Apart.zero, rfl, _, rfl⟩ (by assumption) (by assumption)


/-- `_law_written` -/
theorem wr {w : World} {ds : List Nat} {turn : Int} {t1 t2 : Tok} (hd : Ok ds) :
    ConF w 0 (call (.ref 216) [.str (S (wd ds)) t1, .int turn t2]) [] (fun v own' => own' = [] ∧ ∃ t, v = .str (S (tx ds (turn % 3).toNat)) t) := by
  rcases (show turn % 3 = 0 ∨ turn % 3 = 1 ∨ turn % 3 = 2 by lia) with h | h | h
  · rw [h]; exact wr0 hd h
  · rw [h]; exact wr1 hd h
  · rw [h]; exact wr2 hd h

end Mine.Wr
end
section
open PySem PySem.W PyProof.Rows PySem.Builtin.Int
open PyProof.Rows.LCg Mine.LC
namespace Mine.Let
theorem lines17 : True := by
  k_with_none
  w_top off
  k_with "execs cons" => (((try dsimp only); refine toks_any ?_; intro _))
  k_with "k_enter" => (case zzfresh => (refine' code_def ?zzk1 ?zzk2 ?zzk3 ?zzk4 ?zzk5 ?zzkA ?zzkF ?zzkK ?zzk6 ?zzk7 ?zzk8 ?zzk9 ?zzkB ?_ ?zzc2 ?zzc3 ?zzc4 ?zzc5; (case zzkA => exact rfl); (case zzkF => exact rfl); (case zzkK => first | exact rfl | assumption); (case zzk1 => k_asm); (case zzk2 => k_asm); (case zzk3 => k_asm); (case zzk4 => k_asm); (case zzk5 => k_asm); (case zzk6 => k_is); (case zzk7 => k_is); (case zzk8 => k_room); (case zzk9 => first | exact BindsTo.of_eq rfl | exact binds_K (by k_in) rfl (by k_is) rfl rfl rfl | fail "k_enter: no rule for these arguments"); (case zzc5 => decide); (case zzkB => exact locs rfl); (case zzc2 => exact rfl); (case zzc3 => exact rfl); (case zzc4 => exact rfl); k_whole; intro zzg' zzL' zzh' zzFG' zzF' zzN' zzB' zzX' zzT'; (try dsimp only); (try k_lift zzB'); (try k_fold)))
  k_with "k_enter" => (case zzfresh => (refine' code_defC ?zzk1 ?zzk2 ?zzk3 ?zzk4 ?zzk5 ?zzkA ?zzkF ?zzkK ?zzk6 ?zzk7 ?zzk8 ?zzk9 ?zzkB ?zzkD ?_ ?zzc2 ?zzc3 ?zzc4; (case zzkA => exact rfl); (case zzkF => exact rfl); (case zzkK => first | exact rfl | assumption); (case zzk1 => k_asm); (case zzk2 => k_asm); (case zzk3 => k_asm); (case zzk4 => k_asm); (case zzk5 => k_asm); (case zzk6 => k_is); (case zzk7 => k_is); (case zzk8 => k_room); (case zzk9 => first | exact BindsTo.of_eq rfl | exact binds_K (by k_in) rfl (by k_is) rfl rfl rfl | fail "k_enter: no rule for these arguments"); (case zzkB => exact rfl); (case zzkD => decide +kernel); (case zzc2 => exact rfl); (case zzc3 => exact rfl); (case zzc4 => exact rfl); k_whole; intro zzg' zzL' zzh' zztk' zzcells' zzFG' zzF' zzN' zzY' zzB' zzX' zzT' zzl1; (try k_lt zzl1); k_cells zzY'; (try simp only [List.cons_append, List.nil_append] at zzN'); (try dsimp only); (try k_lift zzB'); (try k_fold)))
  k_with "mine open" => ((refine wpAny_call ?_; k_dflt (first | k_enter | kc_enter)))
  k_with "mine open R" => (case zzfresh => (refine wpAny_call ?_; k_dflt (refine' code_defR ?zzk1 ?zzk2 ?zzk3 ?zzk4 ?zzkD ?zzk5 ?zzkA ?zzkF ?zzkK ?zzk6 ?zzk7 ?zzk8 ?zzk9 ?zzkB ?_ ?zzc2 ?zzc3 ?zzc4 ?zzc5; (case zzkA => exact rfl); (case zzkF => exact rfl); (case zzkK => first | exact rfl | assumption); (case zzk1 => k_asm); (case zzk2 => k_asm); (case zzk3 => k_asm); (case zzk4 => with_reducible assumption); (case zzkD => with_reducible assumption); (case zzk5 => k_asm); (case zzk6 => k_is); (case zzk7 => k_is); (case zzk8 => k_room); (case zzk9 => first | exact BindsTo.of_eq rfl | exact binds_K (by k_in) rfl (by k_is) rfl rfl rfl | fail "k_enter: no rule for these arguments"); (case zzc5 => decide); (case zzkB => exact locs rfl); (case zzc2 => exact rfl); (case zzc3 => exact rfl); (case zzc4 => exact rfl)); k_whole; intro zzg' zzL' zzh' zzFG' zzF' zzN' zzB' zzX' zzT' zzS'; (try dsimp only); (try k_lift zzB'); (try k_fold)))
  k_with "mine open CR" => (case zzfresh => (refine wpAny_call ?_; k_dflt (refine' code_defCR ?zzk1 ?zzk2 ?zzk3 ?zzk4 ?zzkR ?zzk5 ?zzkA ?zzkF ?zzkK ?zzk6 ?zzk7 ?zzk8 ?zzk9 ?zzkB ?zzkD ?_ ?zzc2 ?zzc3 ?zzc4; (case zzkA => exact rfl); (case zzkF => exact rfl); (case zzkK => first | exact rfl | assumption); (case zzk1 => k_asm); (case zzk2 => k_asm); (case zzk3 => k_asm); (case zzk4 => with_reducible assumption); (case zzkR => with_reducible assumption); (case zzk5 => k_asm); (case zzk6 => k_is); (case zzk7 => k_is); (case zzk8 => k_room); (case zzk9 => first | exact BindsTo.of_eq rfl | exact binds_K (by k_in) rfl (by k_is) rfl rfl rfl | fail "k_enter: no rule for these arguments"); (case zzkB => exact rfl); (case zzkD => decide +kernel); (case zzc2 => exact rfl); (case zzc3 => exact rfl); (case zzc4 => exact rfl)); k_whole; intro zzg' zzL' zzh' zztk' zzcells' zzFG' zzF' zzN' zzY' zzB' zzX' zzT' zzl1 zzS'; (try k_lt zzl1); k_cells zzY'; (try simp only [List.cons_append, List.nil_append] at zzN'); (try dsimp only); (try k_lift zzB'); (try k_fold)))
  k_with "mine open CR0" => (case zzfresh => (refine wpAny_call ?_; k_dflt (refine' code_defCR (own := []) ?zzk1 ?zzk2 ?zzk3 ?zzk4 ?zzkR ?zzk5 ?zzkA ?zzkF ?zzkK ?zzk6 ?zzk7 ?zzk8 ?zzk9 ?zzkB ?zzkD ?_ ?zzc2 ?zzc3 ?zzc4; (case zzkA => exact rfl); (case zzkF => exact rfl); (case zzkK => first | exact rfl | assumption); (case zzk1 => k_asm); (case zzk2 => k_asm); (case zzk3 => k_asm); (case zzk4 => k_asm); (case zzkR => exact Apart.zero); (case zzk5 => k_asm); (case zzk6 => k_is); (case zzk7 => k_is); (case zzk8 => k_room); (case zzk9 => first | exact BindsTo.of_eq rfl | exact binds_K (by k_in) rfl (by k_is) rfl rfl rfl | fail "k_enter: no rule for these arguments"); (case zzkB => exact rfl); (case zzkD => decide +kernel); (case zzc2 => exact rfl); (case zzc3 => exact rfl); (case zzc4 => exact rfl)); k_whole; intro zzg' zzL' zzh' zztk' zzcells' zzFG' zzF' zzN' zzY' zzB' zzX' zzT' zzl1 zzS'; clear zzl1; k_cells zzY'; (try simp only [List.cons_append, List.nil_append, List.append_nil] at zzN'); (try dsimp only); (try k_lift zzB'); (try k_fold)))
  k_with "mine open R0" => (case zzfresh => (refine wpAny_call ?_; k_dflt (refine' code_defR (own := []) ?zzk1 ?zzk2 ?zzk3 ?zzk4 ?zzkD ?zzk5 ?zzkA ?zzkF ?zzkK ?zzk6 ?zzk7 ?zzk8 ?zzk9 ?zzkB ?_ ?zzc2 ?zzc3 ?zzc4 ?zzc5; (case zzkA => exact rfl); (case zzkF => exact rfl); (case zzkK => first | exact rfl | assumption); (case zzk1 => k_asm); (case zzk2 => k_asm); (case zzk3 => k_asm); (case zzk4 => k_asm); (case zzkD => exact Apart.zero); (case zzk5 => k_asm); (case zzk6 => k_is); (case zzk7 => k_is); (case zzk8 => k_room); (case zzk9 => first | exact BindsTo.of_eq rfl | exact binds_K (by k_in) rfl (by k_is) rfl rfl rfl | fail "k_enter: no rule for these arguments"); (case zzc5 => decide); (case zzkB => exact locs rfl); (case zzc2 => exact rfl); (case zzc3 => exact rfl); (case zzc4 => exact rfl)); k_whole; intro zzg' zzL' zzh' zzFG' zzF' zzN' zzB' zzX' zzT' zzS'; (try dsimp only); (try k_lift zzB'); (try k_fold)))
  k_with "exec Assign cons ListComp" => ((k_here; (with_reducible show wpAny _ _ (exec (Stmt.Assign [Expr.Name _ _] (Expr.ListComp _ [Comprehension.mk (Expr.Name _ _) _ [] _] _ _) _) _) _ _ _); k_dflt (refine assign_M (F₀ := by k_asm) (by rfl) (by with_unfolding_all rfl) (by with_unfolding_all rfl) (by decide) (by rfl) (by decide) (by rfl) (by rfl) (by rfl) ?_)))
  k_with "exec Assign cons ListComp" => ((k_here; (with_reducible show wpAny _ _ (exec (Stmt.Assign [Expr.Name _ _] (Expr.ListComp _ [Comprehension.mk (Expr.Name _ _) _ [_] _] _ _) _) _) _ _ _); k_dflt (refine assign_MT (F₀ := by k_asm) (by rfl) (by with_unfolding_all rfl) (by with_unfolding_all rfl) (by decide) (by rfl) (by decide) (by rfl) (by rfl) (by rfl) ?_)))
  k_with "eval ListComp" => ((k_here; (with_reducible show wpAny _ _ (eval (Expr.ListComp _ [Comprehension.mk (Expr.Name _ _) _ [] _] _ _) _) _ _ _); k_dflt (refine comp_M (F₀ := by k_asm) (by with_unfolding_all rfl) (by decide) (by rfl) (by decide) (by rfl) ?_)))
  k_with "eval ListComp" => ((k_here; (with_reducible show wpAny _ _ (eval (Expr.ListComp _ [Comprehension.mk (Expr.Name _ _) _ [_] _] _ _) _) _ _ _); k_dflt (refine comp_MT (F₀ := by k_asm) (by with_unfolding_all rfl) (by decide) (by rfl) (by decide) (by rfl) ?_)))
  k_with "binaryOp Mod int int" => ((k_here; k_dflt (refine mod_e (by decide) ?_)))
  k_with "binaryOp FloorDiv int int" => ((k_here; k_dflt (refine fdiv_e (by decide) (PyProof.noPylong_of_log2 (by decide +kernel)) ?_)))
  k_with "binaryOp Pow int int" => ((k_here; k_dflt (refine pow_is (by decide) (by decide) (by decide) (by with_reducible assumption) ?_)))
  k_with "subscriptTail" => ((k_here; (with_reducible show wpAny _ _ (subscriptTail _ _ (Value.str _ _) (Value.int _ _)) _ _ _); k_dflt (refine alpha_item (by omega) (by omega) ?_); intro _ _))
  k_with "call builtin:str.join" => ((k_here; k_dflt (refine join_SS (News.isList (by k_asm) (by k_mem)) (by with_reducible assumption) (by with_reducible assumption) (by decide) (by with_reducible assumption) ?_); intro _ _))
  trivial
def lp (v : Int) (i : Nat) : Bool := decide ((16 : Int) ^ (2 - i) ≤ v)
def lv (v : Int) (i : Nat) : List Nat := [65 + (v / 16 ^ (2 - i) % 16).toNat]
theorem inter_nil1 : ∀ ls : List Nat, inter [] (ls.map fun d => [65 + d]) = wd ls
  | [] => rfl
  | [x] => rfl
  | x :: y :: r => by
    show [65 + x] ++ [] ++ inter [] ((y :: r).map fun d => [65 + d]) = _
    rw [inter_nil1 (y :: r)]; rfl
theorem let_all (v : Int) (h0 : 0 ≤ v) : (((List.range 3).filter (lp v)).map (lv v)) = (dg v.toNat).map fun d => [65 + d] := by
  obtain ⟨n, rfl⟩ := Int.eq_ofNat_of_zero_le h0
  have p2 : lp n 0 = decide (256 ≤ n) := decide_eq_decide.mpr (Int.ofNat_le (m := 256) (n := n))
  have p1 : lp n 1 = decide (16 ≤ n) := decide_eq_decide.mpr (Int.ofNat_le (m := 16) (n := n))
  have p0 : lp n 2 = decide (1 ≤ n) := decide_eq_decide.mpr (Int.ofNat_le (m := 1) (n := n))
  have l2 : lv n 0 = [65 + n / 256 % 16] := rfl
  have l1 : lv n 1 = [65 + n / 16 % 16] := rfl
  have l0 : lv n 2 = [65 + n % 16] := by
    have : lv n 2 = [65 + n / 1 % 16] := rfl
    rw [this, Nat.div_one]
  have r3 : List.range 3 = [0, 1, 2] := rfl
  rw [r3, Int.toNat_natCast]
  unfold dg
  simp only [List.filter_cons, List.filter_nil, p2, p1, p0, decide_eq_true_eq]
  split <;> split <;> split <;> simp [l2, l1, l0]
theorem lets_weight (l : List Nat) (h : l.length ≤ 3) : ((l.map fun d => [65 + d]).map List.length).sum + (l.map fun d => [65 + d]).length ≤ 1048576 := by
  have e : (l.map fun d => [65 + d]).map List.length = l.map fun _ => 1 := by rw [List.map_map]; rfl
  have e2 : ∀ l : List Nat, (l.map fun _ => 1).sum = l.length := by
    intro l; induction l with
    | nil => rfl
    | cons a r ih => simp only [List.map_cons, List.sum_cons, List.length_cons, ih]; omega
  rw [e, e2, List.length_map]; omega

set_option maxRecDepth 100000 in
set_option maxHeartbeats 8000000 in
/-- `_law_letters` -/
theorem letters {w : World} {v : Int} {t1 : Tok} (h0 : 0 ≤ v) (h1 : v < 4096) :
    ConF w 0 (call (.ref 221) [.int v t1]) [] (fun r own' => own' = [] ∧ ∃ t, r = .str (S (wd (dg v.toNat))) t) := by
  have hbl : Str.ofString "" = S [] := by decide +kernel
  have p2 : (16 : Int) ^ (2 : Int).toNat = 256 := rfl
  have p1 : (16 : Int) ^ (1 : Int).toNat = 16 := rfl
  have p0 : (16 : Int) ^ (0 : Int).toNat = 1 := rfl
  have hw := lets_weight (dg v.toNat) (dg_ok _).len
  refine ConF.opened ?_
  k_fill
  intro rest p loose mean mg mb cn cs a' ccd cl L outer A₀ base h₀ m sh sg sd so sk Q E B F X N T hk' hap hret
  walk_at "mine open CR0"
  k_steps
  refine SrcMT.tup rfl (by k_asm) (by k_asm) (.head _) (Nat.le_of_ble_eq_true rfl) fun g' => ?_
  refine rest_filter (p := lp v) (R := fun i y => ∃ u, y = .str (S (lv v i)) u) ⟨_, .head _, rfl, _, rfl⟩ ?_ ?_
  · intro i ys x I oI C oC D m₂ h tk E' hi hP hC hx F1 N1 off ne
    rcases (show i = 0 ∨ i = 1 ∨ i = 2 by have : i < 3 := hi; omega) with rfl | rfl | rfl <;> lcg_open hP
    all_goals k_steps
    all_goals first | exact ⟨_, _, rfl, by assumption, by assumption, _, rfl⟩ | exact ⟨_, _, rfl, by assumption, by assumption, trivial⟩
  · intro ys ha
    have hsa : StrsAre ys ((((List.range 3).filter (lp v)).map (lv v)).map S) := by
      rw [List.map_map]; exact strsAre_of (f := fun i => S (lv v i)) ha
    rw [let_all v h0] at hsa
    clear ha
    k_steps
    rw [inter_nil1]
    exact hret _ _ _ _ ⟨[], rfl, Apart.zero, rfl, _, rfl⟩ (by assumption) (by assumption)

end Mine.Let
end
section
open PySem PySem.W PyProof.Rows PySem.Builtin.Int
open PyProof.Rows.LCg Mine.LC
namespace Mine.Ap
theorem lines18 : True := by
  k_with_none
  w_top off
  k_with "execs cons" => (((try dsimp only); refine toks_any ?_; intro _))
  k_with "k_enter" => (case zzfresh => (refine' code_def ?zzk1 ?zzk2 ?zzk3 ?zzk4 ?zzk5 ?zzkA ?zzkF ?zzkK ?zzk6 ?zzk7 ?zzk8 ?zzk9 ?zzkB ?_ ?zzc2 ?zzc3 ?zzc4 ?zzc5; (case zzkA => exact rfl); (case zzkF => exact rfl); (case zzkK => first | exact rfl | assumption); (case zzk1 => k_asm); (case zzk2 => k_asm); (case zzk3 => k_asm); (case zzk4 => k_asm); (case zzk5 => k_asm); (case zzk6 => k_is); (case zzk7 => k_is); (case zzk8 => k_room); (case zzk9 => first | exact BindsTo.of_eq rfl | exact binds_K (by k_in) rfl (by k_is) rfl rfl rfl | fail "k_enter: no rule for these arguments"); (case zzc5 => decide); (case zzkB => exact locs rfl); (case zzc2 => exact rfl); (case zzc3 => exact rfl); (case zzc4 => exact rfl); k_whole; intro zzg' zzL' zzh' zzFG' zzF' zzN' zzB' zzX' zzT'; (try dsimp only); (try k_lift zzB'); (try k_fold)))
  k_with "k_enter" => (case zzfresh => (refine' code_defC ?zzk1 ?zzk2 ?zzk3 ?zzk4 ?zzk5 ?zzkA ?zzkF ?zzkK ?zzk6 ?zzk7 ?zzk8 ?zzk9 ?zzkB ?zzkD ?_ ?zzc2 ?zzc3 ?zzc4; (case zzkA => exact rfl); (case zzkF => exact rfl); (case zzkK => first | exact rfl | assumption); (case zzk1 => k_asm); (case zzk2 => k_asm); (case zzk3 => k_asm); (case zzk4 => k_asm); (case zzk5 => k_asm); (case zzk6 => k_is); (case zzk7 => k_is); (case zzk8 => k_room); (case zzk9 => first | exact BindsTo.of_eq rfl | exact binds_K (by k_in) rfl (by k_is) rfl rfl rfl | fail "k_enter: no rule for these arguments"); (case zzkB => exact rfl); (case zzkD => decide +kernel); (case zzc2 => exact rfl); (case zzc3 => exact rfl); (case zzc4 => exact rfl); k_whole; intro zzg' zzL' zzh' zztk' zzcells' zzFG' zzF' zzN' zzY' zzB' zzX' zzT' zzl1; (try k_lt zzl1); k_cells zzY'; (try simp only [List.cons_append, List.nil_append] at zzN'); (try dsimp only); (try k_lift zzB'); (try k_fold)))
  k_with "mine open" => ((refine wpAny_call ?_; k_dflt (first | k_enter | kc_enter)))
  k_with "mine open R" => (case zzfresh => (refine wpAny_call ?_; k_dflt (refine' code_defR ?zzk1 ?zzk2 ?zzk3 ?zzk4 ?zzkD ?zzk5 ?zzkA ?zzkF ?zzkK ?zzk6 ?zzk7 ?zzk8 ?zzk9 ?zzkB ?_ ?zzc2 ?zzc3 ?zzc4 ?zzc5; (case zzkA => exact rfl); (case zzkF => exact rfl); (case zzkK => first | exact rfl | assumption); (case zzk1 => k_asm); (case zzk2 => k_asm); (case zzk3 => k_asm); (case zzk4 => with_reducible assumption); (case zzkD => with_reducible assumption); (case zzk5 => k_asm); (case zzk6 => k_is); (case zzk7 => k_is); (case zzk8 => k_room); (case zzk9 => first | exact BindsTo.of_eq rfl | exact binds_K (by k_in) rfl (by k_is) rfl rfl rfl | fail "k_enter: no rule for these arguments"); (case zzc5 => decide); (case zzkB => exact locs rfl); (case zzc2 => exact rfl); (case zzc3 => exact rfl); (case zzc4 => exact rfl)); k_whole; intro zzg' zzL' zzh' zzFG' zzF' zzN' zzB' zzX' zzT' zzS'; (try dsimp only); (try k_lift zzB'); (try k_fold)))
  k_with "mine open CR" => (case zzfresh => (refine wpAny_call ?_; k_dflt (refine' code_defCR ?zzk1 ?zzk2 ?zzk3 ?zzk4 ?zzkR ?zzk5 ?zzkA ?zzkF ?zzkK ?zzk6 ?zzk7 ?zzk8 ?zzk9 ?zzkB ?zzkD ?_ ?zzc2 ?zzc3 ?zzc4; (case zzkA => exact rfl); (case zzkF => exact rfl); (case zzkK => first | exact rfl | assumption); (case zzk1 => k_asm); (case zzk2 => k_asm); (case zzk3 => k_asm); (case zzk4 => with_reducible assumption); (case zzkR => with_reducible assumption); (case zzk5 => k_asm); (case zzk6 => k_is); (case zzk7 => k_is); (case zzk8 => k_room); (case zzk9 => first | exact BindsTo.of_eq rfl | exact binds_K (by k_in) rfl (by k_is) rfl rfl rfl | fail "k_enter: no rule for these arguments"); (case zzkB => exact rfl); (case zzkD => decide +kernel); (case zzc2 => exact rfl); (case zzc3 => exact rfl); (case zzc4 => exact rfl)); k_whole; intro zzg' zzL' zzh' zztk' zzcells' zzFG' zzF' zzN' zzY' zzB' zzX' zzT' zzl1 zzS'; (try k_lt zzl1); k_cells zzY'; (try simp only [List.cons_append, List.nil_append] at zzN'); (try dsimp only); (try k_lift zzB'); (try k_fold)))
  k_with "mine open CR0" => (case zzfresh => (refine wpAny_call ?_; k_dflt (refine' code_defCR (own := []) ?zzk1 ?zzk2 ?zzk3 ?zzk4 ?zzkR ?zzk5 ?zzkA ?zzkF ?zzkK ?zzk6 ?zzk7 ?zzk8 ?zzk9 ?zzkB ?zzkD ?_ ?zzc2 ?zzc3 ?zzc4; (case zzkA => exact rfl); (case zzkF => exact rfl); (case zzkK => first | exact rfl | assumption); (case zzk1 => k_asm); (case zzk2 => k_asm); (case zzk3 => k_asm); (case zzk4 => k_asm); (case zzkR => exact Apart.zero); (case zzk5 => k_asm); (case zzk6 => k_is); (case zzk7 => k_is); (case zzk8 => k_room); (case zzk9 => first | exact BindsTo.of_eq rfl | exact binds_K (by k_in) rfl (by k_is) rfl rfl rfl | fail "k_enter: no rule for these arguments"); (case zzkB => exact rfl); (case zzkD => decide +kernel); (case zzc2 => exact rfl); (case zzc3 => exact rfl); (case zzc4 => exact rfl)); k_whole; intro zzg' zzL' zzh' zztk' zzcells' zzFG' zzF' zzN' zzY' zzB' zzX' zzT' zzl1 zzS'; clear zzl1; k_cells zzY'; (try simp only [List.cons_append, List.nil_append, List.append_nil] at zzN'); (try dsimp only); (try k_lift zzB'); (try k_fold)))
  k_with "mine open R0" => (case zzfresh => (refine wpAny_call ?_; k_dflt (refine' code_defR (own := []) ?zzk1 ?zzk2 ?zzk3 ?zzk4 ?zzkD ?zzk5 ?zzkA ?zzkF ?zzkK ?zzk6 ?zzk7 ?zzk8 ?zzk9 ?zzkB ?_ ?zzc2 ?zzc3 ?zzc4 ?zzc5; (case zzkA => exact rfl); (case zzkF => exact rfl); (case zzkK => first | exact rfl | assumption); (case zzk1 => k_asm); (case zzk2 => k_asm); (case zzk3 => k_asm); (case zzk4 => k_asm); (case zzkD => exact Apart.zero); (case zzk5 => k_asm); (case zzk6 => k_is); (case zzk7 => k_is); (case zzk8 => k_room); (case zzk9 => first | exact BindsTo.of_eq rfl | exact binds_K (by k_in) rfl (by k_is) rfl rfl rfl | fail "k_enter: no rule for these arguments"); (case zzc5 => decide); (case zzkB => exact locs rfl); (case zzc2 => exact rfl); (case zzc3 => exact rfl); (case zzc4 => exact rfl)); k_whole; intro zzg' zzL' zzh' zzFG' zzF' zzN' zzB' zzX' zzT' zzS'; (try dsimp only); (try k_lift zzB'); (try k_fold)))
  k_with "exec Assign cons ListComp" => ((k_here; (with_reducible show wpAny _ _ (exec (Stmt.Assign [Expr.Name _ _] (Expr.ListComp _ [Comprehension.mk (Expr.Name _ _) _ [] _] _ _) _) _) _ _ _); k_dflt (refine assign_M (F₀ := by k_asm) (by rfl) (by with_unfolding_all rfl) (by with_unfolding_all rfl) (by decide) (by rfl) (by decide) (by rfl) (by rfl) (by rfl) ?_)))
  k_with "exec Assign cons ListComp" => ((k_here; (with_reducible show wpAny _ _ (exec (Stmt.Assign [Expr.Name _ _] (Expr.ListComp _ [Comprehension.mk (Expr.Name _ _) _ [_] _] _ _) _) _) _ _ _); k_dflt (refine assign_MT (F₀ := by k_asm) (by rfl) (by with_unfolding_all rfl) (by with_unfolding_all rfl) (by decide) (by rfl) (by decide) (by rfl) (by rfl) (by rfl) ?_)))
  k_with "eval ListComp" => ((k_here; (with_reducible show wpAny _ _ (eval (Expr.ListComp _ [Comprehension.mk (Expr.Name _ _) _ [] _] _ _) _) _ _ _); k_dflt (refine comp_M (F₀ := by k_asm) (by with_unfolding_all rfl) (by decide) (by rfl) (by decide) (by rfl) ?_)))
  k_with "eval ListComp" => ((k_here; (with_reducible show wpAny _ _ (eval (Expr.ListComp _ [Comprehension.mk (Expr.Name _ _) _ [_] _] _ _) _) _ _ _); k_dflt (refine comp_MT (F₀ := by k_asm) (by with_unfolding_all rfl) (by decide) (by rfl) (by decide) (by rfl) ?_)))
  trivial
theorem dm_e {prog : Program} {w : World} {A : Around} {E : Value → Shared → Prop} {s : Shared} {a b : Int} {t u : Tok} {Q : Value → Shared → Prop} {h₀ : Heap} {L : Addr} {m : Str → Option Value} {news : Led} (F : Fr h₀ L s.heap m) (N : News h₀ L s.heap news) (hb : 0 < b) (hs : Builtin.divisionGoesByPylong a b = false)
    (h : ∀ D h', Fr h₀ L h' m → News h₀ L h' ((D, tupO [.int (a / b) s.toks, .int (a % b) (s.toks + 1)]) :: news) → AllLt D news → Q (.ref D) { s with toks := s.toks + 1 + 1, heap := h' }) :
    wpAny (model prog w) A (call (.builtin "divmod") [.int a t, .int b u]) Q E s := by
  refine divmod_N F N (Int.ne_of_gt hb) (fun h' F' N' => ?_) (Or.inl hs)
  rw [Int.fdiv_eq_ediv_of_nonneg _ (Int.le_of_lt hb), Int.fmod_eq_emod_of_nonneg _ (Int.le_of_lt hb)] at N'
  exact h _ h' F' N' (allLt_of fun p hp => Heap.lt_size (N p hp).1)
abbrev AP : Array UInt8 := #[65, 66, 67, 68, 69, 70, 71, 72, 73, 74, 75, 76, 77, 78, 79, 80]
theorem ap_picked : ∀ i : Fin 16, KBy.picked AP (some (i.val : Int)) (some ((i.val : Int) + 1)) = #[(65 + i.val).toUInt8] := by decide +kernel
theorem ap_slice {prog : Program} {w : World} {A : Around} {E : Value → Shared → Prop} {s : Shared} {value slice : Expr} {t ti tu : Tok} {h₀ : Heap} {L : Addr} {m : Str → Option Value} {news : Led} {Q : Value → Shared → Prop} {i : Int}
    (hF : Fr h₀ L s.heap m) (hN : News h₀ L s.heap news) (h0 : 0 ≤ i) (h1 : i < 16)
    (h : ∀ h' t' k, Fr h₀ L h' m → News h₀ L h' news → Q (.bytes #[(65 + i.toNat).toUInt8] t') { s with heap := h', toks := k })
    (hs : subscripted slice false (.bytes AP t) (.ref s.heap.objs.size) = operate [.ref s.heap.objs.size, .bytes AP t] (getItem (.bytes AP t) (.ref s.heap.objs.size)) := by with_unfolding_all rfl)
    (ht : ∀ r, letTemporaryGo value (.bytes AP t) r = pure () := by intro _; with_unfolding_all rfl) :
    wpAny (model prog w) A (subscriptTail value slice (.bytes AP t) (.ref s.heap.objs.size)) Q E { s with heap := s.heap.push { cls := .type "slice", data := .fields #[.int i ti, .int (i + 1) tu, .none] } } := by
  have hi : ((i.toNat : Nat) : Int) = i := Int.toNat_of_nonneg h0
  have e := ap_picked ⟨i.toNat, by omega⟩
  simp only [hi] at e
  refine KBc.slice_K (lo := some i) (hi := some (i + 1)) hF hN rfl (by constructor) (by constructor) (by decide) (fun h' t' k F' N' _ => ?_) hs ht
  rw [e]; exact h h' t' k F' N'
theorem lines19 : True := by
  k_with "call builtin:divmod" => (case zzfresh => (k_here; k_dflt (refine dm_e (by k_asm) (by k_asm) (by decide) (PyProof.noPylong_of_log2 (by decide +kernel)) ?_); intro zzD' zzh' zzF' zzN' zzl1; (try simp only [AllLt, and_true] at zzl1)))
  k_with "subscriptTail" => (case zzfresh => (k_here; (with_reducible show wpAny _ _ (subscriptTail _ (Expr.Slice _ _ none _) (Value.bytes _ _) (Value.ref _)) _ _ _); (with_reducible rename Fr _ _ _ _ => zzF'); (with_reducible rename News _ _ _ _ => zzN'); k_dflt (refine ap_slice (s := ⟨_, _, _, _, _⟩) zzF' zzN' (by with_reducible assumption) (by with_reducible assumption) ?_); intro zzh' _ _ zzF' zzN'))
  trivial
def bw (ds : List Nat) : Array UInt8 := ((wd ds).map Nat.toUInt8).toArray
theorem if_neg_abs {v : Int} (h : 0 ≤ v) : (if -v < 0 then - -v else -v) = v := by split <;> omega

def apf : Nat → Nat → List Nat
  | 0, _ => []
  | f + 1, v => if v = 0 then [] else apf f (v / 16) ++ [v % 16]
theorem bw_app (a b : List Nat) : bw (a ++ b) = bw a ++ bw b := by simp [bw, wd]
theorem apf_dg {v : Nat} (h : v < 4096) : apf 3 v = dg v := by
  have e : v / 16 / 16 = v / 256 := Nat.div_div_eq_div_mul v 16 16
  unfold dg
  simp only [apf]
  rw [e]
  rcases Nat.lt_or_ge v 1 with a | a
  · obtain rfl : v = 0 := Nat.lt_one_iff.mp a
    rfl
  · rcases Nat.lt_or_ge v 16 with b | b
    · rw [if_neg (Nat.ne_of_gt a), if_pos (Nat.div_eq_of_lt b), if_neg (Nat.not_le.mpr (Nat.lt_trans b (by decide))), if_neg (Nat.not_le.mpr b), if_pos a]
      rfl
    · rcases Nat.lt_or_ge v 256 with c | c
      · rw [if_neg (Nat.ne_of_gt a), if_neg (Nat.ne_of_gt (Nat.div_pos b (by decide))), if_pos (Nat.div_eq_of_lt c), if_neg (Nat.not_le.mpr c), if_pos b, if_pos a]
      · rw [if_neg (Nat.ne_of_gt a), if_neg (Nat.ne_of_gt (Nat.div_pos b (by decide))), if_neg (Nat.ne_of_gt (Nat.div_pos c (by decide))), if_pos c, if_pos b, if_pos a]
        rfl
/-- what stands at the loop's head -/
inductive ApI (R : Array UInt8) (n : Nat) (m : Str → Option Value) : Prop
  | mk (v : Nat) (b : Array UInt8) (t1 t2 t3 : Tok) (m0 : Str → Option Value) (em : m = fun y => if y = Str.ofString "num" then some (.int (v : Int) t1) else if y = Str.ofString "val" then some (.bytes b t2) else if y = Str.ofString "AP" then some (.bytes AP t3) else m0 y)
    (hv : v < 16 ^ n) (hb : b.size + n ≤ 3) (hr : bw (apf n v) ++ b = R) : ApI R n m
theorem ApI.of {R : Array UInt8} {n : Nat} {m : Str → Option Value} {v : Nat} {b : Array UInt8} {t1 t2 t3 : Tok} (h1 : m (Str.ofString "num") = some (.int (v : Int) t1)) (h2 : m (Str.ofString "val") = some (.bytes b t2)) (h3 : m (Str.ofString "AP") = some (.bytes AP t3))
    (hv : v < 16 ^ n) (hb : b.size + n ≤ 3) (hr : bw (apf n v) ++ b = R) : ApI R n m := by
  refine .mk v b t1 t2 t3 m ?_ hv hb hr
  funext y
  by_cases e1 : y = Str.ofString "num"
  · rw [if_pos e1, e1, h1]
  · rw [if_neg e1]
    by_cases e2 : y = Str.ofString "val"
    · rw [if_pos e2, e2, h2]
    · rw [if_neg e2]
      by_cases e3 : y = Str.ofString "AP"
      · rw [if_pos e3, e3, h3]
      · rw [if_neg e3]
section
variable {prog : Program} {w : World} {A : Around} {E : Value → Shared → Prop} {s : Shared} {a : Int} {t : Tok}
theorem ti_t {Q : Bool → Shared → Prop} (h : a ≠ 0) (hQ : Q true s) : wpAny (model prog w) A (truthy (.int a t)) Q E s := by
  refine truthy_int ?_
  rw [show (a != 0) = true from bne_iff_ne.mpr h]; exact hQ
theorem ti_f {Q : Bool → Shared → Prop} (h : a = 0) (hQ : Q false s) : wpAny (model prog w) A (truthy (.int a t)) Q E s := by
  refine truthy_int ?_
  rw [h]; exact hQ
end
theorem ap_next {R b : Array UInt8} {n v : Nat} (h0 : 0 < v) (hr : bw (apf (n + 1) v) ++ b = R) : bw (apf n (v / 16)) ++ (#[(65 + ((v : Int) % 16).toNat).toUInt8] ++ b) = R := by
  rw [← hr]
  simp only [apf]
  rw [if_neg (Nat.ne_of_gt h0), bw_app, Array.append_assoc]
  rfl
theorem ap_done {R b : Array UInt8} {n : Nat} (hr : bw (apf n 0) ++ b = R) : b = R := by
  rw [← hr]
  cases n <;> simp [apf, bw, wd]
theorem ap_lt {n v : Nat} (h : v < 16 ^ (n + 1)) : v / 16 < 16 ^ n := Nat.div_lt_of_lt_mul (by rw [Nat.pow_succ, Nat.mul_comm] at h; exact h)
theorem lines20 : True := by
  k_with "truthy int" => ((k_here; k_dflt (first | refine ti_t (by with_reducible assumption) ?_ | refine ti_f (by with_reducible assumption) ?_)))
  k_with "binaryOp Add bytes bytes" => ((k_here; k_dflt (refine KBy.add_bytes (by with_reducible assumption) ?_); intro _ _))
  k_with "exec While Name" => (refine stop_here ?_)
  trivial
set_option maxRecDepth 100000 in
set_option maxHeartbeats 1000000 in
theorem int2ap {w : World} {v : Int} {t1 : Tok} (h0 : 0 ≤ v) (h1 : v < 4096) :
    ConF w 0 (call (.ref 66) [.int (-v) t1]) [] (fun r own' => own' = [] ∧ ∃ t, r = .bytes (bw (dg v.toNat)) t) := by
  obtain ⟨V, rfl⟩ := Int.eq_ofNat_of_zero_le h0
  have h2 : V < 4096 := Int.ofNat_lt.mp h1
  have habs := if_neg_abs h0
  rw [show ((V : Int)).toNat = V from rfl]
  clear h0 h1
  refine ConF.opened ?_
  k_fill
  intro rest p loose mean mg mb cn cs a' ccd cl L outer A₀ base h₀ m sh sg sd so sk Q E B F X N T hk' hap hret
  walk_at "mine open R0"
  k_steps
  unfold Stop
  rename Fr _ _ _ _ => F9
  rename News _ _ _ [] => N9
  refine While_inv (fun n m _ => ApI (bw (dg V)) n m) (n₀ := 3) F9 N9 (.of (by show (some (Value.int _ _) : Option Value) = some (.int _ _); rw [habs]) (by rfl) (by rfl) h2 (by decide) (by rw [apf_dg h2]; exact Array.append_empty)) ?_
  clear F9 N9
  intro n m₁ news₁ h₁ tk₁ F₁ N₁ J₁
  obtain ⟨v, b, t1, t2, t3, m0, rfl, hv, hb, hr⟩ := J₁
  have N₀ := News.sub N₁ (l' := []) (fun p hp => nomatch hp)
  clear N₁
  rcases Nat.eq_zero_or_pos v with rfl | hpos
  · have hz : ((0 : Nat) : Int) = 0 := rfl
    k_steps
    exact hret _ _ _ _ ⟨[], rfl, Apart.zero, rfl, _, by rw [ap_done hr]⟩ (by assumption) (by assumption)
  · have hz : (v : Int) ≠ 0 := by omega
    obtain ⟨n, rfl⟩ : ∃ k, n = k + 1 := by
      cases n with
      | zero => exact absurd hv (by simp; omega)
      | succ k => exact ⟨k, rfl⟩
    have hsz : (#[(65 + ((v : Int) % 16).toNat).toUInt8]).size + b.size ≤ 16777216 := by show 1 + b.size ≤ _; omega
    have hm0 : 0 ≤ (v : Int) % 16 := by omega
    have hm1 : (v : Int) % 16 < 16 := by omega
    k_steps
    refine WhileStep.intro (by assumption) (by assumption) (Nat.lt_succ_self n) (.of (by rfl) (by rfl) (by rfl) (ap_lt hv) ?_ (ap_next hpos hr))
    rw [Array.size_append]; show 1 + b.size + n ≤ 3; omega
end Mine.Ap
end
section
theorem Mine.resetDec : True := by
  k_with_none
  w_top off
  trivial
open PySem PySem.Spec PySem.Calls PySem.W PyProof.Rows
namespace Mine.Dec
open Builtin
set_option maxRecDepth 100000
theorem args_bytes_decode_2 (a b : Value) : argsOk "bytes.decode" ⟨[a, b], []⟩ := by
  unfold argsOk; kernel_rfl
theorem entry_eq0 {t t1 : Tok} : «bytes.decode» ⟨[.bytes #[] t, .str (Str.ofString "ascii") t1], []⟩ = (rule "bytes.decode.empty" >>= fun _ => retStr Str.empty) := by kernel_rfl
theorem entry_eq1 {c : UInt8} {cs : List UInt8} {t t1 : Tok} : «bytes.decode» ⟨[.bytes (c :: cs).toArray t, .str (Str.ofString "ascii") t1], []⟩ = (mkStr (Str.ofString "utf-8") >>= fun _ => mkStr (Str.ofString "ascii") >>= fun e => mkStr (Str.ofString "bytes.decode") >>= fun d =>
    call (.builtin "_codecs.decode.text") [.bytes (c :: cs).toArray t, e, .none, d] >>= fun v => ret v) := by kernel_rfl
theorem road_eq {b : Array UInt8} {id : String} : _codecs.decodeRoad id b (PySem.Str.ofString "ascii") none [] = (_codecs.runDecoder id _codecs.asciiDecoder none true b 0 [] >>= fun r => mkStr ⟨r.1⟩) := by kernel_rfl
open _codecs in
theorem run1 {id : String} {a : UInt8} (ha : a.toNat < 128) : runDecoder id asciiDecoder none true #[a] 0 [] = pure (#[a.toNat], 1) := by
  unfold runDecoder
  simp [asciiDecoder, ha, Found.char]
open _codecs in
theorem run2 {id : String} {a b : UInt8} (ha : a.toNat < 128) (hb : b.toNat < 128) : runDecoder id asciiDecoder none true #[a, b] 0 [] = pure (#[a.toNat, b.toNat], 2) := by
  unfold runDecoder
  simp [sizeLine_eq, asciiDecoder, ha, hb, Found.char, List.range', Std.Legacy.Range.forIn_eq_forIn_range']
open _codecs in
theorem run3 {id : String} {a b c : UInt8} (ha : a.toNat < 128) (hb : b.toNat < 128) (hc : c.toNat < 128) : runDecoder id asciiDecoder none true #[a, b, c] 0 [] = pure (#[a.toNat, b.toNat, c.toNat], 3) := by
  unfold runDecoder
  simp [sizeLine_eq, asciiDecoder, ha, hb, hc, Found.char, List.range', Std.Legacy.Range.forIn_eq_forIn_range']
theorem like_eq {id : String} {b : Array UInt8} {t : Tok} : Bytes.bytesLike id (.bytes b t) = pure b := KBd.like_eq
theorem meets_text {b : Array UInt8} {t t1 t2 : Tok} {d x : Str} {n : Nat} (hd : ∀ id, _codecs.runDecoder id _codecs.asciiDecoder none true b 0 [] = pure (x.cps, n)) :
    Meets («_codecs.decode.text» ⟨[.bytes b t, .str (PySem.Str.ofString "ascii") t1, .none, .str d t2], []⟩) (fun _ R s => x.length ≤ sizeLine ∧ R (.ok (.ret (.str x s.toks))) { s with toks := s.toks + 1 }) := by
  refine .of_wp fun prog w A R s hS => ?_
  obtain ⟨hsz, h⟩ := hS
  show wpAny _ _ (Bytes.bytesLike _ (.bytes b t) >>= fun r => _) _ _ s
  refine wpAny_bind (wpAny_of_eq KBd.like_eq ?_)
  refine wpAny_bind (wpAny_of_eq KBd.held_eq ?_)
  show wpAny _ _ (_codecs.decodeRoad _ b (PySem.Str.ofString "ascii") none [] >>= fun v => _) _ _ s
  rw [road_eq, hd]
  refine wpAny_bind (wpAny_bind (wpAny_pure ?_))
  exact wpAny_mkStr (wpAny_pure ⟨_, rfl, h⟩) hsz
theorem meets_decode {c : UInt8} {cs : List UInt8} {t t1 : Tok} {x : Str} {n : Nat} (hd : ∀ id, _codecs.runDecoder id _codecs.asciiDecoder none true (c :: cs).toArray 0 [] = pure (x.cps, n)) :
    Meets («bytes.decode» ⟨[.bytes (c :: cs).toArray t, .str (Str.ofString "ascii") t1], []⟩) (fun _ R s => x.length ≤ sizeLine ∧ ∀ t' k, R (.ok (.ret (.str x t'))) { s with toks := k }) := by
  refine .of_wp fun prog w A R s hS => ?_
  obtain ⟨hsz, h⟩ := hS
  rw [entry_eq1]
  refine wpAny_bind (wpAny_mkStr ?_ (by decide))
  refine wpAny_bind (wpAny_mkStr ?_ (by decide))
  refine wpAny_bind (wpAny_mkStr ?_ (by decide))
  exact wpAny_bind (call_function_meets KBd.kind_text KBd.plain_text KBd.entry_text (KBd.args_text _ _ _ _) (meets_text hd) ⟨hsz, wpAny_pure ⟨_, rfl, h _ _⟩⟩)
theorem meets_decode0 {t t1 : Tok} :
    Meets («bytes.decode» ⟨[.bytes #[] t, .str (Str.ofString "ascii") t1], []⟩) (fun _ R s => ∀ t' k, R (.ok (.ret (.str Str.empty t'))) { s with toks := k }) := by
  refine .of_wp fun prog w A R s h => ?_
  rw [entry_eq0]
  refine wpAny_bind (wpAny_rule ?_)
  exact wpAny_bind (wpAny_mkStr (wpAny_pure ⟨_, rfl, h _ _⟩) (by decide))
section
variable {prog : Program} {w : World} {A : Around} {E : Value → Shared → Prop} {s : Shared} {t t1 : Tok} {Q : Value → Shared → Prop}
theorem decode1 {c : UInt8} {cs : List UInt8} {x : Str} {n : Nat} (hd : ∀ id, _codecs.runDecoder id _codecs.asciiDecoder none true (c :: cs).toArray 0 [] = pure (x.cps, n)) (hsz : x.length ≤ 16777216) (h : ∀ t' k, Q (.str x t') { s with toks := k }) :
    wpAny (model prog w) A (call (.builtin "bytes.decode") [.bytes (c :: cs).toArray t, .str (Str.ofString "ascii") t1]) Q E s :=
  call_meets FB.slot_bytes_decode (typeIs_bytes _ _ _) FB.entry_bytes_decode (args_bytes_decode_2 _ _) (meets_decode hd) ⟨by rw [sizeLine_eq]; exact hsz, h⟩
theorem decode0 (h : ∀ t' k, Q (.str Str.empty t') { s with toks := k }) :
    wpAny (model prog w) A (call (.builtin "bytes.decode") [.bytes #[] t, .str (Str.ofString "ascii") t1]) Q E s :=
  call_meets FB.slot_bytes_decode (typeIs_bytes _ _ _) FB.entry_bytes_decode (args_bytes_decode_2 _ _) meets_decode0 h
theorem lt128 {d : Nat} (h : d < 16) : (65 + d).toUInt8.toNat = 65 + d := by
  show (UInt8.ofNat (65 + d)).toNat = _
  rw [UInt8.toNat_ofNat']; lia
/-- `Int2AP(..).decode('ascii')` -/
theorem decode {ds : List Nat} (hd : Ok ds) (h : ∀ t' k, Q (.str (S (wd ds)) t') { s with toks := k }) :
    wpAny (model prog w) A (call (.builtin "bytes.decode") [.bytes (Ap.bw ds) t, .str (Str.ofString "ascii") t1]) Q E s := by
  revert h
  refine Ok.fall (P := fun ds => (∀ t' k, Q (.str (S (wd ds)) t') { s with toks := k }) → wpAny (model prog w) A (call (.builtin "bytes.decode") [.bytes (Ap.bw ds) t, .str (Str.ofString "ascii") t1]) Q E s) ?_ ?_ ?_ ?_ hd
  · intro h
    exact decode0 h
  · intro a ha9 h
    have ha := lt128 ha9
    refine decode1 (x := S (wd [a])) (n := 1) (fun id => (run1 (by rw [ha]; have := ha9; lia)).trans ?_) (Nat.le_of_ble_eq_true rfl) h
    rw [ha]; rfl
  · intro a b ha9 hb9 h
    have ha := lt128 ha9
    have hb := lt128 hb9
    refine decode1 (x := S (wd [a, b])) (n := 2) (fun id => (run2 (by rw [ha]; have := ha9; lia) (by rw [hb]; have := hb9; lia)).trans ?_) (Nat.le_of_ble_eq_true rfl) h
    rw [ha, hb]; rfl
  · intro a b c ha9 hb9 hc9 h
    have ha := lt128 ha9
    have hb := lt128 hb9
    have hc := lt128 hc9
    refine decode1 (x := S (wd [a, b, c])) (n := 3) (fun id => (run3 (by rw [ha]; have := ha9; lia) (by rw [hb]; have := hb9; lia) (by rw [hc]; have := hc9; lia)).trans ?_) (Nat.le_of_ble_eq_true rfl) h
    rw [ha, hb, hc]; rfl

end
end Mine.Dec
end
section
theorem Mine.resetMap : True := by
  k_with_none
  w_top off
  trivial
open PySem PySem.Spec PySem.Calls PySem.W PyProof.Rows
open Sem (wp)
set_option maxRecDepth 100000
namespace Mine.Map
theorem slot_next : Slot "map" "__next__" "map.__next__" :=
  .of (owner := "map") (n := "__next__") (by rw [typeLookup_type, builtinLookup_eq_fast]; kernel_rfl) (by decide +kernel) (by decide +kernel) (by decide +kernel)
    (by first | exact .inl (by decide +kernel) | exact .inr (by decide +kernel)) (by rw [isSubtype_type]; kernel_rfl)
theorem slot_iter : Slot "map" "__iter__" "map.__iter__" :=
  .of (owner := "map") (n := "__iter__") (by rw [typeLookup_type, builtinLookup_eq_fast]; kernel_rfl) (by decide +kernel) (by decide +kernel) (by decide +kernel)
    (by first | exact .inl (by decide +kernel) | exact .inr (by decide +kernel)) (by rw [isSubtype_type]; kernel_rfl)
theorem args_next (a : Value) : argsOk "map.__next__" ⟨[a], []⟩ := by unfold argsOk; kernel_rfl
theorem args_iter (a : Value) : argsOk "map.__iter__" ⟨[a], []⟩ := by unfold argsOk; kernel_rfl
theorem entry_next : entryFor table "map.__next__" = some Builtin.«map.__next__» := entryFor_of_tree (by kernel_rfl)
theorem entry_iter : entryFor table "map.__iter__" = some Builtin.«dict_keyiterator.__iter__» :=
  entryFor_alias (id' := "dict_keyiterator.__iter__") (by kernel_rfl) (by first | rfl | decide +kernel) (by decide +kernel) (by kernel_rfl)
theorem entry_new : entryFor table "map.__new__" = some Builtin.«map.__new__» := entryFor_of_tree (by kernel_rfl)
theorem mro_map : mroOf (.type "map") = pure [.type "map", .type "object"] := by rw [mroOf_type]; kernel_rfl
theorem lookup_new : typeLookup (.type "map") "__new__" = pure (some (.builtin "map.__new__")) := by rw [typeLookup_type, builtinLookup_eq_fast]; kernel_rfl
theorem made_map : Bind.madeBy (.type "map") = pure (some "map.__new__") := madeBy_type mro_map lookup_new (by decide +kernel)
theorem typeCall_2 (a b : Value) : checkTypeCall "map" ⟨[a, b], []⟩ = pure () := by kernel_rfl
theorem newCall_2 (a b : Value) : checkBuiltinCall "map.__new__" ⟨[.type "map", a, b], []⟩ = pure () := by kernel_rfl
theorem plain_new : plainId "map.__new__" = true := by decide +kernel
theorem create_map : ((Manifest.find? "map").bind (·.mro.findSome? fun t => (Manifest.find? t).bind fun b => if b.noNew then some true else if b.attrs.any (·.1 == "__new__") then some false else none)).getD false = false := by decide +kernel
theorem sub_self : isSubtype (.type "map") (.type "map") = pure true := by rw [isSubtype_type]; kernel_rfl
theorem no_len : typeLookup (.type "map") "__len__" = pure none := by rw [typeLookup_type, builtinLookup_eq_fast]; kernel_rfl
theorem no_hint : typeLookup (.type "map") "__length_hint__" = pure none := by rw [typeLookup_type, builtinLookup_eq_fast]; kernel_rfl

def IsMap (h : Heap) (I T J D : Addr) (items : Array Value) (i : Nat) : Prop :=
  (∃ o, h.get? I = some o ∧ o.cls = .type "map" ∧ o.data = .fields #[.ref T, .builtin "str.capitalize"]) ∧ (∃ o n, h.get? T = some o ∧ o.data = .seq #[.ref J] n) ∧
    h.IsListIter J D i ∧ h.IsList D items
section
variable {prog : Program} {w : World} {A : Around} {E : Value → Shared → Prop} {s : Shared}
theorem nextOf_item {it l : Addr} {i : Nat} {items : Array Value} {x : Value} {Q : Value → Shared → Prop} (hit : s.heap.IsListIter it l i) (hl : s.heap.IsList l items) (hx : items[i]? = some x)
    (hQ : ∀ h', h'.IsListIter it l (i + 1) → Heap.SameBut it s.heap h' → Q x { s with heap := h' }) : wpAny (model prog w) A (Builtin.SmallTypes.nextOf (.ref it)) Q E s := by
  obtain ⟨o, ho, hc, hd⟩ := id hit
  obtain ⟨ol, hol, _, nl, hdl⟩ := hl
  unfold Builtin.SmallTypes.nextOf
  refine wpAny_bind (wpAny_callSpecial?_slot (name := Str.ofString "__next__") hit.typeIs slot_listiter_next
    (wpAny_call_entry slot_listiter_next hit.typeIs entry_listiter_next ?_ (args_listiter_next _)))
  show wpAny _ _ (field (.ref it) 0 >>= _) _ _ s
  refine wpAny_bind (wpAny_field ho hd (x := .ref l) rfl ?_)
  show wpAny _ _ (if (Value.ref l == Value.none) = true then _ else _) _ _ s
  rw [if_neg (show ¬ ((Value.ref l == Value.none) = true) from Bool.false_ne_true)]
  show wpAny _ _ (field (.ref it) 1 >>= _) _ _ s
  refine wpAny_bind (wpAny_field ho hd (x := .int i 0) rfl ?_)
  show wpAny _ _ (seqItems? (.ref l) >>= _) _ _ s
  refine wpAny_bind (wpAny_seqItems hol hdl ?_)
  simp only [Int.toNat_natCast, hx]
  refine wpAny_bind (wpAny_setField ho hd (by simp) (wpAny_pure ⟨x, rfl, wpAny_pure (hQ _ ?_ (Heap.SameBut.update ..))⟩))
  exact ⟨_, Heap.get?_update_self _ ho (Obj.isFreed_of_fields (Obj.data_mapFields hd _)), (Obj.cls_mapFields ..).trans hc, by
    rw [Obj.data_mapFields hd]; simp [rawInt]⟩
theorem nextOf_end {it l : Addr} {i : Nat} {items : Array Value} {Q : Value → Shared → Prop} (hh : A.handled = none) (hit : s.heap.IsListIter it l i) (hl : s.heap.IsList l items) (hx : items[i]? = none)
    (hE : ∀ h' e, Heap.ExtBut it s.heap h' → ({ s with heap := h' } : Shared).TypeIs (.ref e) "StopIteration" → E (.ref e) { s with heap := h' }) : wpAny (model prog w) A (Builtin.SmallTypes.nextOf (.ref it)) Q E s := by
  obtain ⟨o, ho, hc, hd⟩ := id hit
  obtain ⟨ol, hol, _, nl, hdl⟩ := hl
  unfold Builtin.SmallTypes.nextOf
  refine wpAny_bind (wpAny_callSpecial?_slot (name := Str.ofString "__next__") hit.typeIs slot_listiter_next
    (wpAny_call_entry slot_listiter_next hit.typeIs entry_listiter_next ?_ (args_listiter_next _)))
  show wpAny _ _ (field (.ref it) 0 >>= _) _ _ s
  refine wpAny_bind (wpAny_field ho hd (x := .ref l) rfl ?_)
  show wpAny _ _ (if (Value.ref l == Value.none) = true then _ else _) _ _ s
  rw [if_neg (show ¬ ((Value.ref l == Value.none) = true) from Bool.false_ne_true)]
  show wpAny _ _ (field (.ref it) 1 >>= _) _ _ s
  refine wpAny_bind (wpAny_field ho hd (x := .int i 0) rfl ?_)
  show wpAny _ _ (seqItems? (.ref l) >>= _) _ _ s
  refine wpAny_bind (wpAny_seqItems hol hdl ?_)
  simp only [Int.toNat_natCast, hx]
  refine wpAny_bind (wpAny_rule (wpAny_bind (wpAny_setField ho hd (by simp) ?_)))
  show wpAny _ _ (newExc (.type "StopIteration") [] >>= _) _ _ _
  refine wpAny_bind ?_
  simp only [newExc, newTuple]
  refine wpAny_bind (wpAny_newObj_type ?_ (by size_fits))
  refine wpAny_bind (m := firstArgMember _ _) (wpAny_of_eq (a := Value.none) (by first | rfl | (simp only [firstArgMember]; rfl)) ?_)
  refine wpAny_newObj_type ?_ (by size_fits)
  simp only [raiseNew]
  refine wpAny_bind (wpAny_handled ?_)
  rw [show A.in1.handled = none from hh]
  exact wpAny_bind (wpAny_pure (wpAny_throw (hE _ _ (((Heap.SameBut.update ..).extBut.push _).push _) ⟨_, Heap.get?_push_size _ rfl, rfl⟩)))

theorem pyNext_item {I T J D : Addr} {i : Nat} {items : Array Value} {x : Str} {t : Tok} {Q : Option Value → Shared → Prop} (hm : IsMap s.heap I T J D items i) (hx : items[i]? = some (.str x t)) (hlen : x.length ≤ 1000) (hJI : I ≠ J)
    (hQ : ∀ h' t' k, h'.IsListIter J D (i + 1) → Heap.SameBut J s.heap h' → Q (some (.str (Txt.capitalize x) t')) { s with heap := h', toks := k }) : wpAny (model prog w) A (pyNext (.ref I)) Q E s := by
  obtain ⟨⟨o, ho, hc, hd⟩, ⟨oT, nT, hoT, hdT⟩, hit, hl⟩ := hm
  unfold pyNext
  refine wpAny_bind (wpAny_attempt (wpAny_callSpecial?_slot (name := Str.ofString "__next__") (T := "map") ⟨o, ho, hc⟩ slot_next
    (wpAny_call_entry slot_next ⟨o, ho, hc⟩ entry_next ?_ (args_next _))))
  unfold Builtin.«map.__next__»
  refine wpAny_bind (wpAny_of_eq (a := (Value.ref I, [])) rfl ?_)
  refine wpAny_bind (wpAny_field ho hd (x := .ref T) rfl ?_)
  refine wpAny_bind (wpAny_seqItems hoT hdT ?_)
  simp
  refine wpAny_bind (wpAny_holding (nextOf_item hit hl hx fun h' hit' hs' => ?_))
  refine wpAny_bind (wpAny_field (s := { s with heap := h' }) ((hs'.2 I hJI).trans ho) hd (x := .builtin "str.capitalize") rfl ?_)
  refine wpAny_bind (wpAny_holding (SCL.capitalize (by omega) fun t' k _ => ?_))
  refine wpAny_bind (wpAny_letGo ?_)
  exact wpAny_pure ⟨_, rfl, wpAny_pure (hQ _ _ _ hit' hs')⟩
theorem pyNext_end {I T J D : Addr} {i : Nat} {items : Array Value} {Q : Option Value → Shared → Prop} (hh : A.handled = none) (hm : IsMap s.heap I T J D items i) (hx : items[i]? = none)
    (hQ : ∀ h' , Heap.ExtBut J s.heap h' → Q none { s with heap := h' }) : wpAny (model prog w) A (pyNext (.ref I)) Q E s := by
  obtain ⟨⟨o, ho, hc, hd⟩, ⟨oT, nT, hoT, hdT⟩, hit, hl⟩ := hm
  unfold pyNext
  refine wpAny_bind (wpAny_attempt (wpAny_callSpecial?_slot (name := Str.ofString "__next__") (T := "map") ⟨o, ho, hc⟩ slot_next
    (wpAny_call_entry slot_next ⟨o, ho, hc⟩ entry_next ?_ (args_next _))))
  unfold Builtin.«map.__next__»
  refine wpAny_bind (wpAny_of_eq (a := (Value.ref I, [])) rfl ?_)
  refine wpAny_bind (wpAny_field ho hd (x := .ref T) rfl ?_)
  refine wpAny_bind (wpAny_seqItems hoT hdT ?_)
  simp
  refine wpAny_bind (wpAny_holding (nextOf_end (A := A.in1) hh hit hl hx fun h' e he hT => ?_))
  refine wpAny_bind (wpAny_isInstance (T := "StopIteration") (b := true) hT isSubtype_stop ?_)
  exact wpAny_pure (hQ _ he)
theorem pyIter_map {I T J D : Addr} {i : Nat} {items : Array Value} {Q : Value → Shared → Prop} (hm : IsMap s.heap I T J D items i) (h : Q (.ref I) s) : wpAny (model prog w) A (pyIter (.ref I)) Q E s := by
  obtain ⟨⟨o, ho, hc, hd⟩, _⟩ := hm
  have hT : s.TypeIs (.ref I) "map" := ⟨o, ho, hc⟩
  refine wpAny_pyIter_slot hT slot_iter (wpAny_call_entry slot_iter hT entry_iter ?_ (args_iter _))
  show wpAny _ _ (ret (.ref I)) _ _ s
  exact wpAny_pure ⟨_, rfl, "map", _, hT, slot_next.lookup, h⟩
end
theorem IsMap.at {h h' : Heap} {I T J D : Addr} {items : Array Value} {i : Nat} (x : IsMap h I T J D items i) (k : ∀ b ∈ [I, T, J, D], ∀ o, h.get? b = some o → h'.get? b = some o) : IsMap h' I T J D items i := by
  obtain ⟨⟨o, ho, hc, hd⟩, ⟨oT, nT, hoT, hdT⟩, hit, hl⟩ := x
  exact ⟨⟨o, k I (by simp) o ho, hc, hd⟩, ⟨oT, nT, k T (by simp) oT hoT, hdT⟩, hit.at fun o e => k J (by simp) o e, hl.at fun o e => k D (by simp) o e⟩
/-- a map of capitalize over a list of short texts -/
theorem walks {prog : Program} {w : World} {A : Around} (hh : A.handled = none) (I T J D : Addr) (hd : I ≠ J ∧ T ≠ J ∧ D ≠ J) (items : Array Value) (hs : ∀ (i : Nat) (v : Value), items[i]? = some v → ∃ (x : Str) (t : Tok), v = Value.str x t ∧ x.length ≤ 1000) :
    Walks prog w A I [I, T, J, D] [J] items.size (fun i v => ∃ (x : Str) (t t' : Tok), items[i]? = some (Value.str x t) ∧ v = Value.str (Txt.capitalize x) t') (fun i h => IsMap h I T J D items i) where
  sub := fun b hb => by simp at hb; simp [hb]
  frame := fun _ _ _ st hk => st.at hk
  item := fun i s Q E hi st hQ => by
    obtain ⟨x, t, e, hl⟩ := hs i items[i] (by simp [hi])
    have hx : items[i]? = some (.str x t) := by rw [← e]; simp [hi]
    refine pyNext_item st hx hl hd.1 fun h' t' k hit' hs' => ?_
    refine hQ _ h' k ⟨x, t, t', hx, rfl⟩ ?_ fun b o hb e => hs'.extBut b o (fun h => hb (by simp [h])) e
    obtain ⟨⟨o, ho, hc, hd'⟩, ⟨oT, nT, hoT, hdT⟩, hit, hl⟩ := st
    exact ⟨⟨o, (hs'.2 I hd.1).trans ho, hc, hd'⟩, ⟨oT, nT, (hs'.2 T hd.2.1).trans hoT, hdT⟩, hit', hl.at fun o e => (hs'.2 D hd.2.2).trans e⟩
  done := fun s Q E st hQ => pyNext_end hh st (by simp) fun h' he' => hQ h' s.toks fun b o hb e => he' b o (fun h => hb (by simp [h])) e
  self := fun _ _ _ _ st hQ => pyIter_map st hQ
section
variable {prog : Program} {w : World} {A : Around} {E : Value → Shared → Prop} {s : Shared}
theorem newClass_map (a b : Value) : Builtin.SmallTypes.newClass "map" ⟨[.type "map", a, b], []⟩ = pure (.type "map", [a, b]) := by
  unfold Builtin.SmallTypes.newClass
  simp only [isType, sub_self, pure_bind, Bool.not_true, Bool.false_eq_true, if_false]
abbrev hJ (h : Heap) (D : Addr) : Heap := h.push { cls := .type "list_iterator", data := .fields #[.ref D, .int 0 0] }
abbrev hT (h : Heap) (D : Addr) : Heap := (hJ h D).push { cls := .type "tuple", data := .seq [Value.ref h.objs.size].toArray }
abbrev hI (h : Heap) (D : Addr) : Heap := (hT h D).push { cls := .type "map", data := .fields #[.ref (hJ h D).objs.size, .builtin "str.capitalize"] }
theorem slot_init : Slot "map" "__init__" "object.__init__" :=
  .of (owner := "object") (n := "__init__") (by rw [typeLookup_type, builtinLookup_eq_fast]; kernel_rfl) (by decide +kernel) (by decide +kernel) (by decide +kernel)
    (by first | exact .inl (by decide +kernel) | exact .inr (by decide +kernel)) (by rw [isSubtype_type]; kernel_rfl)
theorem called_map : TypeCalled "map" "map.__new__" "object.__init__" :=
  ⟨by decide +kernel, by decide +kernel, ⟨_, _, mro_map⟩, madeBy_type mro_map lookup_new (by decide +kernel), by decide +kernel, by rw [isSubtype_type]; kernel_rfl, slot_init⟩
theorem meets_new (D : Addr) : Meets (Builtin.«map.__new__» ⟨[.type "map", .builtin "str.capitalize", .ref D], []⟩)
    (fun _ R s => (∃ items, s.heap.IsList D items) ∧ R (.ok (.ret (.ref (hT s.heap D).objs.size))) { s with heap := hI s.heap D }) := by
  refine .of_wp fun prog w A R s hS => ?_
  obtain ⟨⟨items, hl⟩, h⟩ := hS
  unfold Builtin.«map.__new__»
  refine wpAny_bind (wpAny_of_eq (newClass_map _ _) ?_)
  try dsimp only
  refine wpAny_bind (wpAny_of_eq (a := ()) (by first | rfl | kernel_rfl) ?_)
  try dsimp only
  unfold Builtin.SmallTypes.iterAll
  simp
  refine wpAny_bind (wpAny_holding (wpAny_pyIter_list hl ?_))
  unfold newTuple
  refine wpAny_bind (wpAny_newObj_type ?_ (by size_fits))
  unfold Builtin.SmallTypes.newRecord
  refine wpAny_bind (wpAny_newObj_type ?_ (by size_fits))
  exact wpAny_pure ⟨_, rfl, h⟩
theorem call_map {D : Addr} {items : Array Value} {Q : Value → Shared → Prop} (hl : s.heap.IsList D items)
    (h : Q (.ref (hT s.heap D).objs.size) { s with heap := hI s.heap D }) : wpAny (model prog w) A (call (.type "map") [.builtin "str.capitalize", .ref D]) Q E s :=
  callType_new called_map (by decide) (typeCall_2 _ _) (newCall_2 _ _) (fun obj => F.args_object_init_3 obj _ _) entry_new (meets_new D)
    ⟨⟨items, hl⟩, ⟨_, Heap.get?_push_size _ rfl, rfl⟩, h⟩
theorem isMap_new {D : Addr} {items : Array Value} {h : Heap} (hl : h.IsList D items) :
    IsMap (hI h D) (hT h D).objs.size (hJ h D).objs.size h.objs.size D items 0 := by
  have k1 : ∀ b o, h.get? b = some o → (hJ h D).get? b = some o := fun _ _ e => Heap.get?_push_of_some _ e
  have k2 : ∀ b o, (hJ h D).get? b = some o → (hT h D).get? b = some o := fun _ _ e => Heap.get?_push_of_some _ e
  have k3 : ∀ b o, (hT h D).get? b = some o → (hI h D).get? b = some o := fun _ _ e => Heap.get?_push_of_some _ e
  refine ⟨⟨_, Heap.get?_push_size _ rfl, rfl, rfl⟩, ⟨_, _, k3 _ _ (Heap.get?_push_size _ rfl), rfl⟩, ⟨_, k3 _ _ (k2 _ _ (Heap.get?_push_size _ rfl)), rfl, rfl⟩, ?_⟩
  obtain ⟨o, e, r⟩ := hl
  exact ⟨o, k3 _ _ (k2 _ _ (k1 _ _ e)), r⟩

variable {I : Addr} {fp wr : List Addr} {G : Array GenState → Array GenState → Prop} {n : Nat} {P : Nat → Value → Prop} {St : Nat → Shared → Prop}
theorem collect_map {Q : List Value → Shared → Prop} (W : WalksS prog w A.in1 I fp wr G n P St) (hT : ∀ i s, St i s → s.TypeIs (.ref I) "map") (hst : St 0 s) (hfp : ∀ b ∈ fp, b < s.heap.objs.size) (hI : I ∈ fp)
    (hQ : ∀ s' acc, Moved wr G s s' → ItemsOf P acc n → Q acc.toList s') (hn : n ≤ sizeLine := by size_fits) : wpAny (model prog w) A (collect (.ref I)) Q E s := by
  have hSf : s.heap.objs.size ∉ fp := fun hm => Nat.lt_irrefl _ (hfp _ hm)
  have hSI : s.heap.objs.size ≠ I := fun e => hSf (e ▸ hI)
  unfold collect
  refine wpAny_bind (wpAny_runValue (codeAny_builtin F.entry_proto_collect ?_))
  rw [Around.under_plainId F.plain_proto_collect _]
  show wpAny _ A.in1 (newList [] >>= fun l => again (.builtin "list.__iadd__" ⟨[l, .ref I], []⟩)) _ _ s
  refine wpAny_bind (wpAny_newObj_type ?_)
  refine wpAny_pure ⟨plainId_quiet F.plain_list_iadd _, codeAny_builtin F.entry_list_iadd ?_⟩
  rw [Around.under_plainId F.plain_list_iadd _]
  have hst₁ := W.frame 0 s (s.heap.push { cls := .type "list", data := .seq ([] : List Value).toArray }) s.toks hst (Nat.le_refl _) fun b _ o e => Heap.get?_push_of_some _ e
  show wpAny _ A.in1 (Builtin.List.listExtendWith (.ref s.heap.objs.size) (.ref I) (.ref s.heap.objs.size)) _ _ _
  unfold Builtin.List.listExtendWith
  refine wpAny_bind (wpAny_typeOf (hT 0 _ hst₁) ?_)
  have h1 : Builtin.List.listSameRef (.ref s.heap.objs.size) (.ref I) = false := by simp [Builtin.List.listSameRef, hSI]
  have h2 : (Value.type "map" == Value.type "list") = false := by decide
  have h3 : (Value.type "map" == Value.type "tuple") = false := by decide
  simp only [h1, h2, h3, Bool.or_false, Bool.false_eq_true, if_false]
  refine wpAny_bind (W.self 0 _ _ _ hst₁ ?_)
  refine wpAny_bind (wpAny_holding ?_)
  unfold Builtin.List.listLengthHint
  refine wpAny_bind (wpAny_specialOf (hT 0 _ hst₁) no_len ?_)
  show wpAny _ A.in1 (specialOf (Value.ref I) (Str.ofString "__length_hint__") >>= _) _ _ _
  refine wpAny_bind (wpAny_specialOf (hT 0 _ hst₁) no_hint ?_)
  refine wpAny_pure ?_
  show wpAny _ A.in1 (rule "list.extend.makes-room" >>= fun _ => Builtin.List.listTouch (.ref s.heap.objs.size) >>= fun _ =>
    again (.builtin "list.extend.loop" ⟨[.ref s.heap.objs.size, .ref I, .ref s.heap.objs.size], []⟩)) _ _ _
  refine wpAny_bind (wpAny_rule ?_)
  have hS₁ : (s.heap.push { cls := .type "list", data := .seq ([] : List Value).toArray }).get? s.heap.objs.size = some { cls := .type "list", data := .seq ([] : List Value).toArray } := Heap.get?_push_size _ rfl
  refine wpAny_bind ?_
  show wpAny _ A.in1 (updateSeq s.heap.objs.size (·.push .none) >>= fun _ => updateSeq s.heap.objs.size (·.pop)) _ _ _
  refine wpAny_bind (wpAny_updateSeq hS₁ rfl ?_)
  have hS₂ := Heap.get?_update_self (Obj.mapSeq (·.push Value.none)) hS₁ rfl
  refine wpAny_updateSeq hS₂ rfl ?_
  have hS₃ := Heap.get?_update_self (Obj.mapSeq (·.pop)) hS₂ rfl
  have oth : ∀ b o, b ≠ s.heap.objs.size → (s.heap.push { cls := .type "list", data := .seq ([] : List Value).toArray }).get? b = some o →
      (((s.heap.push { cls := .type "list", data := .seq ([] : List Value).toArray }).update s.heap.objs.size (Obj.mapSeq (·.push Value.none))).update s.heap.objs.size (Obj.mapSeq (·.pop))).get? b = some o :=
    fun b o hb e => (Heap.get?_update_other _ _ (Ne.symm hb)).trans ((Heap.get?_update_other _ _ (Ne.symm hb)).trans e)
  refine wpAny_pure ⟨plainId_quiet F.plain_extend_loop _, codeAny_extend_loopS W hn _ hSf _ n 0 _ _ _ rfl (Nat.zero_le _)
    (W.frame 0 ({ s with heap := s.heap.push { cls := .type "list", data := .seq ([] : List Value).toArray } } : Shared) _ s.toks hst₁ (Nat.le_refl _) fun b hb o e => oth b o (fun h => hSf (h ▸ hb)) e) hS₃ (ItemsOf.nil P) fun s' acc' c' hm hS' hacc => ?_⟩
  show wpAny _ A (load s.heap.objs.size >>= _) _ _ s'
  refine wpAny_bind (wpAny_load hS' ?_)
  refine wpAny_pure (hQ s' acc' (Moved.drop_new (o := { cls := .type "list", data := .seq ([] : List Value).toArray }) (tk := s.toks) (Moved.trans W.gtrans ((Moved.refl W.grefl).then_heap (by first | exact Nat.le_refl _ | exact Nat.le_succ _ | omega) fun b o hb e => ?_) hm) (Nat.le_refl _)) hacc)
  exact oth b o (fun h => hb (h ▸ List.mem_cons_self)) e
theorem join_map {x : Str} {t : Tok} {Q : Value → Shared → Prop} (W : WalksS prog w A.in1.in1 I fp wr G n P St) (hT : ∀ i s, St i s → s.TypeIs (.ref I) "map") (hst : St 0 s) (hfp : ∀ b ∈ fp, b < s.heap.objs.size) (hI : I ∈ fp)
    (hstr : ∀ i v, P i v → ∃ y u, v = Value.str y u)
    (hq : ∀ s' (l : List (Str × Tok)), Moved wr G s s' → ItemsOf P (strValues l).toArray n → JoinOk x (l.map (·.1)) = true ∧ ∀ t' k, Q (.str (Txt.join x (l.map (·.1))) t') { s' with toks := k })
    (hsz : n ≤ sizeLine := by size_fits) :
    wpAny (model prog w) A (call (.builtin "str.join") [.str x t, .ref I]) Q E s := by
  refine wpAny_call (codeAny_call_builtin F.slot_str_join.plain F.entry_str_join (F.slot_str_join.check _ _ _ _ _ _ _ _ (typeIs_str _ _ _) (F.args_str_join_2 _ _) ?_))
  rw [join_tree_other]
  refine wpAny_bind (wpAny_typeOf (hT 0 s hst) ?_)
  show wpAny _ A.in1 ((pyIter (.ref I)).tryCatch _ >>= fun it => collect it >>= fun items => joinTail x items) _ _ s
  refine wpAny_bind (wpAny_tryCatch (W.of_in1.self 0 s _ _ hst ?_))
  refine wpAny_bind (collect_map W hT hst hfp hI (fun s' acc hm hacc => ?_) hsz)
  obtain ⟨l, hl⟩ := exists_strValues acc.toList fun v hv => by
    obtain ⟨j, hj, rfl⟩ := Array.mem_iff_getElem.mp (Array.mem_toList_iff.mp hv)
    exact hstr j _ (hacc.2 j _ (Array.getElem?_eq_getElem hj))
  rw [← hl]
  have hacc' : ItemsOf P (strValues l).toArray n := by rw [hl]; simpa using hacc
  obtain ⟨hok, hpost⟩ := hq s' l hm hacc'
  unfold JoinOk at hok
  rw [Bool.not_eq_true'] at hok
  have g : Gives (joinTail x (strValues l)) (joinMade x l) := by
    have g0 := gives_joinTail x l hok
    cases l with
    | nil => exact g0
    | cons p r => cases r with
      | nil => exact g0
      | cons q r' => exact g0
  exact g prog w A (wants Q E) s' (post_join l ⟨joinFit_length hok, hpost⟩)
end
end Mine.Map
end
section
theorem Mine.resetCap0 : True := by
  k_with_none
  w_top off
  trivial
open PySem PySem.Spec PySem.Calls PySem.W PyProof.Rows PySem.Builtin PySem.Builtin.Str
set_option maxRecDepth 100000
namespace Mine.Cap

theorem sw_congr {x y : PySem.Str} (hl : x.length = y.length) (h : ∀ i, Unicode.isSpace (x.cps.getD i 0) = Unicode.isSpace (y.cps.getD i 0)) (limit : Nat) : spaceWords x limit = spaceWords y limit := by
  unfold spaceWords
  simp only [hl, h]
theorem sp_all : ∀ d : Fin 16, Unicode.isSpace (97 + d.val) = false ∧ Unicode.isSpace (65 + d.val) = false := by decide +kernel
theorem sw_S {l l' : List Nat} (h : l.map Unicode.isSpace = l'.map Unicode.isSpace) (limit : Nat) : spaceWords (S l) limit = spaceWords (S l') limit := by
  have hl : l.length = l'.length := by simpa using congrArg List.length h
  refine sw_congr (by rw [S_len, S_len, hl]) (fun i => ?_) limit
  have e : ∀ l : List Nat, Unicode.isSpace ((S l).cps.getD i 0) = (l.map Unicode.isSpace).getD i (Unicode.isSpace 0) := fun l => by
    simp only [Array.getD_eq_getD_getElem?, List.getD_eq_getElem?_getD, List.getElem?_toArray, List.getElem?_map]
    cases l[i]? <;> rfl
  rw [e, e, h]

theorem words_tx {ds : List Nat} (hd : Ok ds) {k : Nat} (hk : k < 3) : Txt.words (S (tx ds k)) = ds.map fun d => S (pr k d) := by
  have s1 : ∀ d, d < 16 → Unicode.isSpace (97 + d) = false := fun d h => (sp_all ⟨d, h⟩).1
  have s2 : ∀ d, d < 16 → Unicode.isSpace (65 + d) = false := fun d h => (sp_all ⟨d, h⟩).2
  have s3 : Unicode.isSpace 97 = false := by decide +kernel
  have s4 : Unicode.isSpace 65 = false := by decide +kernel
  have key : ∀ (ds : List Nat) (ws : List (Nat × Nat)), spaceWords (S (tx (ds.map fun _ => 0) k)) ((S (tx ds k)).length + 1) = ws → (ws == [(0, (S (tx ds k)).length)]) = false → (ws.map fun (i, j) => strSub (S (tx ds k)) i j) = (ds.map fun d => S (pr k d)) →
      (tx ds k).map Unicode.isSpace = (tx (ds.map fun _ => 0) k).map Unicode.isSpace → Txt.words (S (tx ds k)) = ds.map fun d => S (pr k d) := by
    intro ds ws h1 h2 h4 h5
    unfold Txt.words
    rw [sw_S h5, h1, h2]
    simp only [Bool.false_eq_true, if_false]
    unfold PySem.wordsOf
    rw [sw_S h5, h1]
    exact h4
  refine Ok.fall (P := fun ds => Txt.words (S (tx ds k)) = ds.map fun d => S (pr k d)) ?_ ?_ ?_ ?_ hd
  · rcases (show k = 0 ∨ k = 1 ∨ k = 2 by lia) with rfl | rfl | rfl <;>
    exact key [] [] (by decide +kernel) rfl rfl rfl
  · intro a ha
    rcases (show k = 0 ∨ k = 1 ∨ k = 2 by lia) with rfl | rfl | rfl
    · exact key [a] [(1, 3)] (show spaceWords (S (tx [0] 0)) 5 = _ by decide +kernel) rfl rfl (by simp [tx, inter, bl, pr, s1 a ha, s2 a ha, s3, s4])
    · exact key [a] [(2, 4)] (show spaceWords (S (tx [0] 1)) 7 = _ by decide +kernel) rfl rfl (by simp [tx, inter, bl, pr, s1 a ha, s2 a ha, s3, s4])
    · exact key [a] [(3, 5)] (show spaceWords (S (tx [0] 2)) 9 = _ by decide +kernel) rfl rfl (by simp [tx, inter, bl, pr, s1 a ha, s2 a ha, s3, s4])
  · intro a b ha hb
    rcases (show k = 0 ∨ k = 1 ∨ k = 2 by lia) with rfl | rfl | rfl
    · exact key [a, b] [(1, 3), (4, 6)] (show spaceWords (S (tx [0, 0] 0)) 8 = _ by decide +kernel) rfl rfl (by simp [tx, inter, bl, pr, s1 a ha, s2 a ha, s1 b hb, s2 b hb, s3, s4])
    · exact key [a, b] [(2, 4), (6, 8)] (show spaceWords (S (tx [0, 0] 1)) 11 = _ by decide +kernel) rfl rfl (by simp [tx, inter, bl, pr, s1 a ha, s2 a ha, s1 b hb, s2 b hb, s3, s4])
    · exact key [a, b] [(3, 5), (8, 10)] (show spaceWords (S (tx [0, 0] 2)) 14 = _ by decide +kernel) rfl rfl (by simp [tx, inter, bl, pr, s1 a ha, s2 a ha, s1 b hb, s2 b hb, s3, s4])
  · intro a b c ha hb hc
    rcases (show k = 0 ∨ k = 1 ∨ k = 2 by lia) with rfl | rfl | rfl
    · exact key [a, b, c] [(1, 3), (4, 6), (7, 9)] (show spaceWords (S (tx [0, 0, 0] 0)) 11 = _ by decide +kernel) rfl rfl (by simp [tx, inter, bl, pr, s1 a ha, s2 a ha, s1 b hb, s2 b hb, s1 c hc, s2 c hc, s3, s4])
    · exact key [a, b, c] [(2, 4), (6, 8), (10, 12)] (show spaceWords (S (tx [0, 0, 0] 1)) 15 = _ by decide +kernel) rfl rfl (by simp [tx, inter, bl, pr, s1 a ha, s2 a ha, s1 b hb, s2 b hb, s1 c hc, s2 c hc, s3, s4])
    · exact key [a, b, c] [(3, 5), (8, 10), (13, 15)] (show spaceWords (S (tx [0, 0, 0] 2)) 19 = _ by decide +kernel) rfl rfl (by simp [tx, inter, bl, pr, s1 a ha, s2 a ha, s1 b hb, s2 b hb, s1 c hc, s2 c hc, s3, s4])

theorem cap_all : ∀ (k : Fin 3) (d : Fin 16), Txt.capitalize (S (pr k.val d.val)) = S [65 + d.val, 97 + d.val] := by decide +kernel
end Mine.Cap
end
section
theorem Mine.resetCap1 : True := by
  k_with_none
  w_top off
  trivial
open PySem PySem.Spec PySem.Calls PySem.W PyProof.Rows PyProof.Rows.LCg
set_option maxRecDepth 100000
namespace Mine.Cap

theorem sa_get {vs : List Value} {xs : List Str} (h : StrsAre vs xs) : vs.length = xs.length ∧ (∀ (i : Nat) (v : Value), vs[i]? = some v → ∃ y t, v = Value.str y t ∧ xs[i]? = some y) := by
  induction h with
  | nil => exact ⟨rfl, fun i v h => by simp at h⟩
  | cons y t _ ih =>
    obtain ⟨h1, h2⟩ := ih
    refine ⟨by simp [h1], fun i v h => ?_⟩
    cases i with
    | zero => simp at h; exact ⟨y, t, h.symm, rfl⟩
    | succ i => simp at h; exact h2 i v h

section
variable {prog : Program} {w : World} {A : Around} {E : Value → Shared → Prop} {s : Shared} {K : Frag} {h₀ : Heap} {L : Addr} {m : Str → Option Value} {news : Led} {Q : Value → Shared → Prop}
theorem attr {expr : Bool} (F : Fr h₀ L s.heap m) (X₀ : K.In h₀) (ht : kitMeta "str" = true) (hs : Manifest.isStub "str" = false)
    (e : findCls K (.type "str") (.type "type") "capitalize" = some (.val (.builtin "str.capitalize")))
    (h : Q (.builtin "str.capitalize") { s with toks := s.toks + 1 }) : wpAny (model prog w) A (getAttr (.type "str") "capitalize" expr) Q E s := by
  have X := X₀.keeps F.keep
  have hstub : opaqueClassAbove (.type "str") = pure none := by unfold opaqueClassAbove; dsimp only; rw [hs]; rfl
  have L0 : Looks (model prog w) s.heap (typeOf (.type "str")) (.type "type") := Looks.of_pure (kitMeta_of ht)
  have LO : Looks (model prog w) s.heap (opaqueClassAbove (.type "str")) none := Looks.of_pure hstub
  have hg : findIn K (.type "type") "__getattribute__" = some (some (.builtin "type.__getattribute__")) := type_tga
  refine cls_open X LO L0 hg (looks_hook X (r := none) (by rfl)) (by show subIn K _ _ = _; rfl) e ?_
  exact wpAny_pure (handed_on rfl h)

abbrev mapO (T : Addr) : Obj := { cls := .type "map", data := .fields #[.ref T, .builtin "str.capitalize"] }
abbrev itO (D : Addr) : Obj := { cls := .type "list_iterator", data := .fields #[.ref D, .int 0 0] }

theorem map_K {D : Addr} {ys : List Value} {n : Nat} (F : Fr h₀ L s.heap m) (N : News h₀ L s.heap news) (hm : (D, ({ cls := .type "list", data := .seq ys.toArray n } : Obj)) ∈ news)
    (h : ∀ I T J h', Fr h₀ L h' m → News h₀ L h' ((I, mapO T) :: (T, tupO [.ref J]) :: (J, itO D) :: news) → AllLt J news → (@LT.lt Nat _ J T ∧ @LT.lt Nat _ T I) → Q (.ref I) { s with heap := h' }) :
    wpAny (model prog w) A (call (.type "map") [.builtin "str.capitalize", .ref D]) Q E s := by
  refine Map.call_map (News.isList N hm) ?_
  refine h _ _ _ _ (((F.push _).push _).push _) (News.push ((F.push _).push _) (News.push (F.push _) (News.push F N _) _) _) (allLt_of fun p hp => Heap.lt_size (N p hp).1) ?_
  simp only [Map.hJ, Map.hT, Heap.size_push]
  lia

theorem join_K {I T J D : Addr} {ys : List Value} {n : Nat} {ls : List Str} {x : Str} {t : Tok} (hh : A.handled = none) (F : Fr h₀ L s.heap m)
    (N : News h₀ L s.heap ((I, mapO T) :: (T, tupO [.ref J]) :: (J, itO D) :: news)) (hm : (D, ({ cls := .type "list", data := .seq ys.toArray n } : Obj)) ∈ news) (lt : AllLt J news) (hJT : @LT.lt Nat _ J T) (hTI : @LT.lt Nat _ T I)
    (hs : StrsAre ys ls) (hls : ls.length ≤ 1000) (short : ∀ a ∈ ls, a.length ≤ 1000) (hok : JoinOk x (ls.map Txt.capitalize) = true)
    (h : ∀ h' t' k, Fr h₀ L h' m → News h₀ L h' news → Q (.str (Txt.join x (ls.map Txt.capitalize)) t') { s with heap := h', toks := k }) :
    wpAny (model prog w) A (call (.builtin "str.join") [.str x t, .ref I]) Q E s := by
  obtain ⟨hlen, hget⟩ := sa_get hs
  have n1 := N (I, mapO T) (.head _)
  have n2 := N (T, tupO [.ref J]) (.tail _ (.head _))
  have n3 := N (J, itO D) (.tail _ (.tail _ (.head _)))
  have n4 := N (D, _) (.tail _ (.tail _ (.tail _ hm)))
  have ltD : @LT.lt Nat _ D J := tb_ltOf lt _ hm
  have W := Map.walks (prog := prog) (w := w) (A := A.in1.in1) hh I T J D ⟨Nat.ne_of_gt (Nat.lt_trans hJT hTI), Nat.ne_of_gt hJT, Nat.ne_of_lt ltD⟩ ys.toArray (fun i v hv => by
    obtain ⟨y, u, rfl, hy⟩ := hget i v (by simpa using hv)
    exact ⟨y, u, rfl, short y (List.mem_of_getElem? hy)⟩)
  refine Map.join_map W.toS (fun i s st => ?_) ?_ (fun b hb => ?_) (by simp) (fun i v hv => ?_) (fun s' l hmv hit => ?_) (by simp only [List.size_toArray]; rw [sizeLine_eq]; lia)
  · obtain ⟨⟨o, ho, hc, _⟩, _⟩ := st; exact ⟨o, ho, hc⟩
  · exact ⟨⟨_, n1.1, rfl, rfl⟩, ⟨_, _, n2.1, rfl⟩, ⟨_, n3.1, rfl, rfl⟩, ⟨_, n4.1, rfl, _, rfl⟩⟩
  · simp at hb
    rcases hb with rfl | rfl | rfl | rfl
    · exact Heap.lt_size n1.1
    · exact Heap.lt_size n2.1
    · exact Heap.lt_size n3.1
    · exact Heap.lt_size n4.1
  · obtain ⟨x, t, t', _, rfl⟩ := hv; exact ⟨_, _, rfl⟩
  · have el : l.map (·.1) = ls.map Txt.capitalize := by
      have hsz : (strValues l).length = ys.length := by have := hit.1; simpa using this
      have hsz' : l.length = ls.length := by rw [← hlen, ← hsz]; simp [strValues]
      apply List.ext_getElem
      · simp [hsz']
      · intro i h1 h2
        simp only [List.length_map] at h1 h2
        obtain ⟨y, t, t', e1, e2⟩ := hit.2 i (Value.str l[i].1 l[i].2) (by simp [strValues, h1])
        obtain ⟨y', u, e3, e4⟩ := hget i _ (by simpa using e1)
        cases e3
        have e5 : l[i].1 = Txt.capitalize y := (Value.str.inj e2).1
        simp only [List.getElem_map]
        have : ls[i]? = some ls[i] := by simp
        rw [this] at e4
        cases e4
        exact e5
    rw [el]
    refine ⟨hok, fun t' k => ?_⟩
    have hk : ∀ b o, b ≠ J → s.heap.get? b = some o → s'.heap.get? b = some o := fun b o hb e => hmv.heap b o (by simpa using hb) e
    have hF : Fr h₀ L s'.heap m := ⟨F.ns.at' fun o e => hk L o (Ne.symm n3.2.1) e, fun b o e => hk b o (fun q => by rw [q, n3.2.2] at e; cases e) (F.keep b o e), F.above⟩
    have hN : News h₀ L s'.heap news := fun p hp => by
      have z := N p (.tail _ (.tail _ (.tail _ hp)))
      exact ⟨hk _ _ (Nat.ne_of_lt (tb_ltOf lt p hp)) z.1, z.2⟩
    have e := h s'.heap t' k hF hN
    obtain ⟨hp, g, d, tk, os⟩ := s'
    have e1 : g = s.gens := hmv.gens
    have e2 : d = s.drawn := hmv.drawn
    have e3 : os = s.os := hmv.os
    subst e1 e2 e3
    exact e
end

section
variable {prog : Program} {w : World} {A : Around} {E : Value → Shared → Prop} {s : Shared} {h₀ : Heap} {L : Addr} {m : Str → Option Value} {news : Led} {Q : Value → Shared → Prop}
theorem splitNone_K {x : Str} {t : Tok} {ls : List Str} (F : Fr h₀ L s.heap m) (N : News h₀ L s.heap news) (hw : Txt.words x = ls) (hsz : x.length + 2 ≤ 16777216)
    (h : ∀ D ys h' k, StrsAre ys ls → Fr h₀ L h' m → News h₀ L h' ((D, { cls := .type "list", data := .seq ys.toArray 0 }) :: news) → AllLt D news → Q (.ref D) { s with heap := h', toks := k }) :
    wpAny (model prog w) A (call (.builtin "str.split") [.str x t, .none]) Q E s :=
  splitN0None F N (fun l h' tk e a _ _ F' N' => h _ _ h' tk (by rw [← hw, ← e]; exact a) F' N' (allLt_of fun p hp => Heap.lt_size (N p hp).1)) (by rw [sizeLine_eq]; exact hsz)
theorem split_K {x : Str} {t : Tok} {ls : List Str} (F : Fr h₀ L s.heap m) (N : News h₀ L s.heap news) (hw : Txt.words x = ls) (hsz : x.length + 2 ≤ 16777216)
    (h : ∀ D ys h' k, StrsAre ys ls → Fr h₀ L h' m → News h₀ L h' ((D, { cls := .type "list", data := .seq ys.toArray 0 }) :: news) → AllLt D news → Q (.ref D) { s with heap := h', toks := k }) :
    wpAny (model prog w) A (call (.builtin "str.split") [.str x t]) Q E s :=
  splitN0A F N (fun l h' tk e a _ _ F' N' => h _ _ h' tk (by rw [← hw, ← e]; exact a) F' N' (allLt_of fun p hp => Heap.lt_size (N p hp).1)) (by rw [sizeLine_eq]; exact hsz)
end
theorem join_cap {ds : List Nat} (hd : Ok ds) {k : Nat} (hk : k < 3) : Txt.join (S [32]) ((ds.map fun d => S (pr k d)).map Txt.capitalize) = S (sp ds) := by
  have e : (ds.map fun d => S (pr k d)).map Txt.capitalize = (ds.map fun d => [65 + d, 97 + d]).map S := by
    rw [List.map_map, List.map_map]
    exact List.map_congr_left fun d hdm => cap_all ⟨k, hk⟩ ⟨d, hd.lt d hdm⟩
  rw [e, glued_S]; rfl
theorem ok_cap {ds : List Nat} (hd : Ok ds) {k : Nat} (hk : k < 3) : JoinOk (S [32]) ((ds.map fun d => S (pr k d)).map Txt.capitalize) = true := by
  have e : (ds.map fun d => S (pr k d)).map Txt.capitalize = (ds.map fun d => S [65 + d, 97 + d]) := by
    rw [List.map_map]
    exact List.map_congr_left fun d hdm => cap_all ⟨k, hk⟩ ⟨d, hd.lt d hdm⟩
  rw [e]
  refine Ok.fall (P := fun ds => JoinOk (S [32]) (ds.map fun d => S [65 + d, 97 + d]) = true) rfl (fun _ _ => rfl) (fun _ _ _ _ => rfl) (fun _ _ _ _ _ _ => rfl) hd
theorem short_pr {ds : List Nat} (k : Nat) : ∀ a ∈ (ds.map fun d => S (pr k d)), a.length ≤ 1000 := fun a ha => by
  obtain ⟨d, _, rfl⟩ := List.mem_map.mp ha
  rw [S_len, pr_len]; decide
theorem tx_len {ds : List Nat} (hd : Ok ds) (k : Nat) : (S (tx ds k)).length ≤ 1000 := by
  have hb : (bl k).length ≤ 3 := by unfold bl; split <;> decide
  have h1 := inter_len (bl k) (ds.map (pr k))
  rw [two_sum _ (pr_len k), List.length_map] at h1
  have h2 : ds.length * (bl k).length ≤ 3 * 3 := Nat.mul_le_mul hd.len hb
  have h3 := hd.len
  rw [S_len]
  unfold tx
  simp only [List.length_append]
  lia
end Mine.Cap
end
section
open PySem PySem.W PyProof.Rows PySem.Builtin.Int
open PyProof.Rows.LCg Mine.LC
namespace Mine.Capw
theorem lines21 : True := by
  k_with_none
  w_top off
  k_with "execs cons" => (((try dsimp only); refine toks_any ?_; intro _))
  k_with "k_enter" => (case zzfresh => (refine' code_def ?zzk1 ?zzk2 ?zzk3 ?zzk4 ?zzk5 ?zzkA ?zzkF ?zzkK ?zzk6 ?zzk7 ?zzk8 ?zzk9 ?zzkB ?_ ?zzc2 ?zzc3 ?zzc4 ?zzc5; (case zzkA => exact rfl); (case zzkF => exact rfl); (case zzkK => first | exact rfl | assumption); (case zzk1 => k_asm); (case zzk2 => k_asm); (case zzk3 => k_asm); (case zzk4 => k_asm); (case zzk5 => k_asm); (case zzk6 => k_is); (case zzk7 => k_is); (case zzk8 => k_room); (case zzk9 => first | exact BindsTo.of_eq rfl | exact binds_K (by k_in) rfl (by k_is) rfl rfl rfl | fail "k_enter: no rule for these arguments"); (case zzc5 => decide); (case zzkB => exact locs rfl); (case zzc2 => exact rfl); (case zzc3 => exact rfl); (case zzc4 => exact rfl); k_whole; intro zzg' zzL' zzh' zzFG' zzF' zzN' zzB' zzX' zzT'; (try dsimp only); (try k_lift zzB'); (try k_fold)))
  k_with "k_enter" => (case zzfresh => (refine' code_defC ?zzk1 ?zzk2 ?zzk3 ?zzk4 ?zzk5 ?zzkA ?zzkF ?zzkK ?zzk6 ?zzk7 ?zzk8 ?zzk9 ?zzkB ?zzkD ?_ ?zzc2 ?zzc3 ?zzc4; (case zzkA => exact rfl); (case zzkF => exact rfl); (case zzkK => first | exact rfl | assumption); (case zzk1 => k_asm); (case zzk2 => k_asm); (case zzk3 => k_asm); (case zzk4 => k_asm); (case zzk5 => k_asm); (case zzk6 => k_is); (case zzk7 => k_is); (case zzk8 => k_room); (case zzk9 => first | exact BindsTo.of_eq rfl | exact binds_K (by k_in) rfl (by k_is) rfl rfl rfl | fail "k_enter: no rule for these arguments"); (case zzkB => exact rfl); (case zzkD => decide +kernel); (case zzc2 => exact rfl); (case zzc3 => exact rfl); (case zzc4 => exact rfl); k_whole; intro zzg' zzL' zzh' zztk' zzcells' zzFG' zzF' zzN' zzY' zzB' zzX' zzT' zzl1; (try k_lt zzl1); k_cells zzY'; (try simp only [List.cons_append, List.nil_append] at zzN'); (try dsimp only); (try k_lift zzB'); (try k_fold)))
  k_with "mine open" => ((refine wpAny_call ?_; k_dflt (first | k_enter | kc_enter)))
  k_with "mine open R" => (case zzfresh => (refine wpAny_call ?_; k_dflt (refine' code_defR ?zzk1 ?zzk2 ?zzk3 ?zzk4 ?zzkD ?zzk5 ?zzkA ?zzkF ?zzkK ?zzk6 ?zzk7 ?zzk8 ?zzk9 ?zzkB ?_ ?zzc2 ?zzc3 ?zzc4 ?zzc5; (case zzkA => exact rfl); (case zzkF => exact rfl); (case zzkK => first | exact rfl | assumption); (case zzk1 => k_asm); (case zzk2 => k_asm); (case zzk3 => k_asm); (case zzk4 => with_reducible assumption); (case zzkD => with_reducible assumption); (case zzk5 => k_asm); (case zzk6 => k_is); (case zzk7 => k_is); (case zzk8 => k_room); (case zzk9 => first | exact BindsTo.of_eq rfl | exact binds_K (by k_in) rfl (by k_is) rfl rfl rfl | fail "k_enter: no rule for these arguments"); (case zzc5 => decide); (case zzkB => exact locs rfl); (case zzc2 => exact rfl); (case zzc3 => exact rfl); (case zzc4 => exact rfl)); k_whole; intro zzg' zzL' zzh' zzFG' zzF' zzN' zzB' zzX' zzT' zzS'; (try dsimp only); (try k_lift zzB'); (try k_fold)))
  k_with "mine open CR" => (case zzfresh => (refine wpAny_call ?_; k_dflt (refine' code_defCR ?zzk1 ?zzk2 ?zzk3 ?zzk4 ?zzkR ?zzk5 ?zzkA ?zzkF ?zzkK ?zzk6 ?zzk7 ?zzk8 ?zzk9 ?zzkB ?zzkD ?_ ?zzc2 ?zzc3 ?zzc4; (case zzkA => exact rfl); (case zzkF => exact rfl); (case zzkK => first | exact rfl | assumption); (case zzk1 => k_asm); (case zzk2 => k_asm); (case zzk3 => k_asm); (case zzk4 => with_reducible assumption); (case zzkR => with_reducible assumption); (case zzk5 => k_asm); (case zzk6 => k_is); (case zzk7 => k_is); (case zzk8 => k_room); (case zzk9 => first | exact BindsTo.of_eq rfl | exact binds_K (by k_in) rfl (by k_is) rfl rfl rfl | fail "k_enter: no rule for these arguments"); (case zzkB => exact rfl); (case zzkD => decide +kernel); (case zzc2 => exact rfl); (case zzc3 => exact rfl); (case zzc4 => exact rfl)); k_whole; intro zzg' zzL' zzh' zztk' zzcells' zzFG' zzF' zzN' zzY' zzB' zzX' zzT' zzl1 zzS'; (try k_lt zzl1); k_cells zzY'; (try simp only [List.cons_append, List.nil_append] at zzN'); (try dsimp only); (try k_lift zzB'); (try k_fold)))
  k_with "mine open CR0" => (case zzfresh => (refine wpAny_call ?_; k_dflt (refine' code_defCR (own := []) ?zzk1 ?zzk2 ?zzk3 ?zzk4 ?zzkR ?zzk5 ?zzkA ?zzkF ?zzkK ?zzk6 ?zzk7 ?zzk8 ?zzk9 ?zzkB ?zzkD ?_ ?zzc2 ?zzc3 ?zzc4; (case zzkA => exact rfl); (case zzkF => exact rfl); (case zzkK => first | exact rfl | assumption); (case zzk1 => k_asm); (case zzk2 => k_asm); (case zzk3 => k_asm); (case zzk4 => k_asm); (case zzkR => exact Apart.zero); (case zzk5 => k_asm); (case zzk6 => k_is); (case zzk7 => k_is); (case zzk8 => k_room); (case zzk9 => first | exact BindsTo.of_eq rfl | exact binds_K (by k_in) rfl (by k_is) rfl rfl rfl | fail "k_enter: no rule for these arguments"); (case zzkB => exact rfl); (case zzkD => decide +kernel); (case zzc2 => exact rfl); (case zzc3 => exact rfl); (case zzc4 => exact rfl)); k_whole; intro zzg' zzL' zzh' zztk' zzcells' zzFG' zzF' zzN' zzY' zzB' zzX' zzT' zzl1 zzS'; clear zzl1; k_cells zzY'; (try simp only [List.cons_append, List.nil_append, List.append_nil] at zzN'); (try dsimp only); (try k_lift zzB'); (try k_fold)))
  k_with "mine open R0" => (case zzfresh => (refine wpAny_call ?_; k_dflt (refine' code_defR (own := []) ?zzk1 ?zzk2 ?zzk3 ?zzk4 ?zzkD ?zzk5 ?zzkA ?zzkF ?zzkK ?zzk6 ?zzk7 ?zzk8 ?zzk9 ?zzkB ?_ ?zzc2 ?zzc3 ?zzc4 ?zzc5; (case zzkA => exact rfl); (case zzkF => exact rfl); (case zzkK => first | exact rfl | assumption); (case zzk1 => k_asm); (case zzk2 => k_asm); (case zzk3 => k_asm); (case zzk4 => k_asm); (case zzkD => exact Apart.zero); (case zzk5 => k_asm); (case zzk6 => k_is); (case zzk7 => k_is); (case zzk8 => k_room); (case zzk9 => first | exact BindsTo.of_eq rfl | exact binds_K (by k_in) rfl (by k_is) rfl rfl rfl | fail "k_enter: no rule for these arguments"); (case zzc5 => decide); (case zzkB => exact locs rfl); (case zzc2 => exact rfl); (case zzc3 => exact rfl); (case zzc4 => exact rfl)); k_whole; intro zzg' zzL' zzh' zzFG' zzF' zzN' zzB' zzX' zzT' zzS'; (try dsimp only); (try k_lift zzB'); (try k_fold)))
  k_with "exec Assign cons ListComp" => ((k_here; (with_reducible show wpAny _ _ (exec (Stmt.Assign [Expr.Name _ _] (Expr.ListComp _ [Comprehension.mk (Expr.Name _ _) _ [] _] _ _) _) _) _ _ _); k_dflt (refine assign_M (F₀ := by k_asm) (by rfl) (by with_unfolding_all rfl) (by with_unfolding_all rfl) (by decide) (by rfl) (by decide) (by rfl) (by rfl) (by rfl) ?_)))
  k_with "exec Assign cons ListComp" => ((k_here; (with_reducible show wpAny _ _ (exec (Stmt.Assign [Expr.Name _ _] (Expr.ListComp _ [Comprehension.mk (Expr.Name _ _) _ [_] _] _ _) _) _) _ _ _); k_dflt (refine assign_MT (F₀ := by k_asm) (by rfl) (by with_unfolding_all rfl) (by with_unfolding_all rfl) (by decide) (by rfl) (by decide) (by rfl) (by rfl) (by rfl) ?_)))
  k_with "eval ListComp" => ((k_here; (with_reducible show wpAny _ _ (eval (Expr.ListComp _ [Comprehension.mk (Expr.Name _ _) _ [] _] _ _) _) _ _ _); k_dflt (refine comp_M (F₀ := by k_asm) (by with_unfolding_all rfl) (by decide) (by rfl) (by decide) (by rfl) ?_)))
  k_with "eval ListComp" => ((k_here; (with_reducible show wpAny _ _ (eval (Expr.ListComp _ [Comprehension.mk (Expr.Name _ _) _ [_] _] _ _) _) _ _ _); k_dflt (refine comp_MT (F₀ := by k_asm) (by with_unfolding_all rfl) (by decide) (by rfl) (by decide) (by rfl) ?_)))
  trivial
theorem hbl9 : Str.ofString " " = S [32] := by decide +kernel
open Mine.Cap
theorem lines22 : True := by
  k_with "getAttr" => ((k_here; (with_reducible show wpAny _ _ (getAttr (Value.type "str") _ _) _ _ _); k_dflt (refine Cap.attr (by k_asm) (by k_asm) (by decide +kernel) (by decide +kernel) (by k_is) ?_)))
  k_with "call builtin:str.split" => (case zzfresh => (k_here; k_dflt (refine Cap.splitNone_K (by k_asm) (by k_asm) (by with_reducible assumption) (by with_reducible assumption) ?_); intro zzD' zzys' zzh' _ zza' zzF' zzN' zzl1; (try simp only [AllLt, and_true] at zzl1)))
  k_with "call type:map" => (case zzfresh => (k_here; k_dflt (refine Cap.map_K (by k_asm) (by k_asm) (by k_mem) ?_); intro zzI' zzT' zzJ' zzh' zzF' zzN' zzl1 zzl2; k_dflt (obtain ⟨zzl2a, zzl2b⟩ := zzl2)))
  k_with "call builtin:str.join" => (case zzfresh => (k_here; k_dflt (rw [hbl9]; refine Cap.join_K rfl (by k_asm) (by with_reducible assumption) (by k_mem) (by with_reducible assumption) (by with_reducible assumption) (by with_reducible assumption) (by with_reducible assumption) (by with_reducible assumption) (by with_reducible assumption) (by with_reducible assumption) ?_); intro zzh' _ _ zzF' zzN'))
  trivial
set_option maxRecDepth 100000 in
set_option maxHeartbeats 8000000 in
theorem cap {w : World} {ds : List Nat} {k : Nat} {t1 : Tok} (hd : Ok ds) (hk : k < 3) :
    ConF w 0 (call (.ref 74) [.str (S (tx ds k)) t1]) [] (fun r own' => own' = [] ∧ ∃ t, r = .str (S (sp ds)) t) := by
  have hw := words_tx hd hk
  have hsz : (S (tx ds k)).length + 2 ≤ 16777216 := by have := tx_len hd k; omega
  have hsh := short_pr (ds := ds) k
  have hls : (ds.map fun d => S (pr k d)).length ≤ 1000 := by have := hd.len; rw [List.length_map]; omega
  have hok := ok_cap hd hk
  refine ConF.opened ?_
  k_fill
  intro rest p loose mean mg mb cn cs a' ccd cl L outer A₀ base h₀ m sh sg sd so sk Q E B F X N T hk' hap hret
  walk_at "mine open R0"
  k_steps
  rw [join_cap hd hk]
  exact hret _ _ _ _ ⟨[], rfl, Apart.zero, rfl, _, rfl⟩ (by assumption) (by assumption)

end Mine.Capw
end
section
theorem Mine.resetRev : True := by
  k_with_none
  w_top off
  trivial
open PySem PySem.Spec PySem.Calls PySem.W PyProof.Rows
open Sem (wp)
set_option maxRecDepth 100000
namespace Mine.Rev
theorem slot_next : Slot "reversed" "__next__" "reversed.__next__" :=
  .of (owner := "reversed") (n := "__next__") (by rw [typeLookup_type, builtinLookup_eq_fast]; kernel_rfl) (by decide +kernel) (by decide +kernel) (by decide +kernel)
    (by first | exact .inl (by decide +kernel) | exact .inr (by decide +kernel)) (by rw [isSubtype_type]; kernel_rfl)
theorem slot_iter : Slot "reversed" "__iter__" "reversed.__iter__" :=
  .of (owner := "reversed") (n := "__iter__") (by rw [typeLookup_type, builtinLookup_eq_fast]; kernel_rfl) (by decide +kernel) (by decide +kernel) (by decide +kernel)
    (by first | exact .inl (by decide +kernel) | exact .inr (by decide +kernel)) (by rw [isSubtype_type]; kernel_rfl)
theorem args_next (a : Value) : argsOk "reversed.__next__" ⟨[a], []⟩ := by unfold argsOk; kernel_rfl
theorem args_iter (a : Value) : argsOk "reversed.__iter__" ⟨[a], []⟩ := by unfold argsOk; kernel_rfl
theorem entry_next : entryFor table "reversed.__next__" = some Builtin.«reversed.__next__» := entryFor_of_tree (by kernel_rfl)
theorem entry_iter : entryFor table "reversed.__iter__" = some Builtin.«dict_keyiterator.__iter__» :=
  entryFor_alias (id' := "dict_keyiterator.__iter__") (by kernel_rfl) (by first | rfl | decide +kernel) (by decide +kernel) (by kernel_rfl)
theorem slot_init : Slot "reversed" "__init__" "object.__init__" :=
  .of (owner := "object") (n := "__init__") (by rw [typeLookup_type, builtinLookup_eq_fast]; kernel_rfl) (by decide +kernel) (by decide +kernel) (by decide +kernel)
    (by first | exact .inl (by decide +kernel) | exact .inr (by decide +kernel)) (by rw [isSubtype_type]; kernel_rfl)
theorem called : TypeCalled "reversed" "reversed.__new__" "object.__init__" :=
  ⟨by decide +kernel, by decide +kernel, ⟨_, _, F.mro_reversed⟩, madeBy_type F.mro_reversed F.lookup_reversed_new (by decide +kernel), by decide +kernel, by rw [isSubtype_type]; kernel_rfl, slot_init⟩
theorem str_no_rev : typeLookup (.type "str") "__reversed__" = pure none := by rw [typeLookup_type, builtinLookup_eq_fast]; kernel_rfl
theorem args_init_2 (a b : Value) : argsOk "object.__init__" ⟨[a, b], []⟩ := by
  unfold argsOk; kernel_rfl
/-- the reversed object over a text, `j + 1` signs to go -/
def IsRev (h : Heap) (I : Addr) (x : Str) (t : Tok) (j : Int) : Prop := ∃ o, h.get? I = some o ∧ o.cls = .type "reversed" ∧ o.data = .fields #[.str x t, rawInt j]
section
variable {prog : Program} {w : World} {A : Around} {E : Value → Shared → Prop} {s : Shared}
theorem newClass_rev (a : Value) : Builtin.SmallTypes.newClass "reversed" ⟨[.type "reversed", a], []⟩ = pure (.type "reversed", [a]) := newClass_reversed a
theorem meets_new (x : Str) (t : Tok) (hx : (x.length : Int) < 2 ^ 63) : Meets (Builtin.«reversed.__new__» ⟨[.type "reversed", .str x t], []⟩)
    (fun _ R s => R (.ok (.ret (.ref s.heap.objs.size))) { s with heap := s.heap.push { cls := .type "reversed", data := .fields #[.str x t, rawInt ((x.length : Int) - 1)] }, toks := s.toks + 1 + 1 }) := by
  refine .of_wp fun prog w A R s h => ?_
  unfold Builtin.«reversed.__new__»
  refine wpAny_bind (wpAny_of_eq (newClass_rev _) ?_)
  try dsimp only
  refine wpAny_bind (wpAny_of_eq (a := ()) (by first | rfl | kernel_rfl) ?_)
  refine wpAny_bind (wpAny_of_eq (a := ()) (by first | rfl | kernel_rfl) ?_)
  try dsimp only
  refine wpAny_bind (wpAny_specialOf (typeIs_str _ x t) str_no_rev ?_)
  try dsimp only
  refine wpAny_bind (wpAny_bind (m := isInstance (.str x t) (.type "dict")) (wpAny_isInstance (b := false) (typeIs_str _ x t) (by rw [isSubtype_type]; kernel_rfl) ?_))
  simp only [Bool.false_eq_true, if_false]
  refine wpAny_bind (wpAny_pure ?_)
  refine wpAny_of_eq (a := true) (by kernel_rfl) ?_
  simp only [Bool.not_true, Bool.false_eq_true, if_false]
  refine wpAny_bind (P.len_str (by lia) ?_)
  refine wpAny_bind (wpAny_of_eq (a := some (x.length : Int)) (by first | rfl | kernel_rfl) ?_)
  try dsimp only
  unfold Builtin.SmallTypes.newRecord
  refine wpAny_bind (wpAny_newObj_type ?_ (by size_fits))
  exact wpAny_pure ⟨_, rfl, h⟩
theorem call_rev {x : Str} {t : Tok} {Q : Value → Shared → Prop} (hx : (x.length : Int) < 2 ^ 63)
    (h : Q (.ref s.heap.objs.size) { s with heap := s.heap.push { cls := .type "reversed", data := .fields #[.str x t, rawInt ((x.length : Int) - 1)] }, toks := s.toks + 1 + 1 }) : wpAny (model prog w) A (call (.type "reversed") [.str x t]) Q E s :=
  callType_new called (by decide) (F.typeCall_reversed_1 _) (F.newCall_reversed_1 _) (fun obj => args_init_2 obj _) F.entry_reversed_new (meets_new x t hx)
    ⟨⟨_, Heap.get?_push_size _ rfl, rfl⟩, h⟩

theorem pyNext_item {I : Addr} {x : Str} {t : Tok} {j : Nat} {c : Nat} {Q : Option Value → Shared → Prop} (hm : IsRev s.heap I x t (j : Int)) (hx : x.cps[j]? = some c) (hl : (x.length : Int) < 2 ^ 62)
    (hQ : ∀ h' t' k, IsRev h' I x t ((j : Int) - 1) → Heap.SameBut I s.heap h' → Q (some (.str ⟨#[c]⟩ t')) { s with heap := h', toks := k }) : wpAny (model prog w) A (pyNext (.ref I)) Q E s := by
  obtain ⟨o, ho, hc, hd⟩ := hm
  have hj : j < x.length := by
    have := (Array.getElem?_eq_some_iff.mp hx).1; exact this
  unfold pyNext
  refine wpAny_bind (wpAny_attempt (wpAny_callSpecial?_slot (name := Str.ofString "__next__") (T := "reversed") ⟨o, ho, hc⟩ slot_next
    (wpAny_call_entry slot_next ⟨o, ho, hc⟩ entry_next ?_ (args_next _))))
  unfold Builtin.«reversed.__next__»
  refine wpAny_bind (wpAny_of_eq (a := (Value.ref I, [])) rfl ?_)
  try dsimp only
  refine wpAny_bind (wpAny_field ho hd (x := .str x t) rfl ?_)
  refine wpAny_bind (wpAny_field ho hd (x := rawInt (j : Int)) rfl ?_)
  show wpAny _ _ (if (j : Int) < 0 then _ else _) _ _ s
  rw [if_neg (by lia)]
  refine wpAny_bind (wpAny_specialOf (typeIs_str _ x t) F.slot_str_getitem.lookup ?_)
  try dsimp only
  simp only [Option.isNone_some, Bool.false_eq_true, if_false]
  refine wpAny_bind (wpAny_mkInt ?_)
  refine wpAny_bind (wpAny_attempt (SB.getItem ?_ ?_ ?_))
  · unfold fitsSsize; simp; lia
  · exact PyProof.Rows.charAt_isSome (by lia) (by lia)
  rw [PyProof.Rows.item_meets (i := (j : Int)) (n := c) (by lia) (by simpa using hx)]
  try dsimp only
  refine wpAny_bind (wpAny_field (s := { s with toks := s.toks + 1 + 1 }) ho hd (x := rawInt (j : Int)) rfl ?_)
  refine wpAny_bind (wpAny_setField (s := { s with toks := s.toks + 1 + 1 }) ho hd (by simp) ?_)
  refine wpAny_pure ⟨_, rfl, wpAny_pure (hQ _ _ _ ?_ (Heap.SameBut.update ..))⟩
  exact ⟨_, Heap.get?_update_self _ ho (Obj.isFreed_of_fields (Obj.data_mapFields hd _)), (Obj.cls_mapFields ..).trans hc, by
    rw [Obj.data_mapFields hd]; simp [rawInt]⟩

theorem pyNext_end {I : Addr} {x : Str} {t : Tok} {Q : Option Value → Shared → Prop} (hh : A.handled = none) (hm : IsRev s.heap I x t (-1))
    (hQ : ∀ h', Heap.ExtBut I s.heap h' → Q none { s with heap := h' }) : wpAny (model prog w) A (pyNext (.ref I)) Q E s := by
  obtain ⟨o, ho, hc, hd⟩ := hm
  unfold pyNext
  refine wpAny_bind (wpAny_attempt (wpAny_callSpecial?_slot (name := Str.ofString "__next__") (T := "reversed") ⟨o, ho, hc⟩ slot_next
    (wpAny_call_entry slot_next ⟨o, ho, hc⟩ entry_next ?_ (args_next _))))
  unfold Builtin.«reversed.__next__»
  refine wpAny_bind (wpAny_of_eq (a := (Value.ref I, [])) rfl ?_)
  try dsimp only
  refine wpAny_bind (wpAny_field ho hd (x := .str x t) rfl ?_)
  refine wpAny_bind (wpAny_field ho hd (x := rawInt (-1)) rfl ?_)
  show wpAny _ _ (if (-1 : Int) < 0 then _ else _) _ _ s
  rw [if_pos (by decide)]
  refine wpAny_bind (wpAny_rule ?_)
  refine wpAny_bind ?_
  show wpAny _ _ (setField (.ref I) 1 (rawInt (-1)) >>= fun _ => setField (.ref I) 0 .none) _ _ s
  refine wpAny_bind (wpAny_setField ho hd (by simp) ?_)
  have ho2 := Heap.get?_update_self (Obj.mapFields (·.setIfInBounds 1 (rawInt (-1)))) ho (Obj.isFreed_of_fields (Obj.data_mapFields hd _))
  refine wpAny_setField ho2 (Obj.data_mapFields hd _) (by simp) ?_
  refine wpAny_bind ?_
  show wpAny _ _ (newExc (.type "StopIteration") [] >>= _) _ _ _
  refine wpAny_bind ?_
  simp only [newExc, newTuple]
  refine wpAny_bind (wpAny_newObj_type ?_ (by size_fits))
  refine wpAny_bind (m := firstArgMember _ _) (wpAny_of_eq (a := Value.none) (by first | rfl | (simp only [firstArgMember]; rfl)) ?_)
  refine wpAny_newObj_type ?_ (by size_fits)
  simp only [raiseNew]
  refine wpAny_bind (wpAny_handled ?_)
  rw [show A.in1.handled = none from hh]
  refine wpAny_bind (wpAny_pure (wpAny_throw ?_))
  refine wpAny_bind (wpAny_isInstance (T := "StopIteration") (b := true) ⟨_, Heap.get?_push_size _ rfl, rfl⟩ isSubtype_stop ?_)
  refine wpAny_pure (hQ _ (Heap.ExtBut.push (Heap.ExtBut.push ?_ _) _))
  exact fun b o hb e => (Heap.get?_update_other _ _ (Ne.symm hb)).trans ((Heap.get?_update_other _ _ (Ne.symm hb)).trans e)
theorem pyIter_rev {I : Addr} {x : Str} {t : Tok} {j : Int} {Q : Value → Shared → Prop} (hm : IsRev s.heap I x t j) (h : Q (.ref I) s) : wpAny (model prog w) A (pyIter (.ref I)) Q E s := by
  obtain ⟨o, ho, hc, hd⟩ := hm
  have hT : s.TypeIs (.ref I) "reversed" := ⟨o, ho, hc⟩
  refine wpAny_pyIter_slot hT slot_iter (wpAny_call_entry slot_iter hT entry_iter ?_ (args_iter _))
  show wpAny _ _ (ret (.ref I)) _ _ s
  exact wpAny_pure ⟨_, rfl, "reversed", _, hT, slot_next.lookup, h⟩
end
theorem IsRev.at {h h' : Heap} {I : Addr} {x : Str} {t : Tok} {j : Int} (r : IsRev h I x t j) (k : ∀ o, h.get? I = some o → h'.get? I = some o) : IsRev h' I x t j :=
  let ⟨o, ho, q⟩ := r; ⟨o, k o ho, q⟩
theorem walks {prog : Program} {w : World} {A : Around} (hh : A.handled = none) (I : Addr) (x : Str) (t : Tok) (hl : (x.length : Int) < 2 ^ 62) :
    Walks prog w A I [I] [I] x.cps.size (fun i v => ∃ c u, x.cps[x.cps.size - 1 - i]? = some c ∧ v = Value.str ⟨#[c]⟩ u) (fun i h => i ≤ x.cps.size ∧ IsRev h I x t ((x.cps.size : Int) - 1 - (i : Int))) where
  sub := fun b hb => hb
  frame := fun _ _ _ st hk => ⟨st.1, st.2.at fun o e => hk I (by simp) o e⟩
  item := fun i s Q E hi st hQ => by
    have e : (x.cps.size : Int) - 1 - (i : Int) = ((x.cps.size - 1 - i : Nat) : Int) := by lia
    have hit := st.2
    rw [e] at hit
    have hx : x.cps[x.cps.size - 1 - i]? = some (x.cps[x.cps.size - 1 - i]'(by lia)) := Array.getElem?_eq_getElem (by lia)
    refine pyNext_item hit hx hl fun h' t' k hit' hs' => ?_
    have e2 : ((x.cps.size - 1 - i : Nat) : Int) - 1 = (x.cps.size : Int) - 1 - ((i + 1 : Nat) : Int) := by lia
    rw [e2] at hit'
    exact hQ _ h' k ⟨_, _, hx, rfl⟩ ⟨hi, hit'⟩ fun b o hb eo => hs'.extBut b o (fun h => hb (by simp [h])) eo
  done := fun s Q E st hQ => by
    have e : (x.cps.size : Int) - 1 - (x.cps.size : Int) = -1 := by lia
    have hit := st.2
    rw [e] at hit
    exact pyNext_end hh hit fun h' he' => hQ h' s.toks fun b o hb eo => he' b o (fun h => hb (by simp [h])) eo
  self := fun _ _ _ _ st hQ => pyIter_rev st.2 hQ

open Mine.LC
section
variable {prog : Program} {w : World} {A : Around} {E : Value → Shared → Prop} {s : Shared} {h₀ : Heap} {L : Addr} {m : Str → Option Value} {news : Led} {Q : Value → Shared → Prop}
abbrev revO (x : Str) (t : Tok) : Obj := { cls := .type "reversed", data := .fields #[.str x t, rawInt ((x.length : Int) - 1)] }
theorem call_K {x : Str} {t : Tok} (F : Fr h₀ L s.heap m) (N : News h₀ L s.heap news) (hx : x.length ≤ 1000)
    (h : ∀ I h' k, Fr h₀ L h' m → News h₀ L h' ((I, revO x t) :: news) → AllLt I news → Q (.ref I) { s with heap := h', toks := k }) : wpAny (model prog w) A (call (.type "reversed") [.str x t]) Q E s :=
  call_rev (by lia) (h _ _ _ (F.push _) (News.push F N _) (allLt_of fun p hp => Heap.lt_size (N p hp).1))
/-- the reversed object itself as the source of a block: it leaves the ledger -/
theorem pyI_rev {I : Addr} {x : Str} {t : Tok} (hh : A.handled = none) (F : Fr h₀ L s.heap m) (N : News h₀ L s.heap ((I, revO x t) :: news)) (lt : AllLt I news) (hx : x.length ≤ 1000) :
    PyI prog w A h₀ L news (fun _ => True) (fun i v => ∃ c u, x.cps[x.cps.size - 1 - i]? = some c ∧ v = Value.str ⟨#[c]⟩ u) x.cps.size (.ref I) s := fun Q E k => by
  have n1 := N (I, revO x t) (.head _)
  have hR : IsRev s.heap I x t ((x.cps.size : Int) - 1 - ((0 : Nat) : Int)) := ⟨_, n1.1, rfl, by simp [revO, Str.length]⟩
  refine pyIter_rev hR (k I s.heap (fun _ _ e => e) ⟨_, _, walks hh I x t (by lia), fun i h st => ?_, fun i h h' o nw st e e' _ _ _ => ⟨st.1, ?_⟩, ⟨Nat.zero_le _, hR⟩, fun b hb => ?_⟩ (Ne.symm n1.2.1) n1.2.2 fun p hp => Nat.ne_of_lt (tb_ltOf lt p hp))
  · obtain ⟨o, e, _⟩ := st.2; exact ⟨o, e⟩
  · obtain ⟨o', q, r⟩ := st.2; rw [e] at q; cases q; exact ⟨o, e', r⟩
  · rw [List.mem_singleton.mp hb]; exact Heap.lt_size n1.1
variable {env : Env} {elt : Expr} {y : Str} {scope : Scope} {cl : List (Str × Addr)} {Fin : Shared → List Value → Led → Prop}
theorem src {I : Addr} {x : Str} {t : Tok} (hh : A.handled = none) (F : Fr h₀ L s.heap m) (N : News h₀ L s.heap ((I, revO x t) :: news)) (lt : AllLt I news) (hx : x.length ≤ 1000)
    (h : ∀ g, LCg.CompRest prog w A h₀ L m env elt y scope cl { s with heap := g } (fun _ => True) (fun i v => ∃ c u, x.cps[x.cps.size - 1 - i]? = some c ∧ v = Value.str ⟨#[c]⟩ u) (Fin { s with heap := g }) x.cps.size 0 [] news) :
    SrcM prog w A h₀ L m env elt y scope cl Fin (.ref I) s :=
  ⟨news, _, _, _, F, fun p hp => N p (.tail _ hp), trivial, by have : x.cps.size ≤ 1000 := hx; rw [sizeLine_eq]; lia, pyI_rev hh F N lt hx, fun _ ⟨g, e⟩ => e ▸ h g⟩
end
end Mine.Rev
end
section
open PySem PySem.W PyProof.Rows PySem.Builtin.Int
open PyProof.Rows.LCg Mine.LC
namespace Mine.Nx
theorem lines23 : True := by
  k_with_none
  w_top off
  k_with "execs cons" => (((try dsimp only); refine toks_any ?_; intro _))
  k_with "k_enter" => (case zzfresh => (refine' code_def ?zzk1 ?zzk2 ?zzk3 ?zzk4 ?zzk5 ?zzkA ?zzkF ?zzkK ?zzk6 ?zzk7 ?zzk8 ?zzk9 ?zzkB ?_ ?zzc2 ?zzc3 ?zzc4 ?zzc5; (case zzkA => exact rfl); (case zzkF => exact rfl); (case zzkK => first | exact rfl | assumption); (case zzk1 => k_asm); (case zzk2 => k_asm); (case zzk3 => k_asm); (case zzk4 => k_asm); (case zzk5 => k_asm); (case zzk6 => k_is); (case zzk7 => k_is); (case zzk8 => k_room); (case zzk9 => first | exact BindsTo.of_eq rfl | exact binds_K (by k_in) rfl (by k_is) rfl rfl rfl | fail "k_enter: no rule for these arguments"); (case zzc5 => decide); (case zzkB => exact locs rfl); (case zzc2 => exact rfl); (case zzc3 => exact rfl); (case zzc4 => exact rfl); k_whole; intro zzg' zzL' zzh' zzFG' zzF' zzN' zzB' zzX' zzT'; (try dsimp only); (try k_lift zzB'); (try k_fold)))
  k_with "k_enter" => (case zzfresh => (refine' code_defC ?zzk1 ?zzk2 ?zzk3 ?zzk4 ?zzk5 ?zzkA ?zzkF ?zzkK ?zzk6 ?zzk7 ?zzk8 ?zzk9 ?zzkB ?zzkD ?_ ?zzc2 ?zzc3 ?zzc4; (case zzkA => exact rfl); (case zzkF => exact rfl); (case zzkK => first | exact rfl | assumption); (case zzk1 => k_asm); (case zzk2 => k_asm); (case zzk3 => k_asm); (case zzk4 => k_asm); (case zzk5 => k_asm); (case zzk6 => k_is); (case zzk7 => k_is); (case zzk8 => k_room); (case zzk9 => first | exact BindsTo.of_eq rfl | exact binds_K (by k_in) rfl (by k_is) rfl rfl rfl | fail "k_enter: no rule for these arguments"); (case zzkB => exact rfl); (case zzkD => decide +kernel); (case zzc2 => exact rfl); (case zzc3 => exact rfl); (case zzc4 => exact rfl); k_whole; intro zzg' zzL' zzh' zztk' zzcells' zzFG' zzF' zzN' zzY' zzB' zzX' zzT' zzl1; (try k_lt zzl1); k_cells zzY'; (try simp only [List.cons_append, List.nil_append] at zzN'); (try dsimp only); (try k_lift zzB'); (try k_fold)))
  k_with "mine open" => ((refine wpAny_call ?_; k_dflt (first | k_enter | kc_enter)))
  k_with "mine open R" => (case zzfresh => (refine wpAny_call ?_; k_dflt (refine' code_defR ?zzk1 ?zzk2 ?zzk3 ?zzk4 ?zzkD ?zzk5 ?zzkA ?zzkF ?zzkK ?zzk6 ?zzk7 ?zzk8 ?zzk9 ?zzkB ?_ ?zzc2 ?zzc3 ?zzc4 ?zzc5; (case zzkA => exact rfl); (case zzkF => exact rfl); (case zzkK => first | exact rfl | assumption); (case zzk1 => k_asm); (case zzk2 => k_asm); (case zzk3 => k_asm); (case zzk4 => with_reducible assumption); (case zzkD => with_reducible assumption); (case zzk5 => k_asm); (case zzk6 => k_is); (case zzk7 => k_is); (case zzk8 => k_room); (case zzk9 => first | exact BindsTo.of_eq rfl | exact binds_K (by k_in) rfl (by k_is) rfl rfl rfl | fail "k_enter: no rule for these arguments"); (case zzc5 => decide); (case zzkB => exact locs rfl); (case zzc2 => exact rfl); (case zzc3 => exact rfl); (case zzc4 => exact rfl)); k_whole; intro zzg' zzL' zzh' zzFG' zzF' zzN' zzB' zzX' zzT' zzS'; (try dsimp only); (try k_lift zzB'); (try k_fold)))
  k_with "mine open CR" => (case zzfresh => (refine wpAny_call ?_; k_dflt (refine' code_defCR ?zzk1 ?zzk2 ?zzk3 ?zzk4 ?zzkR ?zzk5 ?zzkA ?zzkF ?zzkK ?zzk6 ?zzk7 ?zzk8 ?zzk9 ?zzkB ?zzkD ?_ ?zzc2 ?zzc3 ?zzc4; (case zzkA => exact rfl); (case zzkF => exact rfl); (case zzkK => first | exact rfl | assumption); (case zzk1 => k_asm); (case zzk2 => k_asm); (case zzk3 => k_asm); (case zzk4 => with_reducible assumption); (case zzkR => with_reducible assumption); (case zzk5 => k_asm); (case zzk6 => k_is); (case zzk7 => k_is); (case zzk8 => k_room); (case zzk9 => first | exact BindsTo.of_eq rfl | exact binds_K (by k_in) rfl (by k_is) rfl rfl rfl | fail "k_enter: no rule for these arguments"); (case zzkB => exact rfl); (case zzkD => decide +kernel); (case zzc2 => exact rfl); (case zzc3 => exact rfl); (case zzc4 => exact rfl)); k_whole; intro zzg' zzL' zzh' zztk' zzcells' zzFG' zzF' zzN' zzY' zzB' zzX' zzT' zzl1 zzS'; (try k_lt zzl1); k_cells zzY'; (try simp only [List.cons_append, List.nil_append] at zzN'); (try dsimp only); (try k_lift zzB'); (try k_fold)))
  k_with "mine open CR0" => (case zzfresh => (refine wpAny_call ?_; k_dflt (refine' code_defCR (own := []) ?zzk1 ?zzk2 ?zzk3 ?zzk4 ?zzkR ?zzk5 ?zzkA ?zzkF ?zzkK ?zzk6 ?zzk7 ?zzk8 ?zzk9 ?zzkB ?zzkD ?_ ?zzc2 ?zzc3 ?zzc4; (case zzkA => exact rfl); (case zzkF => exact rfl); (case zzkK => first | exact rfl | assumption); (case zzk1 => k_asm); (case zzk2 => k_asm); (case zzk3 => k_asm); (case zzk4 => k_asm); (case zzkR => exact Apart.zero); (case zzk5 => k_asm); (case zzk6 => k_is); (case zzk7 => k_is); (case zzk8 => k_room); (case zzk9 => first | exact BindsTo.of_eq rfl | exact binds_K (by k_in) rfl (by k_is) rfl rfl rfl | fail "k_enter: no rule for these arguments"); (case zzkB => exact rfl); (case zzkD => decide +kernel); (case zzc2 => exact rfl); (case zzc3 => exact rfl); (case zzc4 => exact rfl)); k_whole; intro zzg' zzL' zzh' zztk' zzcells' zzFG' zzF' zzN' zzY' zzB' zzX' zzT' zzl1 zzS'; clear zzl1; k_cells zzY'; (try simp only [List.cons_append, List.nil_append, List.append_nil] at zzN'); (try dsimp only); (try k_lift zzB'); (try k_fold)))
  k_with "mine open R0" => (case zzfresh => (refine wpAny_call ?_; k_dflt (refine' code_defR (own := []) ?zzk1 ?zzk2 ?zzk3 ?zzk4 ?zzkD ?zzk5 ?zzkA ?zzkF ?zzkK ?zzk6 ?zzk7 ?zzk8 ?zzk9 ?zzkB ?_ ?zzc2 ?zzc3 ?zzc4 ?zzc5; (case zzkA => exact rfl); (case zzkF => exact rfl); (case zzkK => first | exact rfl | assumption); (case zzk1 => k_asm); (case zzk2 => k_asm); (case zzk3 => k_asm); (case zzk4 => k_asm); (case zzkD => exact Apart.zero); (case zzk5 => k_asm); (case zzk6 => k_is); (case zzk7 => k_is); (case zzk8 => k_room); (case zzk9 => first | exact BindsTo.of_eq rfl | exact binds_K (by k_in) rfl (by k_is) rfl rfl rfl | fail "k_enter: no rule for these arguments"); (case zzc5 => decide); (case zzkB => exact locs rfl); (case zzc2 => exact rfl); (case zzc3 => exact rfl); (case zzc4 => exact rfl)); k_whole; intro zzg' zzL' zzh' zzFG' zzF' zzN' zzB' zzX' zzT' zzS'; (try dsimp only); (try k_lift zzB'); (try k_fold)))
  k_with "exec Assign cons ListComp" => ((k_here; (with_reducible show wpAny _ _ (exec (Stmt.Assign [Expr.Name _ _] (Expr.ListComp _ [Comprehension.mk (Expr.Name _ _) _ [] _] _ _) _) _) _ _ _); k_dflt (refine assign_M (F₀ := by k_asm) (by rfl) (by with_unfolding_all rfl) (by with_unfolding_all rfl) (by decide) (by rfl) (by decide) (by rfl) (by rfl) (by rfl) ?_)))
  k_with "exec Assign cons ListComp" => ((k_here; (with_reducible show wpAny _ _ (exec (Stmt.Assign [Expr.Name _ _] (Expr.ListComp _ [Comprehension.mk (Expr.Name _ _) _ [_] _] _ _) _) _) _ _ _); k_dflt (refine assign_MT (F₀ := by k_asm) (by rfl) (by with_unfolding_all rfl) (by with_unfolding_all rfl) (by decide) (by rfl) (by decide) (by rfl) (by rfl) (by rfl) ?_)))
  k_with "eval ListComp" => ((k_here; (with_reducible show wpAny _ _ (eval (Expr.ListComp _ [Comprehension.mk (Expr.Name _ _) _ [] _] _ _) _) _ _ _); k_dflt (refine comp_M (F₀ := by k_asm) (by with_unfolding_all rfl) (by decide) (by rfl) (by decide) (by rfl) ?_)))
  k_with "eval ListComp" => ((k_here; (with_reducible show wpAny _ _ (eval (Expr.ListComp _ [Comprehension.mk (Expr.Name _ _) _ [_] _] _ _) _) _ _ _); k_dflt (refine comp_MT (F₀ := by k_asm) (by with_unfolding_all rfl) (by decide) (by rfl) (by decide) (by rfl) ?_)))
  trivial
open PySem.Calls
/-- what the division wants, with its quotient and its rest -/
structure D45 (a b n q r : Int) : Prop where
  hn0 : 2 ≤ n
  hn : n ≤ 4799
  hb0 : 2 ^ n.toNat ≤ 2 * b
  hb1 : b < 2 ^ n.toNat
  ha0 : 0 ≤ a
  ha : a < 2 ^ n.toNat * b
  e : q * b + r = a
  r0 : 0 ≤ r
  r1 : r < b
theorem div_uniq {a b q r q' r' : Int} (e : q * b + r = a) (r0 : 0 ≤ r) (r1 : r < b) (e' : q' * b + r' = a) (r0' : 0 ≤ r') (r1' : r' < b) : q = q' ∧ r = r' := by
  have h1 := kbt_unique (show 0 < b by lia) (q := q) (r := r) (a := a) (by rw [Int.mul_comm]; lia) r0 r1
  have h2 := kbt_unique (show 0 < b by lia) (q := q') (r := r') (a := a) (by rw [Int.mul_comm]; lia) r0' r1'
  lia
theorem c45r {w : World} {a b n q r : Int} {t1 t2 t3 : Tok} (H : D45 a b n q r) :
    Con w 2 (call (.ref 45) [.int a t1, .int b t2, .int n t3]) (fun _ => True)
      (fun news v news' => ∃ D t1 t2, v = .ref D ∧ news' = (D, tupO [.int q t1, .int r t2]) :: news ∧ AllLt D news) := by
  refine Div.Con.weak (Div.c45 H.hn0 H.hn H.hb0 H.hb1 H.ha0 H.ha) ?_
  rintro news v news' ⟨D, q', r', u1, u2, l, e, h0, h1⟩
  obtain ⟨rfl, rfl⟩ := div_uniq e h0 h1 H.e H.r0 H.r1
  exact ⟨D, u1, u2, rfl, rfl, l⟩

theorem lines24 : True := by
  k_with "binaryOp Mult int int" => ((k_here; k_dflt (refine mul_int ?_ (by with_reducible assumption))))
  k_with "binaryOp Mod int int" => ((k_here; k_dflt (refine mod_e (by with_reducible assumption) ?_)))
  k_with "binaryOp FloorDiv int int" => ((k_here; k_dflt (refine fdiv_e (by with_reducible assumption) (PyProof.noPylong_of_log2 (by with_reducible assumption)) ?_)))
  k_with "call type:reversed" => (case zzfresh => (k_here; k_dflt (refine Rev.call_K (by k_asm) (by k_asm) (by with_reducible assumption) ?_); intro zzI' zzh' _ zzF' zzN' zzl1))
  k_with "call builtin:str.index" => ((k_here; k_dflt (refine index_letter (by with_reducible assumption) ?_); intro _ _))
  k_with "call builtin:bytes.decode" => ((k_here; k_dflt (refine Dec.decode (dg_ok _) ?_); intro _ _))
  k_with "call ref" => (refine stop_here ?_)
  k_with "call ref" => (case zzfresh => (k_here; (with_reducible show wpAny _ _ (call (Value.ref 59) _) _ _ _); k_dflt (refine' ConF.use0 (Dig.digs (by with_reducible assumption) (by with_reducible assumption) (by with_reducible assumption) (by with_reducible assumption) (by with_reducible assumption)) ?zzB ?zzF ?zzX ?zzN ?zzT ?zzhk ?zzhh ?zzhd ?zzhf ?zzhg ?zzhu ?_; (case zzhf => exact rfl); (case zzhk => exact rfl); (case zzhh => exact rfl); (case zzhg => exact rfl); (case zzF => k_asm); (case zzN => k_asm); (case zzB => k_asm); (case zzX => k_in); (case zzT => k_asm); (case zzhd => exact Nat.le_of_ble_eq_true rfl); (case zzhu => exact Nat.le_of_ble_eq_true rfl)); intro zzv' zzh' zztk' zzown' zzhpost' zzF' zzN'; k_dflt (obtain ⟨zzu1', zze1', zzhT9⟩ := zzhpost'); subst zze1'))
  k_with "call ref" => (case zzfresh => (k_here; (with_reducible show wpAny _ _ (call (Value.ref 45) _) _ _ _); k_dflt (refine' Con.use (c45r (by with_reducible assumption)) ?zzB ?zzF ?zzX ?zzN ?zzT ?zzhk ?zzhh ?zzhd ?zzhf ?zzhg ?zzhu ?zzhp ?_; (case zzhf => exact rfl); (case zzhk => exact rfl); (case zzhh => exact rfl); (case zzhg => exact rfl); (case zzF => k_asm); (case zzN => k_asm); (case zzB => k_asm); (case zzX => k_in); (case zzT => k_asm); (case zzhd => exact Nat.le_of_ble_eq_true rfl); (case zzhu => exact Nat.le_of_ble_eq_true rfl); (case zzhp => exact True.intro)); intro zzv' zzh' zztk' zzown' zzhpost' zzF' zzN'; k_dflt (obtain ⟨zzD', zzu1', zzu2', zze1', zze2', zzl1'⟩ := zzhpost'); subst zze1'; subst zze2'))
  k_with "call ref" => (case zzfresh => (k_here; (with_reducible show wpAny _ _ (call (Value.ref 66) _) _ _ _); k_dflt (refine' ConF.useE (Ap.int2ap (by with_reducible assumption) (by with_reducible assumption)) ?zzB ?zzF ?zzX ?zzN ?zzT ?zzhk ?zzhh ?zzhd ?zzhf ?zzhg ?zzhu ?_; (case zzhf => exact rfl); (case zzhk => exact rfl); (case zzhh => exact rfl); (case zzhg => exact rfl); (case zzF => k_asm); (case zzN => k_asm); (case zzB => k_asm); (case zzX => k_in); (case zzT => k_asm); (case zzhd => exact Nat.le_of_ble_eq_true rfl); (case zzhu => exact Nat.le_of_ble_eq_true rfl)); intro zzv' zzh' zztk' zzhpost' zzF' zzN'; k_dflt (obtain ⟨zzu1', zze1'⟩ := zzhpost'); subst zze1'))
  trivial
set_option maxRecDepth 100000 in
set_option maxHeartbeats 8000000 in
theorem next0 {w : World} {ds : List Nat} {step base unit far below num : Int} {tabs : Led} {t1 t2 t3 t4 t5 t6 : Tok} (hd : Ok ds) (T9 : Dig.Tab tabs)
    (hnum : Dig.dval ((ds.map fun d : Nat => (d : Int)).reverse) = num) (hb : 0 < base) (hu : 0 < unit)
    (m1 : IntMulOk far base) (m2 : IntMulOk (far * base + (num + step)) unit) (m3 : IntMulOk base unit) (m4 : IntMulOk ((num + step) % base) unit)
    (p1 : base.natAbs.log2 < 9000) (p2 : unit.natAbs.log2 < 9000)
    (H : D45 ((far * base + (num + step)) * unit + below) (base * unit) (↑(Builtin.Int.intBits (base * unit))) (far + (num + step) / base) ((num + step) % base * unit + below))
    (hq : ((num + step) % base * unit + below) / unit = (num + step) % base) (v0 : 0 ≤ (num + step) % base) (v1 : (num + step) % base < 4096) :
    ConF w 3 (call (.ref 233) [.str (S (wd ds)) t1, .int step t2, .int base t3, .int unit t4, .int far t5, .int below t6]) tabs
      (fun v own' => Dig.Tab own' ∧ ∃ t, v = .str (S (wd (dg ((num + step) % base).toNat))) t) := by
  have hx : (S (wd ds)).length ≤ 1000 := by rw [S_len]; have := hd.len; simp [wd]; lia
  subst hnum
  have v0' := v0
  have v1' := v1
  rw [← hq] at v0' v1'
  refine ConF.opened ?_
  k_fill
  intro rest p loose mean mg mb cn cs a' ccd cl L outer A₀ base' h₀ m sh sg sd so sk Q E B F X N T hk' hap hret
  walk_at "mine open R"
  k_steps
  refine Rev.src rfl (by k_asm) (by with_reducible assumption) (by with_reducible assumption) hx fun g' => ?_
  have esz : (S (wd ds)).cps.size = ds.length := by simp [wd]
  refine rest_map (R := fun i y => ∃ u, y = .int ((ds.getD (ds.length - 1 - i) 0 : Nat) : Int) u) trivial ?_ ?_
  · intro i ys v I oI C oC D m₂ h tk E' hi hP hC hx F1 N1 off ne
    obtain ⟨c, u, hc, rfl⟩ := hP
    rw [esz] at hi hc
    rw [wd_get ds _ (by lia)] at hc
    cases hc
    have hlt : ds.getD (ds.length - 1 - i) 0 < 16 := by
      have h9 : ds.length - 1 - i < ds.length := by lia
      exact hd.lt _ (by simp [h9])
    k_steps
    exact ⟨_, _, rfl, by assumption, by assumption, _, rfl⟩
  · intro ys ha
    rw [esz] at ha
    have hia : IntsAre ys ((ds.map fun d : Nat => (d : Int)).reverse) := by
      have h1 := intsAre_of (f := fun i => ((ds.getD (ds.length - 1 - i) 0 : Nat) : Int)) ha
      rw [map_range_rev (fun d : Nat => (d : Int))] at h1
      exact h1
    clear ha
    have hnib : ∀ x ∈ ((ds.map fun d : Nat => (d : Int)).reverse), 0 ≤ x ∧ x < 16 := fun x hx => by
      simp only [List.mem_reverse, List.mem_map] at hx
      obtain ⟨d, hdm, rfl⟩ := hx
      have := hd.lt d hdm
      lia
    have hl3 : ((ds.map fun d : Nat => (d : Int)).reverse).length ≤ 3 := by simpa using hd.len
    k_steps
    rw [hq]
    rename Dig.Tab _ => T8
    rename News h₀ L _ (_ :: _ :: _) => N7
    exact hret _ _ _ _ ⟨_, rfl, apart2 (by assumption) (by assumption), T8, _, rfl⟩ (by assumption)
      (Mine.News.both (News.sub N7 (fun p hp => .tail _ (.tail _ hp))) (by assumption))

theorem pow3_lt (e : Nat) (he : e ≤ 2899) : (3 : Int) ^ e < 2 ^ 4600 := by
  have h1 : (3 : Nat) ^ e ≤ 3 ^ 2899 := Nat.pow_le_pow_right (by decide) he
  have h2 : (3 : Nat) ^ 2899 < 2 ^ 4600 := by decide +kernel
  have h3 : ((3 ^ e : Nat) : Int) = 3 ^ e := by simp
  have h4 := kbt_cast 4600
  lia
theorem log_lt {x : Int} {k : Nat} (h0 : 0 < x) (h : x < 2 ^ k) : x.natAbs.log2 < k := by
  have h1 : x.natAbs < 2 ^ k := by have := kbt_cast k; lia
  exact (Nat.log2_lt (by lia)).mpr h1
theorem bits_eq {b : Int} (hb : 0 < b) : ∀ n : Nat, Builtin.Int.intBits b = n → 2 ^ n ≤ 2 * b ∧ b < 2 ^ n ∧ 1 ≤ n := fun n hn => by
  have hne : b.natAbs ≠ 0 := by lia
  have h1 : n = b.natAbs.log2 + 1 := by
    rw [← hn]; unfold Builtin.Int.intBits
    rw [if_neg (by simp; lia)]
  have h2 := Nat.log2_self_le hne
  have h3 : b.natAbs < 2 ^ (b.natAbs.log2 + 1) := Nat.lt_log2_self
  have h4 := kbt_cast n
  rw [h1] at h4 ⊢
  rw [Nat.pow_succ] at h4 h3
  lia
/-- `_law_next` as the law calls it -/
theorem next {w : World} {ds : List Nat} {step base unit far below num : Int} {e : Nat} {tabs : Led} {t1 t2 t3 t4 t5 t6 : Tok} (hd : Ok ds) (T9 : Dig.Tab tabs)
    (hnum : Dig.dval ((ds.map fun d : Nat => (d : Int)).reverse) = num) (hb : 5 ≤ base) (hb' : base ≤ 1801) (hu : unit = 3 ^ e) (he : 2600 ≤ e) (he' : e ≤ 2899)
    (n0 : 0 ≤ num) (n1 : num < base) (s0 : 1 ≤ step) (s1 : step < base) (b0 : 0 ≤ below) (b1 : below < unit) (f0 : 0 ≤ far) (f1 : far ≤ 2 ^ (Builtin.Int.intBits (base * unit)) - 2) :
    ConF w 3 (call (.ref 233) [.str (S (wd ds)) t1, .int step t2, .int base t3, .int unit t4, .int far t5, .int below t6]) tabs
      (fun v own' => Dig.Tab own' ∧ ∃ t, v = .str (S (wd (dg ((num + step) % base).toNat))) t) := by
  have u0 : 0 < unit := by rw [hu]; exact pow_pos_of (by decide) e
  have u1 : unit < 2 ^ 4600 := by rw [hu]; exact pow3_lt e he'
  have hB0 : 0 < base * unit := Int.mul_pos (by lia) u0
  obtain ⟨k1, k2, k3⟩ := bits_eq hB0 _ rfl
  have hBu : base * unit < 2 ^ 4612 := by
    have h1 : base * unit ≤ 1801 * unit := Int.mul_le_mul_of_nonneg_right hb' (by lia)
    have h2 : (2 : Int) ^ 4612 = 4096 * 2 ^ 4600 := by rw [show 4612 = 12 + 4600 from rfl, Div.p2_add]; rfl
    lia
  have hBn : Builtin.Int.intBits (base * unit) ≤ 4612 := Div.bits_le (by lia) hBu
  have hfar : far < 2 ^ 4612 := by
    have h1 := Div.p2_le hBn
    lia
  have bf : Builtin.Int.intBits far ≤ 4612 := Div.bits_le f0 hfar
  have bb : Builtin.Int.intBits base ≤ 11 := Div.bits_le (by lia) (by have : (2 : Int) ^ 11 = 2048 := rfl; lia)
  have bu : Builtin.Int.intBits unit ≤ 4600 := Div.bits_le (by lia) u1
  have bn : Builtin.Int.intBits (num + step) ≤ 12 := Div.bits_le (by lia) (by have : (2 : Int) ^ 12 = 4096 := rfl; lia)
  have bfb := intBits_mul_le bf bb
  have bs := intBits_add_le bfb bn
  have hm0 := Int.emod_nonneg (num + step) (show base ≠ 0 by lia)
  have hm1 := Int.emod_lt_of_pos (num + step) (show 0 < base by lia)
  have bm : Builtin.Int.intBits ((num + step) % base) ≤ 11 := Div.bits_le hm0 (by have : (2 : Int) ^ 11 = 2048 := rfl; lia)
  have hd0 : 0 ≤ (num + step) / base := Int.ediv_nonneg (by lia) (by lia)
  have hdm := Int.mul_ediv_add_emod (num + step) base
  have hfb : 0 ≤ far * base := Int.mul_nonneg f0 (by lia)
  have hr0 : 0 ≤ (num + step) % base * unit + below := Int.add_nonneg (Int.mul_nonneg hm0 (by lia)) b0
  have hr1 : (num + step) % base * unit + below < base * unit := by
    have h1 := Int.mul_le_mul_of_nonneg_right (c := unit) (show (num + step) % base + 1 ≤ base by lia) (by lia)
    rw [Int.add_mul, Int.one_mul] at h1
    lia
  refine next0 hd T9 hnum (by lia) u0 (IntMulOk.of_le bf bb (by decide)) (IntMulOk.of_le bs bu (by decide)) (IntMulOk.of_le bb bu (by decide)) (IntMulOk.of_le bm bu (by decide))
    (Nat.lt_of_lt_of_le (log_lt (k := 11) (by lia) (by have : (2 : Int) ^ 11 = 2048 := rfl; lia)) (by decide)) (Nat.lt_of_lt_of_le (log_lt u0 u1) (by decide)) ?_ ?_ hm0 (by lia)
  · refine ⟨?_, by lia, by rw [Int.toNat_natCast]; exact k1, by rw [Int.toNat_natCast]; exact k2, Int.add_nonneg (Int.mul_nonneg (by lia) (by lia)) b0, ?_, ?_, hr0, hr1⟩
    · rcases Nat.lt_or_ge 1 (Builtin.Int.intBits (base * unit)) with h | h
      · lia
      · have h9 : Builtin.Int.intBits (base * unit) = 1 := by lia
        rw [h9] at k2
        have : (5 : Int) * unit ≤ base * unit := Int.mul_le_mul_of_nonneg_right hb (by lia)
        have : (2 : Int) ^ 1 = 2 := rfl
        lia
    · rw [Int.toNat_natCast]
      have h1 : far * base ≤ (2 ^ (Builtin.Int.intBits (base * unit)) - 2) * base := Int.mul_le_mul_of_nonneg_right f1 (by lia)
      rw [Int.sub_mul] at h1
      have h2 : (far * base + (num + step) + 1) * unit ≤ (2 ^ (Builtin.Int.intBits (base * unit)) * base) * unit := Int.mul_le_mul_of_nonneg_right (by lia) (by lia)
      rw [Int.add_mul, Int.one_mul, Int.mul_assoc (2 ^ _) base unit] at h2
      lia
    · have e1 : (far + (num + step) / base) * (base * unit) = far * base * unit + base * ((num + step) / base) * unit := by
        rw [Int.add_mul, ← Int.mul_assoc, ← Int.mul_assoc, Int.mul_comm ((num + step) / base) base]
      have e2 : (far * base + (num + step)) * unit = far * base * unit + (base * ((num + step) / base) * unit + (num + step) % base * unit) := by
        rw [Int.add_mul, ← Int.add_mul (base * ((num + step) / base)) ((num + step) % base) unit, hdm]
      lia
  · rw [Int.mul_comm, Int.add_comm, Int.add_mul_ediv_left _ _ (by lia), Int.ediv_eq_zero_of_lt b0 b1]; lia

end Mine.Nx
end
section
theorem Mine.resetRe : True := by
  k_with_none
  w_top off
  trivial
open PySem PySem.Spec PySem.Calls PySem.W PyProof.Rows PySem.Builtin PySem.Builtin.Re
open Sem (wp)
set_option maxRecDepth 100000
namespace Mine.Re

section
variable {M : Model} {prog : Program} {w : World} {A : Around} {E : Value → Shared → Prop} {s : Shared}
theorem rules_only {Q : PUnit → Shared → Prop} (c : Nat → Bool) (f : Nat → String) : ∀ l : List Nat, Q ⟨⟩ s →
    wpAny M A (forIn l PUnit.unit fun i _ => if c i = true then (do rule (f i); pure (ForInStep.yield PUnit.unit)) else pure (ForInStep.yield PUnit.unit)) Q E s
  | [], h => wpAny_pure h
  | i :: r, h => by
    rw [List.forIn_cons]
    refine wpAny_bind ?_
    by_cases hc : c i = true
    · rw [if_pos hc]
      exact wpAny_bind (wpAny_rule (wpAny_pure (rules_only c f r h)))
    · rw [if_neg hc]
      exact wpAny_pure (rules_only c f r h)

theorem run_fail {m : Sre.M} (h1 : m.answer = some false) (h2 : m.frames = []) (h3 : m.outcome = none) {Q : Option Sre.M → Shared → Prop} (h : Q none s) :
    wpAny M A (reRunToEnd m) Q E s := by
  have e1 : m.runFor reTurnSteps = { m with outcome := some .failed } := by
    have e : m.step = { m with outcome := some .failed } := by
      unfold Sre.M.step
      rw [h3, h1, h2]; rfl
    show Sre.M.runFor 4 m = _
    unfold Sre.M.runFor
    rw [h3, e]
    rfl
  have e2 : reDrive (2 ^ 64) m = pure { m with outcome := some .failed } := by
    have : (2 ^ 64 : Nat) = (2 ^ 64 - 1) + 1 := by decide
    rw [this]
    unfold reDrive
    rw [e1]; rfl
  unfold reRunToEnd
  rw [e2]
  refine wpAny_bind (wpAny_pure ?_)
  dsimp only
  exact wpAny_bind (rules_only (fun i => m.seen.has i) (fun i => Sre.names.getD i "") _ (wpAny_pure h))
end

abbrev nameCode : Array Nat := #[14, 10, 4, 1, 1, 22, 0, 31, 16, 127, 0, 13, 7, 22, 0, 31, 16, 127, 0, 1]
abbrev valueCode : Array Nat := #[14, 14, 4, 1, 1, 9, 4294966783, 0, 0, 2147483648, 0, 0, 0, 0, 0, 13, 11, 9, 4294966783, 0, 0, 2147483648, 0, 0, 0, 0, 0, 1]
/-- signs that neither pattern finds -/
def Fine (c : Nat) : Prop := (32 ≤ c ∧ c < 127)
def FineV (c : Nat) : Prop := (32 ≤ c ∧ c < 127) ∨ c = 9

theorem in_name {c : Nat} (h : Fine c) (seen : Sre.Seen) : ∃ seen', Sre.inSet nameCode c nameCode.size 5 true seen = .ok (false, seen') := by
  have e1 : ¬ c ≤ 31 := by unfold Fine at h; lia
  have e2 : c ≠ 127 := by unfold Fine at h; lia
  refine ⟨((seen.add 22).add 16).add 0, ?_⟩
  show Sre.inSet nameCode c 20 5 true seen = _
  simp [Sre.inSet, Sre.ops, nameCode, e1, e2]
theorem in_value {c : Nat} (h : FineV c) (seen : Sre.Seen) : ∃ seen', Sre.inSet valueCode c valueCode.size 5 true seen = .ok (false, seen') := by
  have e1 : (decide (c < 256) && (valueCode.getD (5 + (1 + c / 32)) 0).testBit (c % 32)) = false := by
    have key : ∀ d : Fin 127, ((32 ≤ d.val) ∨ d.val = 9) → (decide (d.val < 256) && (valueCode.getD (5 + (1 + d.val / 32)) 0).testBit (d.val % 32)) = false := by decide +kernel
    have hc : c < 127 := by unfold FineV at h; lia
    exact key ⟨c, hc⟩ (by unfold FineV at h; show 32 ≤ c ∨ c = 9; lia)
  refine ⟨(seen.add 9).add 0, ?_⟩
  have step : Sre.inSet valueCode c 28 5 true seen = (if (decide (c < 256) && (valueCode.getD (5 + (1 + c / 32)) 0).testBit (c % 32)) = true then .ok (true, seen.add 9) else Sre.inSet valueCode c 27 14 true (seen.add 9)) := rfl
  show Sre.inSet valueCode c 28 5 true seen = _
  rw [step, e1, if_neg Bool.false_ne_true]
  rfl

/-- a code with a first set that none of the text's signs is in -/
theorem admitted_none {m : Sre.M} (hin : ∀ i, i < m.lim → ∀ seen, ∃ seen', Sre.inSet m.code (m.text.getD i 0) m.code.size 5 true seen = .ok (false, seen')) :
    ∀ fuel i seen, ∃ seen', m.admitted fuel i seen = .ok (none, seen')
  | 0, _, seen => ⟨seen, rfl⟩
  | fuel + 1, i, seen => by
    unfold Sre.M.admitted
    by_cases hi : i ≥ m.lim
    · rw [if_pos hi]; exact ⟨_, rfl⟩
    · rw [if_neg hi]
      obtain ⟨s1, e1⟩ := hin i (by lia) seen
      rw [e1]
      exact admitted_none hin fuel (i + 1) s1

structure Fails (m : Sre.M) : Prop where
  ans : m.answer = some false
  frames : m.frames = []
  out : m.outcome = none

theorem attempt_fails {m : Sre.M} (hfs : m.hasFirstSet = true) (hf : m.frames = []) (ho : m.outcome = none)
    (hin : ∀ i, i < m.lim → ∀ seen, ∃ seen', Sre.inSet m.code (m.text.getD i 0) m.code.size 5 true seen = .ok (false, seen')) : Fails (m.attemptFrom 0 true) := by
  unfold Sre.M.attemptFrom
  rw [hfs]
  obtain ⟨s', e⟩ := admitted_none hin (m.lim + 1 - 0) 0 m.seen
  rw [e]
  exact ⟨rfl, hf, ho⟩
theorem search_fails {code text : Array Nat} (hf : ∀ m : Sre.M, m.code = code → m.hasFirstSet = true)
    (hin : ∀ i, i < text.size → ∀ seen, ∃ seen', Sre.inSet code (text.getD i 0) code.size 5 true seen = .ok (false, seen')) :
    Fails (Sre.forSearch code text 0 0 text.size false) := by
  unfold Sre.forSearch
  dsimp only
  split
  · exact ⟨rfl, rfl, rfl⟩
  · exact attempt_fails (hf _ rfl) rfl rfl hin
theorem name_fails {x : List Nat} (h : ∀ c ∈ x, Fine c) : Fails (Sre.forSearch nameCode x.toArray 0 0 x.toArray.size false) := by
  refine search_fails (fun m hm => ?_) fun i hi seen => ?_
  · unfold Sre.M.hasFirstSet; rw [hm]; rfl
  · have hi' : i < x.length := by simpa using hi
    have e : x.toArray.getD i 0 = x[i] := by simp [hi']
    rw [e]; exact in_name (h _ (List.getElem_mem hi')) seen
theorem value_fails {x : List Nat} (h : ∀ c ∈ x, FineV c) : Fails (Sre.forSearch valueCode x.toArray 0 0 x.toArray.size false) := by
  refine search_fails (fun m hm => ?_) fun i hi seen => ?_
  · unfold Sre.M.hasFirstSet; rw [hm]; rfl
  · have hi' : i < x.length := by simpa using hi
    have e : x.toArray.getD i 0 = x[i] := by simp [hi']
    rw [e]; exact in_value (h _ (List.getElem_mem hi')) seen

theorem slot_search : Slot "re.Pattern" "search" "re.Pattern.search" :=
  .of (owner := "re.Pattern") (n := "search") (by rw [typeLookup_type, builtinLookup_eq_fast]; kernel_rfl) (by decide +kernel) (by decide +kernel) (by decide +kernel)
    (by first | exact .inl (by decide +kernel) | exact .inr (by decide +kernel)) (by rw [isSubtype_type]; kernel_rfl)
theorem entry_search : entryFor table "re.Pattern.search" = some Builtin.«re.Pattern.search» := entryFor_of_tree (by kernel_rfl)
theorem args_search (a b : Value) : argsOk "re.Pattern.search" ⟨[a, b], []⟩ := by unfold argsOk; kernel_rfl
theorem type_search : typeOf (.builtin "re.Pattern.search") = pure (.type "method_descriptor") := by show builtinType _ = _; rw [builtinType_eq_fast]; kernel_rfl
theorem plain_pattern : PlainAttrs "re.Pattern" :=
  ⟨⟨"object.__getattribute__", by rw [typeLookup_type, builtinLookup_eq_fast]; kernel_rfl, by decide +kernel⟩, by rw [typeLookup_type, builtinLookup_eq_fast]; kernel_rfl⟩

section
variable {prog : Program} {w : World} {A : Around} {E : Value → Shared → Prop} {s : Shared} {Q : Value → Shared → Prop}
theorem call_search {P C : Addr} {oP oC : Obj} {fs cs : Array Value} {n : Nat} {code : Array Nat} {x : List Nat} {t : Tok} (hP : s.heap.get? P = some oP) (hc : oP.cls = .type "re.Pattern") (hd : oP.data = .fields fs)
    (h5 : fs.getD 5 .none = .ref C) (hC : s.heap.get? C = some oC) (hdC : oC.data = .seq cs n) (hcode : (cs.map reRawOf).map (·.toNat) = code) (h2 : reRawNat (fs.getD 2 .none) = 0) (h6 : reRawNat (fs.getD 6 .none) = 0)
    (hf : Fails (Sre.forSearch code x.toArray 0 0 x.toArray.size false)) (hx : x.length ≤ 1000) (h : Q .none s) :
    wpAny (model prog w) A (call (.builtin "re.Pattern.search") [.ref P, .str (S x) t]) Q E s := by
  refine wpAny_call_entry slot_search ⟨oP, hP, hc⟩ entry_search ?_ (args_search _ _)
  unfold Builtin.«re.Pattern.search» reTarget
  refine wpAny_bind (wpAny_bind (wpAny_of_eq (a := [some (.str (S x) t), none, none]) (by first | rfl | kernel_rfl) ?_))
  dsimp only
  refine wpAny_bind (wpAny_pure ?_)
  refine wpAny_bind (wpAny_pure ?_)
  refine wpAny_bind (wpAny_fieldsOf hP hd ?_)
  refine wpAny_bind (wpAny_of_eq (a := (x.toArray, 0)) (by first | rfl | kernel_rfl) ?_)
  rw [h6, h5, h2]
  simp only [show ((0 : Nat) == 1) = false from rfl, show ((0 : Nat) == 0) = true from rfl, Bool.true_and, Bool.and_true, Bool.false_and, Bool.false_eq_true, if_false]
  refine wpAny_bind (wpAny_of_eq (a := ()) (by first | rfl | kernel_rfl) ?_)
  unfold reRawItems
  refine wpAny_bind (wpAny_bind (wpAny_seqItems hC hdC (wpAny_pure ?_)))
  refine wpAny_pure ?_
  dsimp only
  have e1 : Min.min (2 ^ 63 - 1 : Int).toNat x.toArray.size = x.toArray.size := by
    have : (2 ^ 63 - 1 : Int).toNat = 9223372036854775807 := rfl
    rw [this]
    exact Nat.min_eq_right (by simp; lia)
  have e0 : Min.min (0 : Int).toNat x.toArray.size = 0 := Nat.min_eq_left (Nat.zero_le _)
  rw [e0]
  simp only [Option.getD_some]
  rw [hcode, e1]
  unfold reAnswer
  exact wpAny_bind (run_fail hf.ans hf.frames hf.out (wpAny_pure ⟨_, rfl, h⟩))
theorem method {P : Addr} {oP : Obj} {pl : Sem Bool} {Q : Value × List Value → Shared → Prop} (hP : s.heap.get? P = some oP) (hc : oP.cls = .type "re.Pattern") (hdict : oP.dict = none)
    (h : Q (.builtin "re.Pattern.search", [.ref P]) s) : wpAny (model prog w) A (getMethod (.ref P) "search" pl) Q E s :=
  getMethod_builtin ⟨oP, hP, hc⟩ plain_pattern slot_search type_search (fun a e => by cases e; exact ⟨oP, hP, hdict⟩) h
end
end Mine.Re
end
section
open PySem PySem.W PyProof.Rows PySem.Builtin.Int
open PyProof.Rows.LCg Mine.LC
namespace Mine.Cv
theorem lines25 : True := by
  k_with_none
  w_top off
  k_with "execs cons" => (((try dsimp only); refine toks_any ?_; intro _))
  k_with "k_enter" => (case zzfresh => (refine' code_def ?zzk1 ?zzk2 ?zzk3 ?zzk4 ?zzk5 ?zzkA ?zzkF ?zzkK ?zzk6 ?zzk7 ?zzk8 ?zzk9 ?zzkB ?_ ?zzc2 ?zzc3 ?zzc4 ?zzc5; (case zzkA => exact rfl); (case zzkF => exact rfl); (case zzkK => first | exact rfl | assumption); (case zzk1 => k_asm); (case zzk2 => k_asm); (case zzk3 => k_asm); (case zzk4 => k_asm); (case zzk5 => k_asm); (case zzk6 => k_is); (case zzk7 => k_is); (case zzk8 => k_room); (case zzk9 => first | exact BindsTo.of_eq rfl | exact binds_K (by k_in) rfl (by k_is) rfl rfl rfl | (refine kp_binds (by k_in) ?_; exact fun _ => rfl) | fail "k_enter: no rule for these arguments"); (case zzc5 => decide); (case zzkB => exact locs rfl); (case zzc2 => exact rfl); (case zzc3 => exact rfl); (case zzc4 => exact rfl); k_whole; intro zzg' zzL' zzh' zzFG' zzF' zzN' zzB' zzX' zzT'; (try dsimp only); (try k_lift zzB'); (try k_fold)))
  k_with "k_enter" => (case zzfresh => (refine' code_defC ?zzk1 ?zzk2 ?zzk3 ?zzk4 ?zzk5 ?zzkA ?zzkF ?zzkK ?zzk6 ?zzk7 ?zzk8 ?zzk9 ?zzkB ?zzkD ?_ ?zzc2 ?zzc3 ?zzc4; (case zzkA => exact rfl); (case zzkF => exact rfl); (case zzkK => first | exact rfl | assumption); (case zzk1 => k_asm); (case zzk2 => k_asm); (case zzk3 => k_asm); (case zzk4 => k_asm); (case zzk5 => k_asm); (case zzk6 => k_is); (case zzk7 => k_is); (case zzk8 => k_room); (case zzk9 => first | exact BindsTo.of_eq rfl | exact binds_K (by k_in) rfl (by k_is) rfl rfl rfl | (refine kp_binds (by k_in) ?_; exact fun _ => rfl) | fail "k_enter: no rule for these arguments"); (case zzkB => exact rfl); (case zzkD => decide +kernel); (case zzc2 => exact rfl); (case zzc3 => exact rfl); (case zzc4 => exact rfl); k_whole; intro zzg' zzL' zzh' zztk' zzcells' zzFG' zzF' zzN' zzY' zzB' zzX' zzT' zzl1; (try k_lt zzl1); k_cells zzY'; (try simp only [List.cons_append, List.nil_append] at zzN'); (try dsimp only); (try k_lift zzB'); (try k_fold)))
  k_with "mine open" => ((refine wpAny_call ?_; k_dflt (first | k_enter | kc_enter)))
  k_with "mine open R" => (case zzfresh => (refine wpAny_call ?_; k_dflt (refine' code_defR ?zzk1 ?zzk2 ?zzk3 ?zzk4 ?zzkD ?zzk5 ?zzkA ?zzkF ?zzkK ?zzk6 ?zzk7 ?zzk8 ?zzk9 ?zzkB ?_ ?zzc2 ?zzc3 ?zzc4 ?zzc5; (case zzkA => exact rfl); (case zzkF => exact rfl); (case zzkK => first | exact rfl | assumption); (case zzk1 => k_asm); (case zzk2 => k_asm); (case zzk3 => k_asm); (case zzk4 => with_reducible assumption); (case zzkD => with_reducible assumption); (case zzk5 => k_asm); (case zzk6 => k_is); (case zzk7 => k_is); (case zzk8 => k_room); (case zzk9 => first | exact BindsTo.of_eq rfl | exact binds_K (by k_in) rfl (by k_is) rfl rfl rfl | (refine kp_binds (by k_in) ?_; exact fun _ => rfl) | fail "k_enter: no rule for these arguments"); (case zzc5 => decide); (case zzkB => exact locs rfl); (case zzc2 => exact rfl); (case zzc3 => exact rfl); (case zzc4 => exact rfl)); k_whole; intro zzg' zzL' zzh' zzFG' zzF' zzN' zzB' zzX' zzT' zzS'; (try dsimp only); (try k_lift zzB'); (try k_fold)))
  k_with "mine open CR" => (case zzfresh => (refine wpAny_call ?_; k_dflt (refine' code_defCR ?zzk1 ?zzk2 ?zzk3 ?zzk4 ?zzkR ?zzk5 ?zzkA ?zzkF ?zzkK ?zzk6 ?zzk7 ?zzk8 ?zzk9 ?zzkB ?zzkD ?_ ?zzc2 ?zzc3 ?zzc4; (case zzkA => exact rfl); (case zzkF => exact rfl); (case zzkK => first | exact rfl | assumption); (case zzk1 => k_asm); (case zzk2 => k_asm); (case zzk3 => k_asm); (case zzk4 => with_reducible assumption); (case zzkR => with_reducible assumption); (case zzk5 => k_asm); (case zzk6 => k_is); (case zzk7 => k_is); (case zzk8 => k_room); (case zzk9 => first | exact BindsTo.of_eq rfl | exact binds_K (by k_in) rfl (by k_is) rfl rfl rfl | (refine kp_binds (by k_in) ?_; exact fun _ => rfl) | fail "k_enter: no rule for these arguments"); (case zzkB => exact rfl); (case zzkD => decide +kernel); (case zzc2 => exact rfl); (case zzc3 => exact rfl); (case zzc4 => exact rfl)); k_whole; intro zzg' zzL' zzh' zztk' zzcells' zzFG' zzF' zzN' zzY' zzB' zzX' zzT' zzl1 zzS'; (try k_lt zzl1); k_cells zzY'; (try simp only [List.cons_append, List.nil_append] at zzN'); (try dsimp only); (try k_lift zzB'); (try k_fold)))
  k_with "mine open CR0" => (case zzfresh => (refine wpAny_call ?_; k_dflt (refine' code_defCR (own := []) ?zzk1 ?zzk2 ?zzk3 ?zzk4 ?zzkR ?zzk5 ?zzkA ?zzkF ?zzkK ?zzk6 ?zzk7 ?zzk8 ?zzk9 ?zzkB ?zzkD ?_ ?zzc2 ?zzc3 ?zzc4; (case zzkA => exact rfl); (case zzkF => exact rfl); (case zzkK => first | exact rfl | assumption); (case zzk1 => k_asm); (case zzk2 => k_asm); (case zzk3 => k_asm); (case zzk4 => k_asm); (case zzkR => exact Apart.zero); (case zzk5 => k_asm); (case zzk6 => k_is); (case zzk7 => k_is); (case zzk8 => k_room); (case zzk9 => first | exact BindsTo.of_eq rfl | exact binds_K (by k_in) rfl (by k_is) rfl rfl rfl | (refine kp_binds (by k_in) ?_; exact fun _ => rfl) | fail "k_enter: no rule for these arguments"); (case zzkB => exact rfl); (case zzkD => decide +kernel); (case zzc2 => exact rfl); (case zzc3 => exact rfl); (case zzc4 => exact rfl)); k_whole; intro zzg' zzL' zzh' zztk' zzcells' zzFG' zzF' zzN' zzY' zzB' zzX' zzT' zzl1 zzS'; clear zzl1; k_cells zzY'; (try simp only [List.cons_append, List.nil_append, List.append_nil] at zzN'); (try dsimp only); (try k_lift zzB'); (try k_fold)))
  k_with "mine open R0" => (case zzfresh => (refine wpAny_call ?_; k_dflt (refine' code_defR (own := []) ?zzk1 ?zzk2 ?zzk3 ?zzk4 ?zzkD ?zzk5 ?zzkA ?zzkF ?zzkK ?zzk6 ?zzk7 ?zzk8 ?zzk9 ?zzkB ?_ ?zzc2 ?zzc3 ?zzc4 ?zzc5; (case zzkA => exact rfl); (case zzkF => exact rfl); (case zzkK => first | exact rfl | assumption); (case zzk1 => k_asm); (case zzk2 => k_asm); (case zzk3 => k_asm); (case zzk4 => k_asm); (case zzkD => exact Apart.zero); (case zzk5 => k_asm); (case zzk6 => k_is); (case zzk7 => k_is); (case zzk8 => k_room); (case zzk9 => first | exact BindsTo.of_eq rfl | exact binds_K (by k_in) rfl (by k_is) rfl rfl rfl | (refine kp_binds (by k_in) ?_; exact fun _ => rfl) | fail "k_enter: no rule for these arguments"); (case zzc5 => decide); (case zzkB => exact locs rfl); (case zzc2 => exact rfl); (case zzc3 => exact rfl); (case zzc4 => exact rfl)); k_whole; intro zzg' zzL' zzh' zzFG' zzF' zzN' zzB' zzX' zzT' zzS'; (try dsimp only); (try k_lift zzB'); (try k_fold)))
  k_with "exec Assign cons ListComp" => ((k_here; (with_reducible show wpAny _ _ (exec (Stmt.Assign [Expr.Name _ _] (Expr.ListComp _ [Comprehension.mk (Expr.Name _ _) _ [] _] _ _) _) _) _ _ _); k_dflt (refine assign_M (F₀ := by k_asm) (by rfl) (by with_unfolding_all rfl) (by with_unfolding_all rfl) (by decide) (by rfl) (by decide) (by rfl) (by rfl) (by rfl) ?_)))
  k_with "exec Assign cons ListComp" => ((k_here; (with_reducible show wpAny _ _ (exec (Stmt.Assign [Expr.Name _ _] (Expr.ListComp _ [Comprehension.mk (Expr.Name _ _) _ [_] _] _ _) _) _) _ _ _); k_dflt (refine assign_MT (F₀ := by k_asm) (by rfl) (by with_unfolding_all rfl) (by with_unfolding_all rfl) (by decide) (by rfl) (by decide) (by rfl) (by rfl) (by rfl) ?_)))
  k_with "eval ListComp" => ((k_here; (with_reducible show wpAny _ _ (eval (Expr.ListComp _ [Comprehension.mk (Expr.Name _ _) _ [] _] _ _) _) _ _ _); k_dflt (refine comp_M (F₀ := by k_asm) (by with_unfolding_all rfl) (by decide) (by rfl) (by decide) (by rfl) ?_)))
  k_with "eval ListComp" => ((k_here; (with_reducible show wpAny _ _ (eval (Expr.ListComp _ [Comprehension.mk (Expr.Name _ _) _ [_] _] _ _) _) _ _ _); k_dflt (refine comp_MT (F₀ := by k_asm) (by with_unfolding_all rfl) (by decide) (by rfl) (by decide) (by rfl) ?_)))
  trivial
open PySem.Calls PySem.Builtin.Re
section
variable {prog : Program} {w : World} {A : Around} {E : Value → Shared → Prop} {s : Shared} {K : Frag} {h₀ : Heap} {L : Addr} {m : Str → Option Value}
theorem method_K {P : Addr} {fs : Array Value} {sl : Array (Option Value)} {pl : Sem Bool} {Q : Value × List Value → Shared → Prop} (F : Fr h₀ L s.heap m) (X₀ : K.In h₀)
    (e : K.lookup P = some ⟨.type "re.Pattern", none, .fields fs, sl⟩) (h : Q (.builtin "re.Pattern.search", [.ref P]) s) : wpAny (model prog w) A (getMethod (.ref P) "search" pl) Q E s :=
  Re.method ((X₀.keeps F.keep) _ _ e) rfl rfl h
theorem search_K {P C : Addr} {fs cs : Array Value} {sl sl' : Array (Option Value)} {n : Nat} {oc : Value} {od : Option Addr} {code : Array Nat} {x : List Nat} {t : Tok} {Q : Value → Shared → Prop} (F : Fr h₀ L s.heap m) (X₀ : K.In h₀)
    (e : K.lookup P = some ⟨.type "re.Pattern", none, .fields fs, sl⟩) (h5 : fs.getD 5 .none = .ref C) (e2 : K.lookup C = some ⟨oc, od, .seq cs n, sl'⟩)
    (hcode : (cs.map reRawOf).map (·.toNat) = code) (h2 : reRawNat (fs.getD 2 .none) = 0) (h6 : reRawNat (fs.getD 6 .none) = 0)
    (hf : Re.Fails (Sre.forSearch code x.toArray 0 0 x.toArray.size false)) (hx : x.length ≤ 1000) (h : Q .none s) :
    wpAny (model prog w) A (call (.builtin "re.Pattern.search") [.ref P, .str (S x) t]) Q E s :=
  Re.call_search ((X₀.keeps F.keep) _ _ e) rfl rfl h5 ((X₀.keeps F.keep) _ _ e2) rfl hcode h2 h6 hf hx h
end
theorem lines26 : True := by
  k_with "getMethod ref" => ((k_here; k_dflt (refine method_K (by k_asm) (by k_asm) (by k_is) ?_)))
  k_with "call builtin:re.Pattern.search" => ((k_here; (with_reducible show wpAny _ _ (call _ [Value.ref 79, _]) _ _ _); k_dflt (refine search_K (code := Re.nameCode) (by k_asm) (by k_asm) (by k_is) (by rfl) (by k_is) (by decide +kernel) (by rfl) (by rfl) (by with_reducible assumption) (by with_reducible assumption) ?_)))
  k_with "call builtin:re.Pattern.search" => ((k_here; (with_reducible show wpAny _ _ (call _ [Value.ref 84, _]) _ _ _); k_dflt (refine search_K (code := Re.valueCode) (by k_asm) (by k_asm) (by k_is) (by rfl) (by k_is) (by decide +kernel) (by rfl) (by rfl) (by with_reducible assumption) (by with_reducible assumption) ?_)))
  trivial
set_option maxRecDepth 100000 in
set_option maxHeartbeats 8000000 in
theorem convN {w : World} {B : Addr} {x : List Nat} {t : Tok} (hx : ∀ c ∈ x, Re.Fine c) (hl : x.length ≤ 1000) :
    ConF w 0 (call (.ref 106) [.ref B, .str (S x) t] [(Str.ofString "name", .bool true)]) [] (fun v own' => own' = [] ∧ v = .str (S x) t) := by
  have hf := Re.name_fails hx
  refine ConF.opened ?_
  k_fill
  intro rest p loose mean mg mb cn cs a' ccd cl L outer A₀ base' h₀ m sh sg sd so sk Q E B' F X N T hk' hap hret
  walk_at "mine open R0"
  k_steps
  exact hret _ _ _ _ ⟨[], rfl, Apart.zero, rfl, rfl⟩ (by assumption) (by assumption)

set_option maxRecDepth 100000 in
set_option maxHeartbeats 8000000 in
theorem convV {w : World} {B : Addr} {x : List Nat} {t : Tok} (hx : ∀ c ∈ x, Re.FineV c) (hl : x.length ≤ 1000) :
    ConF w 0 (call (.ref 106) [.ref B, .str (S x) t] [(Str.ofString "name", .bool false)]) [] (fun v own' => own' = [] ∧ v = .str (S x) t) := by
  have hf := Re.value_fails hx
  refine ConF.opened ?_
  k_fill
  intro rest p loose mean mg mb cn cs a' ccd cl L outer A₀ base' h₀ m sh sg sd so sk Q E B' F X N T hk' hap hret
  walk_at "mine open R0"
  k_steps
  exact hret _ _ _ _ ⟨[], rfl, Apart.zero, rfl, rfl⟩ (by assumption) (by assumption)

end Mine.Cv
end
section
theorem Mine.resetNest : True := by
  k_with_none
  w_top off
  trivial
open PySem PySem.Spec PySem.Calls PySem.W PyProof.Rows PyProof.Rows.LCg
namespace Mine.Nest
theorem turn0 (elt t1 it1 t2 it2 ct : Expr) (scope : Scope) (pos : Pos) (it acc : Value) (env : Env) :
    compTurn (.ListComp elt [⟨t1, it1, [], 0⟩, ⟨t2, it2, [ct], 0⟩] scope pos) 0 it acc env = (standAt it1.pos >>= fun _ => pyNext it >>= fun r => match r with
      | none => pure (.done .next)
      | some v => letOwnedTupleGo t1 it v >>= fun _ => assign t1 env v >>= fun _ =>
        (eval it2 env >>= fun x => standAt it2.pos >>= fun _ => foldedSetIterable it2 env x >>= fun x => holding [x] (pyIter x) >>= fun y => runOwn (.compStart (.ListComp elt [⟨t1, it1, [], 0⟩, ⟨t2, it2, [ct], 0⟩] scope pos) 1 y acc env) env >>= fun _ =>
          again (.compLoop (.ListComp elt [⟨t1, it1, [], 0⟩, ⟨t2, it2, [ct], 0⟩] scope pos) 0 it acc env))) := by
  unfold compTurn
  simp
  refine congrArg (standAt _ >>= ·) (funext fun _ => congrArg (pyNext it >>= ·) (funext fun r => ?_))
  cases r <;> rfl
theorem turn1 (elt t1 it1 t2 it2 ct : Expr) (scope : Scope) (pos : Pos) (it acc : Value) (env : Env) :
    compTurn (.ListComp elt [⟨t1, it1, [], 0⟩, ⟨t2, it2, [ct], 0⟩] scope pos) 1 it acc env = (standAt it2.pos >>= fun _ => pyNext it >>= fun r => match r with
      | none => pure (.done .next)
      | some v => letOwnedTupleGo t2 it v >>= fun _ => assign t2 env v >>= fun _ => isTrue ct env (eval ct env) >>= fun ok =>
        if ok = true then (eval elt env >>= fun x => call (.builtin "list.append") [acc, x] >>= fun _ => again (.compLoop (.ListComp elt [⟨t1, it1, [], 0⟩, ⟨t2, it2, [ct], 0⟩] scope pos) 1 it acc env))
        else again (.compLoop (.ListComp elt [⟨t1, it1, [], 0⟩, ⟨t2, it2, [ct], 0⟩] scope pos) 1 it acc env)) := by
  unfold compTurn
  simp
  refine congrArg (standAt _ >>= ·) (funext fun _ => congrArg (pyNext it >>= ·) (funext fun r => ?_))
  cases r <;> rfl
section
variable {prog : Program} {w : World} {A : Around} {E : Value → Shared → Prop} {R : Result → Shared → Prop} {s : Shared} {h₀ : Heap} {L : Addr} {m : Str → Option Value} {env : Env}
  {elt it1 ct : Expr} {x x₁ x₂ shn : Str} {px p1 p2 tp psh : Pos} {tk : Nat} {scope : Scope} {cl : List (Str × Addr)} {pos : Pos}

abbrev nestE (elt it1 ct : Expr) (x x₁ x₂ shn : Str) (px p1 p2 tp psh : Pos) (tk : Nat) (scope : Scope) (pos : Pos) : Expr :=
  .ListComp elt [⟨.Name x px, it1, [], 0⟩, ⟨.Tuple [.Name x₁ p1, .Name x₂ p2] tk tp, .Name shn psh, [ct], 0⟩] scope pos

theorem start1 {e : Expr} {g : Comprehension} {it acc : Value} {cenv : Env} (hg : (clausesOf e)[1]? = some g) (ha : g.is_async = 0)
    (hfr : (Code.compStart e 1 it acc cenv).isFrame = false) (hun : A.under (.compStart e 1 it acc cenv) = A) (h0 : codeAny (model prog w) A (.compLoop e 1 it acc cenv) R s)
    (h : wpAny (model prog w) A (pyIter it) (fun it' s' => codeAny (model prog w) A (.compLoop e 1 it' acc cenv) R s') (notedBy (model prog w) A cenv fun x s' => R (.error x) s') s) :
    codeAny (model prog w) A (.compStart e 1 it acc cenv) R s := by
  refine codeAny_of_tree ?_
  rw [hun]
  show wpAny _ _ (if (Code.compStart e 1 it acc cenv).isFrame then (compStart e 1 it acc cenv).onRaise (leaving cenv) else (compStart e 1 it acc cenv).onRaise (fun x => do noteFrame x cenv; standAt theWindowsPlace)) _ _ s
  rw [hfr]
  simp only [Bool.false_eq_true, if_false]
  refine wpAny_notedAt ?_
  unfold compStart
  rw [hg]
  simp only [Option.elim, ha, bne_self_eq_false, Bool.false_eq_true, if_false]
  refine wpAny_bind (wpAny_askSetting (wpAny_ite ?_))
  split
  · exact wpAny_pure ⟨rfl, h0⟩
  · exact wpAny_bind (wpAny_rule (wpAny_bind (wpAny_standAt (wpAny_bind (wpAny_mono h (fun it' s' h' => wpAny_pure ⟨rfl, h'⟩) fun _ _ x => x)))))

theorem loop_gen {M : Model} {A : Around} {s : Shared} {c : Code} {R : Result → Shared → Prop} (hq : c.quiet = true) (I : Nat → Shared → Prop)
    (turn : ∀ n s, I n s → ∀ (Q : Fin → Shared → Prop) (E : Value → Shared → Prop), (∀ f s', R (.ok f) s' → Q (.done f) s') → (∀ m s', m < n → I m s' → Q (.again c) s') → (∀ e s', R (.error e) s' → E e s') → wpAny M (A.under c) (M.den c) Q E s)
    (n : Nat) (h : I n s) : codeAny M A c R s :=
  codeAny_loop hq I (fun n s hi => turn n s hi _ _ (fun _ _ h => h) (fun m _ hm h => ⟨rfl, m, hm, h⟩) fun _ _ h => h) n h
/-- addresses that stand apart -/
structure Off (a : Addr) (L : Addr) (h₀ : Heap) (news : Led) : Prop where
  l : a ≠ L
  h : h₀.get? a = none
  n : ∀ p ∈ news, p.1 ≠ a

open Mine.LC
/-- one pair of the inner list: the test, and the element -/
def Item2 (prog : Program) (w : World) (A : Around) (h₀ : Heap) (L : Addr) (m : Str → Option Value) (env : Env) (ct elt : Expr) (x x₁ x₂ : Str) (scope : Scope) (cl : List (Str × Addr)) (vx : Value) (news : Led) (v1 v2 : Nat → Value) (p : Nat → Bool) (Rj : Nat → Value → Prop) (n : Nat) : Prop :=
  ∀ j ys J oJ C oC D m₂ h tk (s : Shared) (E' : Value → Shared → Prop), j < n → NsObj oC m₂ → m₂ x = some vx → m₂ x₁ = some (v1 j) → m₂ x₂ = some (v2 j) → Fr h₀ L h m → News h₀ L h ((J, oJ) :: (C, oC) :: (D, lst ys) :: news) →
    wpAny (model prog w) A (isTrue ct (compEnvC scope cl C env) (eval ct (compEnvC scope cl C env))) (fun ok s' => ok = p j ∧ if ok = true then
      wpAny (model prog w) A (eval elt (compEnvC scope cl C env)) (ItemEnd h₀ L m { s with heap := h, toks := tk } ((J, oJ) :: (C, oC) :: (D, lst ys) :: news) (Rj j)) E' s'
      else ItemEnd h₀ L m { s with heap := h, toks := tk } ((J, oJ) :: (C, oC) :: (D, lst ys) :: news) (fun _ => True) Value.none s') E' { s with heap := h, toks := tk }

inductive InvI (s : Shared) (n : Nat) (J Sh : Addr) (h₀ : Heap) (L : Addr) (m : Str → Option Value) (D : Addr) (ys₀ : List Value) (news : Led) (C : Addr) (x : Str) (vx : Value) (Rj : Nat → Value → Prop) (p : Nat → Bool) (k : Nat) (s' : Shared) : Prop
  | mk (h' : Heap) (tk j : Nat) (m' : Str → Option Value) (zs : List Value) (e1 : s' = { s with heap := h', toks := tk }) (e2 : j ≤ n) (e3 : k = n + 1 - j) (e4 : zs.length ≤ j) (e5 : h'.IsListIter J Sh j) (e6 : Fr h₀ L h' m) (e7 : News h₀ L h' ((D, lst (ys₀ ++ zs)) :: news)) (e8 : h'.Ns C m') (e9 : m' x = some vx) (e10 : AreAll Rj ((List.range j).filter p) zs) :
    InvI s n J Sh h₀ L m D ys₀ news C x vx Rj p k s'
theorem inner {J C D Sh : Addr} {its : Array Value} {n nn : Nat} {vx : Value} {news : Led} {v1 v2 : Nat → Value} {p : Nat → Bool} {Rj : Nat → Value → Prop} {ys₀ : List Value} {m₀ : Str → Option Value}
    (hh : A.handled = none) (hkind : scope.kind = .function) (hx : scope.names.lookup x = some .local) (hx1 : scope.names.lookup x₁ = some .local) (hx2 : scope.names.lookup x₂ = some .local) (d1 : x ≠ x₁) (d2 : x ≠ x₂) (d3 : x₁ ≠ x₂)
    (hn : its.size = n) (hsz : ys₀.length + n ≤ 1000) (hSh : (Sh, ({ cls := .type "list", data := .seq its nn } : Obj)) ∈ news)
    (hpair : ∀ j, j < n → ∃ T, its[j]? = some (.ref T) ∧ (T, ({ cls := .type "tuple", data := .seq #[v1 j, v2 j] } : Obj)) ∈ news)
    (item : Item2 prog w A h₀ L m env ct elt x x₁ x₂ scope cl vx news v1 v2 p Rj n)
    (F : Fr h₀ L s.heap m) (N : News h₀ L s.heap ((D, lst ys₀) :: news)) (hJ : s.heap.IsListIter J Sh 0) (hC : s.heap.Ns C m₀) (hCx : m₀ x = some vx)
    (oJ : Off J L h₀ news) (oC : Off C L h₀ news) (oD : Off D L h₀ news) (JC : J ≠ C) (JD : J ≠ D) (CD : C ≠ D)
    (hR : ∀ h' tk m' zs, Fr h₀ L h' m → News h₀ L h' ((D, lst (ys₀ ++ zs)) :: news) → h'.Ns C m' → AreAll Rj ((List.range n).filter p) zs → R (.ok .next) { s with heap := h', toks := tk }) :
    codeAny (model prog w) A (.compLoop (nestE elt it1 ct x x₁ x₂ shn px p1 p2 tp psh tk scope pos) 1 (.ref J) (.ref D) (compEnvC scope cl C env)) R s := by
  refine loop_gen rfl (InvI s n J Sh h₀ L m D ys₀ news C x vx Rj p) ?_ (n + 1) (⟨s.heap, s.toks, 0, m₀, [], rfl, Nat.zero_le _, rfl, Nat.le_refl _, hJ, F, by rw [List.append_nil]; exact N, hC, hCx, .nil⟩)
  intro k s' hi Q9 E9 hD9 hA9 hE9
  obtain ⟨h', tk', j, m', zs, rfl, hj, rfl, hzl, hJ', F', N', hC', hCx', ha⟩ := hi
  clear F N hJ hC hCx
  show wpAny _ A ((compTurn (nestE elt it1 ct x x₁ x₂ shn px p1 p2 tp psh tk scope pos) 1 (.ref J) (.ref D) (compEnvC scope cl C env)).onRaise (fun x => do noteFrame x (compEnvC scope cl C env); theTreesLotGoes x)) _ _ _
  refine wpAny_noted ?_
  rw [turn1]
  generalize Code.compLoop (nestE elt it1 ct x x₁ x₂ shn px p1 p2 tp psh tk scope pos) 1 (.ref J) (.ref D) (compEnvC scope cl C env) = cc at hA9 ⊢
  refine wpAny_bind (wpAny_standAt (wpAny_bind ?_))
  have hl : h'.IsList Sh its := ⟨_, (N' _ (.tail _ hSh)).1, rfl, _, rfl⟩
  by_cases hlt : j < n
  · obtain ⟨T, hT, hTm⟩ := hpair j hlt
    refine wpAny_pyNext_list_item hJ' hl hT fun h₂ hJ₂ hs₂ => ?_
    have k₂ : ∀ b o, b ≠ J → h'.get? b = some o → h₂.get? b = some o := fun b o hb e => (hs₂.2 b hb).trans e
    have F₂ : Fr h₀ L h₂ m := ⟨F'.ns.at' fun o e => k₂ L o (Ne.symm oJ.l) e, fun b o e => k₂ b o (fun q => by rw [q, oJ.h] at e; cases e) (F'.keep b o e), F'.above⟩
    have N₂ : News h₀ L h₂ ((D, lst (ys₀ ++ zs)) :: news) := fun p hp => ⟨k₂ _ _ (by
      rcases List.mem_cons.mp hp with rfl | hp
      · exact Ne.symm JD
      · exact oJ.n p hp) (N' p hp).1, (N' p hp).2⟩
    have hC₂ : h₂.Ns C m' := hC'.at' fun o e => k₂ C o (Ne.symm JC) e
    refine wpAny_bind (wpAny_letOwnedTupleGo_listiter hJ₂ ?_)
    have ht : IsTup h₂ T #[v1 j, v2 j] := ⟨_, (N₂ _ (.tail _ hTm)).1, rfl, _, rfl⟩
    refine wpAny_bind (assign_Tuple_tuple hh ht rfl rfl fun h₅ he => ?_)
    have he' : ∀ b o, h₂.get? b = some o → h₅.get? b = some o := fun b o e => he b o (Nat.ne_of_lt (Heap.lt_size e)) e
    refine assignInOrder_cons (wpAny_assign_Name (wpAny_storeName_local (lookup_relabel_local hx1) (hC₂.at' fun o e => he' _ o e) (fun h₆ hn₆ hs₆ => ?_) (by simp [compEnvC, relabel, hkind])))
    refine assignInOrder_cons (wpAny_assign_Name (wpAny_storeName_local (lookup_relabel_local hx2) hn₆ (fun h₃ hn₃ hs₃ => ?_) (by simp [compEnvC, relabel, hkind])))
    refine assignInOrder_nil ?_
    have old3 : ∀ b o, b ≠ C → h₂.get? b = some o → h₃.get? b = some o := fun b o hb e => hs₃.extBut b o hb (hs₆.extBut b o hb (he' b o e))
    obtain ⟨oC₃, heC, hoC⟩ := ns_obj hn₃
    obtain ⟨oJ₂, heJ, hJc, hJd⟩ := hJ₂
    have F₃ : Fr h₀ L h₃ m := ⟨F₂.ns.at' fun o e => old3 L o (Ne.symm oC.l) e, fun b o e => old3 b o (fun q => by rw [q, oC.h] at e; cases e) (F₂.keep b o e), F₂.above⟩
    have N₃ : News h₀ L h₃ ((J, oJ₂) :: (C, oC₃) :: (D, lst (ys₀ ++ zs)) :: news) := fun p hp => by
      rcases List.mem_cons.mp hp with rfl | hp
      · exact ⟨old3 _ _ JC heJ, oJ.l, oJ.h⟩
      · rcases List.mem_cons.mp hp with rfl | hp
        · exact ⟨heC, oC.l, oC.h⟩
        · refine ⟨old3 _ _ ?_ (N₂ p hp).1, (N₂ p hp).2⟩
          rcases List.mem_cons.mp hp with rfl | hp
          · exact Ne.symm CD
          · exact oC.n p hp
    refine wpAny_bind (wpAny_mono (item j (ys₀ ++ zs) J oJ₂ C oC₃ D _ h₃ _ { s with heap := h', toks := tk' } _ hlt hoC (by simp [d1, d2]; exact hCx') (by simp [d3]) (by simp) F₃ N₃) (fun ok s₄ h₄ => ?_) fun _ _ e => e)
    obtain ⟨rfl, h₄⟩ := h₄
    have hrange : (List.range (j + 1)).filter p = (List.range j).filter p ++ (if p j = true then [j] else []) := by
      rw [List.range_succ, List.filter_append]; simp only [List.filter_cons, List.filter_nil]
    by_cases hp : p j = true
    · rw [if_pos hp] at h₄ hrange
      rw [if_pos hp]
      refine wpAny_bind (wpAny_mono h₄ (fun y s₅ h₅ => ?_) fun _ _ e => e)
      obtain ⟨h₅, tk₅, rfl, F₅, N₅, hR₅⟩ := h₅
      have zJ := (N₅ (J, oJ₂) List.mem_cons_self).1
      have zC := (N₅ (C, oC₃) (.tail _ (.head _))).1
      have zD := (N₅ (D, lst (ys₀ ++ zs)) (.tail _ (.tail _ (.head _)))).1
      refine wpAny_bind (append_at (hsz := by show (ys₀ ++ zs).toArray.size ≤ sizeLine; rw [List.size_toArray, List.length_append, sizeLine_eq]; lia) zD fun h₆ hs₆' hD₆ => ?_)
      refine wpAny_pure (hA9 (n + 1 - (j + 1)) _ (by lia) (⟨h₆, tk₅, j + 1, _, zs ++ [y], rfl, hlt, rfl, by simp; lia, ⟨oJ₂, (hs₆'.2 J JD).trans zJ, hJc, hJd⟩, F₅.change hs₆' oD.l oD.h, fun q hq => ?_,
        (hoC.ns zC).sameBut hs₆' CD, by simp [d1, d2]; exact hCx', by rw [hrange]; exact ha.snoc hR₅⟩))
      rcases List.mem_cons.mp hq with rfl | hq
      · refine ⟨hD₆.trans (congrArg some ?_), oD.l, oD.h⟩
        rw [← List.append_assoc]; exact lst_snoc (ys₀ ++ zs) y
      · have z := N₅ q (.tail _ (.tail _ (.tail _ hq)))
        exact ⟨(hs₆'.2 _ (oD.n q hq)).trans z.1, z.2⟩
    · rw [if_neg hp] at h₄ hrange
      rw [if_neg hp]
      obtain ⟨h₅, tk₅, e5, F₅, N₅, _⟩ := h₄
      subst e5
      have zJ := (N₅ (J, oJ₂) List.mem_cons_self).1
      have zC := (N₅ (C, oC₃) (.tail _ (.head _))).1
      refine wpAny_pure (hA9 (n + 1 - (j + 1)) _ (by lia) (⟨h₅, tk₅, j + 1, _, zs, rfl, hlt, rfl, by lia, ⟨oJ₂, zJ, hJc, hJd⟩, F₅, fun q hq => N₅ q (.tail _ (.tail _ hq)),
        hoC.ns zC, by simp [d1, d2]; exact hCx', by rw [hrange, List.append_nil]; exact ha⟩))
  · obtain rfl : j = n := Nat.le_antisymm hj (Nat.not_lt.mp hlt)
    refine wpAny_pyNext_list_end hh hJ' hl (by simp [← hn]) fun h₂ he₂ => ?_
    have k₂ : ∀ b o, b ≠ J → h'.get? b = some o → h₂.get? b = some o := fun b o hb e => he₂ b o hb e
    refine wpAny_pure (hD9 _ _ (hR h₂ tk' m' zs ⟨F'.ns.at' fun o e => k₂ L o (Ne.symm oJ.l) e, fun b o e => k₂ b o (fun q => by rw [q, oJ.h] at e; cases e) (F'.keep b o e), F'.above⟩
      (fun q hq => ⟨k₂ _ _ ?_ (N' q hq).1, (N' q hq).2⟩) (hC'.at' fun o e => k₂ C o (Ne.symm JC) e) ha))
    rcases List.mem_cons.mp hq with rfl | hq
    · exact Ne.symm JD
    · exact oJ.n q hq
end
section
open Mine.LC
variable {prog : Program} {w : World} {A : Around} {E : Value → Shared → Prop} {R : Result → Shared → Prop} {s : Shared} {h₀ : Heap} {L : Addr} {m : Str → Option Value} {env : Env}
  {elt it1 ct : Expr} {x x₁ x₂ shn : Str} {px p1 p2 tp psh : Pos} {tk : Nat} {scope : Scope} {cl : List (Str × Addr)} {pos : Pos}

/-- the values of `k` rounds, one behind the other -/
def Rows (Rv : Nat → Nat → Value → Prop) (p : Nat → Nat → Bool) (n k : Nat) (ys : List Value) : Prop :=
  ∃ zss : List (List Value), zss.length = k ∧ ys = zss.flatten ∧ ∀ (i : Nat) (zs : List Value), zss[i]? = some zs → AreAll (Rv i) ((List.range n).filter (p i)) zs
theorem Rows.len {Rv : Nat → Nat → Value → Prop} {p : Nat → Nat → Bool} {n : Nat} : ∀ {k : Nat} {ys : List Value}, Rows Rv p n k ys → ys.length ≤ k * n := by
  rintro k ys ⟨zss, rfl, rfl, h⟩
  have key : ∀ (zss : List (List Value)), (∀ zs ∈ zss, zs.length ≤ n) → zss.flatten.length ≤ zss.length * n := by
    intro zss
    induction zss with
    | nil => intro _; exact Nat.zero_le _
    | cons z r ih =>
      intro hz
      have h1 := hz z (by simp)
      have h2 := ih fun zs hm => hz zs (by simp [hm])
      simp only [List.flatten_cons, List.length_append, List.length_cons, Nat.succ_mul]
      lia
  refine key zss fun zs hm => ?_
  obtain ⟨i, hi, rfl⟩ := List.getElem_of_mem hm
  have e := (h i _ (List.getElem?_eq_getElem hi)).length
  rw [e]
  exact Nat.le_trans (List.length_filter_le ..) (by simp)
theorem Rows.snoc {Rv : Nat → Nat → Value → Prop} {p : Nat → Nat → Bool} {n k : Nat} {ys zs : List Value} (h : Rows Rv p n k ys) (hz : AreAll (Rv k) ((List.range n).filter (p k)) zs) : Rows Rv p n (k + 1) (ys ++ zs) := by
  obtain ⟨zss, hl, rfl, hh⟩ := h
  refine ⟨zss ++ [zs], by simp [hl], by simp, fun i z hi => ?_⟩
  rw [List.getElem?_append] at hi
  split at hi
  · exact hh i z hi
  · rename_i hge
    have hi2 : i - zss.length = 0 := by
      rcases Nat.eq_zero_or_pos (i - zss.length) with e | e
      · exact e
      · rw [List.getElem?_eq_none (by simp; lia)] at hi; cases hi
    rw [hi2] at hi
    simp at hi
    subst hi
    have : i = k := by lia
    subst this
    exact hz

theorem off1_of {D : Addr} : ∀ {l : Led}, (∀ q ∈ l, q.1 ≠ D) → Off1 D l
  | [], _ => trivial
  | _ :: _, h => ⟨h _ (.head _), off1_of fun q hq => h q (.tail _ hq)⟩
/-- what the outer iterable's walk must show -/
inductive SrcN (prog : Program) (w : World) (A : Around) (h₀ : Heap) (L : Addr) (m : Str → Option Value) (env : Env) (elt ct : Expr) (x x₁ x₂ shn : Str) (psh : Pos) (scope : Scope) (cl : List (Str × Addr)) (Q : Value → Shared → Prop) (xv : Value) (s₁ : Shared) : Prop
  | mk (Sh : Addr) (its : Array Value) (ni n nn : Nat) (news : Led) (S : Led → Prop) (P : Nat → Value → Prop) (v1 v2 : Nat → Value) (p : Nat → Nat → Bool) (Rv : Nat → Nat → Value → Prop)
    (e1 : its.size = n) (e2 : ni * n ≤ 900) (e3 : n ≤ 100) (F : Fr h₀ L s₁.heap m) (N : News h₀ L s₁.heap news) (e4 : S news) (e5 : ∀ I oI, S ((I, oI) :: news)) (e6 : (Sh, ({ cls := .type "list", data := .seq its nn } : Obj)) ∈ news)
    (e7 : ∀ j, j < n → ∃ T, its[j]? = some (.ref T) ∧ (T, ({ cls := .type "tuple", data := .seq #[v1 j, v2 j] } : Obj)) ∈ news) (e8 : PyI prog w A h₀ L news S P ni xv s₁)
    (e9 : ∀ (s₂ : Shared) I oI C oC D ys m₂ (E' : Value → Shared → Prop), NsObj oC m₂ → Fr h₀ L s₂.heap m → News h₀ L s₂.heap ((I, oI) :: (C, oC) :: (D, lst ys) :: news) →
        wpAny (model prog w) A (eval (.Name shn psh) (compEnvC scope cl C env)) (fun yv s₃ => yv = .ref Sh ∧ s₃ = s₂) E' s₂)
    (e10 : ∀ i v I oI, i < ni → P i v → Item2 prog w A h₀ L m env ct elt x x₁ x₂ scope cl v ((I, oI) :: news) v1 v2 (p i) (Rv i) n)
    (e11 : ∀ D h tk ys, Fr h₀ L h m → News h₀ L h ((D, lst ys) :: news) → Off1 D news → Rows Rv p n ni ys → Q (.ref D) { s₁ with heap := h, toks := tk }) :
    SrcN prog w A h₀ L m env elt ct x x₁ x₂ shn psh scope cl Q xv s₁
inductive InvO (s₂ : Shared) (ni : Nat) (St : Nat → Heap → Prop) (h₀ : Heap) (L : Addr) (m : Str → Option Value) (D : Addr) (news : Led) (C : Addr) (Rv : Nat → Nat → Value → Prop) (p : Nat → Nat → Bool) (n : Nat) (k : Nat) (s' : Shared) : Prop
  | mk (h' : Heap) (tk i : Nat) (ys : List Value) (m' : Str → Option Value) (e1 : s' = { s₂ with heap := h', toks := tk }) (e2 : i ≤ ni) (e3 : k = ni + 1 - i) (e4 : St i h') (e5 : Fr h₀ L h' m) (e6 : News h₀ L h' ((D, lst ys) :: news)) (e7 : h'.Ns C m') (e8 : Rows Rv p n i ys) :
    InvO s₂ ni St h₀ L m D news C Rv p n k s'
theorem nest {Q : Value → Shared → Prop}
    (F₀ : Fr h₀ L s.heap m) (hh : A.handled = none)
    (hclos : closureFor scope env = pure cl) (hcell : ∀ y ∈ scope.names, y.2 ≠ .cell) (hkind : scope.kind = .function)
    (hnames : ∀ y ∈ scope.names, y.2 = .local → scope.names.lookup y.1 = some .local) (hx : scope.names.lookup x = some .local) (hx1 : scope.names.lookup x₁ = some .local) (hx2 : scope.names.lookup x₂ = some .local) (d1 : x ≠ x₁) (d2 : x ≠ x₂) (d3 : x₁ ≠ x₂)
    (h : wpAny (model prog w) A (eval it1 env) (SrcN prog w A h₀ L m env elt ct x x₁ x₂ shn psh scope cl Q) E s)
    (hs : ∀ x, foldedSetIterable it1 env x = pure x := by intro _; rfl) :
    wpAny (model prog w) A (eval (nestE elt it1 ct x x₁ x₂ shn px p1 p2 tp psh tk scope pos) env) Q E s := by
  rw [eval_ListComp]
  refine wpAny_comprehension_free (use := none) rfl hs hclos hkind hnames (wpAny_mono h (fun xv s₁ h₁ => ?_) fun _ _ e => e)
  obtain ⟨Sh, its, ni, n, nn, news, S, P, v1, v2, p, Rv, hn, hsz, hsn, F₁, N₁, hS, hS2, hSh, hpair, hI, hit2, hitem, hfin⟩ := h₁
  refine hI _ _ fun I h' up hsrc hLI hI₀ off => ?_
  obtain ⟨fp, St, W, hIo, hSt, hst, hfp⟩ := hsrc
  have F₂ := F₁.keeps up
  have N₂ := N₁.grown up
  generalize hs₂ : ({ s₁ with heap := h' } : Shared) = s₂ at *
  have hs₂h : s₂.heap = h' := by rw [← hs₂]
  rw [← hs₂h] at hst hfp F₂ N₂
  refine wpAny_newObj_type (wpAny_newFunctionEnv hcell (by intro y hy; simp at hy) (fun h₁ hns₁ hsb₁ => ?_) hkind)
  dsimp only at hns₁ hsb₁ ⊢
  generalize hH2 : s₂.heap.push { cls := .type "list", dict := none, data := .seq ([] : List Value).toArray } = H2 at hns₁ hsb₁ ⊢
  have hC : H2.objs.size = s₂.heap.objs.size + 1 := by rw [← hH2, Heap.size_push]
  have hDC : s₂.heap.objs.size ≠ H2.objs.size := by rw [hC]; exact Nat.ne_of_lt (Nat.lt_succ_self _)
  have below : ∀ b, b < s₂.heap.objs.size → b ≠ H2.objs.size ∧ b ≠ s₂.heap.objs.size := fun b hb => ⟨by rw [hC]; exact Nat.ne_of_lt (Nat.lt_succ_of_lt hb), Nat.ne_of_lt hb⟩
  have hDf : s₂.heap.objs.size ∉ fp := fun hm => Nat.lt_irrefl _ (hfp _ hm)
  have hCf : H2.objs.size ∉ fp := fun hm => by have := hfp _ hm; rw [hC] at this; exact Nat.lt_irrefl _ (Nat.lt_of_succ_lt this)
  have hIf : I ∈ fp := W.sub I (List.mem_singleton.mpr rfl)
  have hIlt : I < s₂.heap.objs.size := hfp I hIf
  have old : ∀ b o, s₂.heap.get? b = some o → h₁.get? b = some o := fun b o e => hsb₁.extBut b o (below b (Heap.lt_size e)).1 (Heap.get?_push_of_some _ (hH2 ▸ Heap.get?_push_of_some _ e))
  have hacc : h₁.get? s₂.heap.objs.size = some (lst []) := hsb₁.extBut _ _ hDC (Heap.get?_push_of_some _ (hH2 ▸ Heap.get?_push_size _ rfl))
  have hst₁ : St 0 h₁ := W.frame _ _ _ hst fun b _ o e => old b o e
  have fresh₀ : ∀ a, s₂.heap.objs.size ≤ a → h₀.get? a = none := fun a ha => by
    cases e : h₀.get? a with
    | none => rfl
    | some o' => exact absurd (Heap.lt_size (F₂.keep a o' e)) (Nat.not_lt.mpr ha)
  have hLlt : L < s₂.heap.objs.size := F₂.ns.lt
  have oC : Off H2.objs.size L h₀ news := ⟨Ne.symm (below L hLlt).1, fresh₀ _ (by rw [hC]; exact Nat.le_succ _), fun q hq => (below _ (Heap.lt_size (N₂ q hq).1)).1⟩
  have oD : Off s₂.heap.objs.size L h₀ news := ⟨Ne.symm (below L hLlt).2, fresh₀ _ (Nat.le_refl _), fun q hq => (below _ (Heap.lt_size (N₂ q hq).1)).2⟩
  have hCI : I ≠ H2.objs.size := (below I hIlt).1
  have hDI : I ≠ s₂.heap.objs.size := (below I hIlt).2
  have loop : ∀ (R : Result → Shared → Prop), (∀ h tk m' ys, Fr h₀ L h m → News h₀ L h ((s₂.heap.objs.size, lst ys) :: news) → h.Ns H2.objs.size m' → Rows Rv p n ni ys → R (.ok .next) { s₂ with heap := h, toks := tk }) →
      ∀ s₃ : Shared, s₃ = { s₂ with heap := h₁, toks := s₂.toks + ([] : List (Str × Value)).length } →
      codeAny (model prog w) A (.compLoop (nestE elt it1 ct x x₁ x₂ shn px p1 p2 tp psh tk scope pos) 0 (.ref I) (.ref s₂.heap.objs.size) (compEnvC scope cl H2.objs.size env)) R s₃ := by
    rintro R hR s₃ rfl
    refine loop_gen rfl (InvO s₂ ni St h₀ L m s₂.heap.objs.size news H2.objs.size Rv p n) ?_ (ni + 1) (⟨h₁, _, 0, [], _, rfl, Nat.zero_le _, rfl, hst₁, F₂.keeps old, fun q hq => ?_, hns₁, ⟨[], rfl, rfl, fun i zs hi => by simp at hi⟩⟩)
    · intro k s' hi9 Q9 E9 hD9 hA9 hE9
      obtain ⟨h', tk', i, ys, m', rfl, hi, rfl, hst', F', N', hn', hrows⟩ := hi9
      show wpAny _ A ((compTurn (nestE elt it1 ct x x₁ x₂ shn px p1 p2 tp psh tk scope pos) 0 (.ref I) (.ref s₂.heap.objs.size) (compEnvC scope cl H2.objs.size env)).onRaise (fun x => do noteFrame x (compEnvC scope cl H2.objs.size env); theTreesLotGoes x)) _ _ _
      refine wpAny_noted ?_
      rw [turn0]
      generalize Code.compLoop (nestE elt it1 ct x x₁ x₂ shn px p1 p2 tp psh tk scope pos) 0 (.ref I) (.ref s₂.heap.objs.size) (compEnvC scope cl H2.objs.size env) = cc at hA9 ⊢
      refine wpAny_bind (wpAny_standAt (wpAny_bind ?_))
      by_cases hlt : i < ni
      · refine W.item i _ _ _ hlt hst' fun v h₂ tk₂ hPv hst₂ hk₂ => ?_
        refine wpAny_bind (wpAny_of_eq (a := ()) (by rfl) ?_)
        refine wpAny_bind (wpAny_assign_Name (wpAny_storeName_local (lookup_relabel_local hx) (hn'.at' fun o e => hk₂ _ o (by simpa using Ne.symm hCI) e) (fun h₃ hn₃ hs₃ => ?_) (by simp [compEnvC, relabel, hkind])))
        have hst₃ : St (i + 1) h₃ := W.frame _ _ _ hst₂ fun b hb o e => hs₃.extBut b o (fun q => hCf (by have q' : b = H2.objs.size := q; rw [← q']; exact hb)) e
        obtain ⟨oI, heI⟩ := hIo _ _ hst₃
        obtain ⟨oC₃, heC, hoC⟩ := ns_obj hn₃
        have F₃ : Fr h₀ L h₃ m := (fr_but F' hk₂ hLI hI₀).change hs₃ oC.l oC.h
        have N₂' : News h₀ L h₂ ((s₂.heap.objs.size, lst ys) :: news) := news_but N' hk₂ fun q hq => by
          rcases List.mem_cons.mp hq with rfl | hq
          · exact Ne.symm hDI
          · exact off q hq
        have NI : News h₀ L h₃ ((s₂.heap.objs.size, lst ys) :: (I, oI) :: news) := fun q hq => by
          rcases List.mem_cons.mp hq with rfl | hq
          · exact ⟨hs₃.extBut _ _ hDC (N₂' _ (.head _)).1, (N₂' _ (.head _)).2⟩
          · rcases List.mem_cons.mp hq with rfl | hq
            · exact ⟨heI, Ne.symm hLI, hI₀⟩
            · exact ⟨hs₃.extBut _ _ (oC.n q hq) (N₂' q (.tail _ hq)).1, (N₂' q (.tail _ hq)).2⟩
        have N₃ : News h₀ L h₃ ((I, oI) :: (H2.objs.size, oC₃) :: (s₂.heap.objs.size, lst ys) :: news) := fun q hq => by
          rcases List.mem_cons.mp hq with rfl | hq
          · exact NI _ (.tail _ (.head _))
          · rcases List.mem_cons.mp hq with rfl | hq
            · exact ⟨heC, oC.l, oC.h⟩
            · rcases List.mem_cons.mp hq with rfl | hq
              · exact NI _ (.head _)
              · exact NI _ (.tail _ (.tail _ hq))
        refine wpAny_bind (wpAny_mono (hit2 _ I oI H2.objs.size oC₃ s₂.heap.objs.size ys _ _ hoC F₃ N₃) (fun yv s₄ h₄ => ?_) fun _ _ e => e)
        obtain ⟨rfl, rfl⟩ := h₄
        refine wpAny_bind (wpAny_standAt ?_)
        refine wpAny_bind (wpAny_of_eq (a := Value.ref Sh) (by rfl) ?_)
        have hl : h₃.IsList Sh its := ⟨_, (NI _ (.tail _ (.tail _ hSh))).1, rfl, _, rfl⟩
        refine wpAny_bind (wpAny_holding (wpAny_pyIter_list hl ?_))
        refine wpAny_bind (wpAny_runOwn ?_)
        have up4 : ∀ b o, h₃.get? b = some o → (h₃.push { cls := .type "list_iterator", data := .fields #[.ref Sh, .int 0 0] }).get? b = some o := fun b o e => Heap.get?_push_of_some _ e
        have F₄ := F₃.keeps up4
        have N₄ := NI.grown up4
        have hJ : (h₃.push { cls := .type "list_iterator", data := .fields #[.ref Sh, .int 0 0] }).IsListIter h₃.objs.size Sh 0 := ⟨_, Heap.get?_push_size _ rfl, rfl, rfl⟩
        have hltC : H2.objs.size < h₃.objs.size := Heap.lt_size heC
        have hltD : s₂.heap.objs.size < h₃.objs.size := Heap.lt_size (NI _ (.head _)).1
        have oJ : Off h₃.objs.size L h₀ ((I, oI) :: news) := ⟨Ne.symm (Nat.ne_of_lt F₃.ns.lt), by
          cases e : h₀.get? h₃.objs.size with
          | none => rfl
          | some o' => exact absurd (Heap.lt_size (F₃.keep _ _ e)) (Nat.lt_irrefl _), fun q hq => Nat.ne_of_lt (Heap.lt_size (NI q (.tail _ hq)).1)⟩
        have oC' : Off H2.objs.size L h₀ ((I, oI) :: news) := ⟨oC.l, oC.h, fun q hq => by
          rcases List.mem_cons.mp hq with rfl | hq
          · exact hCI
          · exact oC.n q hq⟩
        have oD' : Off s₂.heap.objs.size L h₀ ((I, oI) :: news) := ⟨oD.l, oD.h, fun q hq => by
          rcases List.mem_cons.mp hq with rfl | hq
          · exact hDI
          · exact oD.n q hq⟩
        have hlen := hrows.len
        have hmul : i * n ≤ ni * n := Nat.mul_le_mul_right n hi
        have go := fun R' hR' => inner (prog := prog) (w := w) (R := R') (s := { s₂ with heap := h₃.push { cls := .type "list_iterator", data := .fields #[.ref Sh, .int 0 0] }, toks := tk₂ + 1 }) (elt := elt) (it1 := it1) (ct := ct) (shn := shn) (px := px) (p1 := p1) (p2 := p2) (tp := tp) (psh := psh) (tk := tk) (pos := pos) (J := h₃.objs.size) (C := H2.objs.size) (D := s₂.heap.objs.size) (Sh := Sh) (its := its) (vx := v) (news := (I, oI) :: news) (v1 := v1) (v2 := v2) (p := p i) (Rj := Rv i) (ys₀ := ys)
          hh hkind hx hx1 hx2 d1 d2 d3 hn (by lia) (.tail _ hSh) (fun j hj => by obtain ⟨T, e, hm⟩ := hpair j hj; exact ⟨T, e, .tail _ hm⟩) (hitem i v I oI hlt hPv) F₄ N₄ hJ (hn₃.at' fun o e => up4 _ o e) (by simp)
          oJ oC' oD' (Ne.symm (Nat.ne_of_lt hltC)) (Ne.symm (Nat.ne_of_lt hltD)) (Ne.symm hDC) hR'
        have fin : ∀ h'' tk'' m'' zs, Fr h₀ L h'' m → News h₀ L h'' ((s₂.heap.objs.size, lst (ys ++ zs)) :: (I, oI) :: news) → h''.Ns H2.objs.size m'' → AreAll (Rv i) ((List.range n).filter (p i)) zs →
            Q9 (.again cc) { s₂ with heap := h'', toks := tk'' } := fun h'' tk'' m'' zs F'' N'' hn'' ha =>
          hA9 (ni + 1 - (i + 1)) _ (by lia) (⟨h'', tk'', i + 1, ys ++ zs, m'', rfl, hlt, rfl, hSt (i + 1) h₃ h'' oI ((I, oI) :: news) hst₃ heI (N'' _ (.tail _ (.head _))).1 F''.keep (fun q hq => N'' q (.tail _ hq)) (hS2 I oI), F'', fun q hq => by
            rcases List.mem_cons.mp hq with rfl | hq
            · exact N'' _ (.head _)
            · exact N'' _ (.tail _ (.tail _ hq)), hn'', hrows.snoc ha⟩)
        refine start1 (A := A.mark none) rfl rfl rfl rfl ?_ ?_
        · refine go _ fun h'' tk'' m'' zs F'' N'' hn'' ha => ?_
          exact wpAny_pure (fin h'' tk'' m'' zs F'' N'' hn'' ha)
        · refine wpAny_pyIter_listiter hJ ?_
          refine go _ fun h'' tk'' m'' zs F'' N'' hn'' ha => ?_
          exact wpAny_pure (fin h'' tk'' m'' zs F'' N'' hn'' ha)
      · obtain rfl : i = ni := Nat.le_antisymm hi (Nat.not_lt.mp hlt)
        refine W.done _ _ _ hst' fun h₂ tk₂ hk₂ => ?_
        refine wpAny_pure (hD9 _ _ (hR h₂ tk₂ m' ys (fr_but F' hk₂ hLI hI₀) (news_but N' hk₂ fun q hq => ?_) (hn'.at' fun o e => hk₂ _ o (by simpa using Ne.symm hCI) e) hrows))
        rcases List.mem_cons.mp hq with rfl | hq
        · exact Ne.symm hDI
        · exact off q hq
    · rcases List.mem_cons.mp hq with rfl | hq
      · exact ⟨hacc, oD.l, oD.h⟩
      · exact ⟨old _ _ (N₂ q hq).1, (N₂ q hq).2⟩
  have last : ∀ h tk m' ys, Fr h₀ L h m → News h₀ L h ((s₂.heap.objs.size, lst ys) :: news) → h.Ns H2.objs.size m' → Rows Rv p n ni ys →
      ∃ m', h.Ns H2.objs.size m' ∧ ∀ h'', Heap.SameBut H2.objs.size h h'' → Q (.ref s₂.heap.objs.size) { s₂ with heap := h'', toks := tk } := fun h tk m' ys F' N' hn' hr =>
    ⟨m', hn', fun h'' hs'' => by
      subst hs₂
      refine hfin _ h'' tk ys (F'.change hs'' oC.l oC.h) (fun q hq => ⟨hs''.extBut _ _ ?_ (N' q hq).1, (N' q hq).2⟩) (off1_of oD.n) hr
      rcases List.mem_cons.mp hq with rfl | hq
      · exact hDC
      · exact oC.n q hq⟩
  have hR := fun h tk m' ys F' N' hn' hr => last h tk m' ys F' N' hn' hr
  exact codeAny_compStart_list (loop _ hR _ rfl) (W.self 0 _ _ _ hst₁ (loop _ hR _ rfl))
end
end Mine.Nest
end
section
open PySem PySem.W PyProof.Rows PySem.Builtin.Int
open PyProof.Rows.LCg Mine.LC 
namespace Mine.Bk
theorem lines27 : True := by
  k_with_none
  w_top off
  k_with "execs cons" => (((try dsimp only); refine toks_any ?_; intro _))
  k_with "k_enter" => (case zzfresh => (refine' code_def ?zzk1 ?zzk2 ?zzk3 ?zzk4 ?zzk5 ?zzkA ?zzkF ?zzkK ?zzk6 ?zzk7 ?zzk8 ?zzk9 ?zzkB ?_ ?zzc2 ?zzc3 ?zzc4 ?zzc5; (case zzkA => exact rfl); (case zzkF => exact rfl); (case zzkK => first | exact rfl | assumption); (case zzk1 => k_asm); (case zzk2 => k_asm); (case zzk3 => k_asm); (case zzk4 => k_asm); (case zzk5 => k_asm); (case zzk6 => k_is); (case zzk7 => k_is); (case zzk8 => k_room); (case zzk9 => first | exact BindsTo.of_eq rfl | exact binds_K (by k_in) rfl (by k_is) rfl rfl rfl | (refine kp_binds (by k_in) ?_; exact fun _ => rfl) | fail "k_enter: no rule for these arguments"); (case zzc5 => decide); (case zzkB => exact locs rfl); (case zzc2 => exact rfl); (case zzc3 => exact rfl); (case zzc4 => exact rfl); k_whole; intro zzg' zzL' zzh' zzFG' zzF' zzN' zzB' zzX' zzT'; (try dsimp only); (try k_lift zzB'); (try k_fold)))
  k_with "k_enter" => (case zzfresh => (refine' code_defC ?zzk1 ?zzk2 ?zzk3 ?zzk4 ?zzk5 ?zzkA ?zzkF ?zzkK ?zzk6 ?zzk7 ?zzk8 ?zzk9 ?zzkB ?zzkD ?_ ?zzc2 ?zzc3 ?zzc4; (case zzkA => exact rfl); (case zzkF => exact rfl); (case zzkK => first | exact rfl | assumption); (case zzk1 => k_asm); (case zzk2 => k_asm); (case zzk3 => k_asm); (case zzk4 => k_asm); (case zzk5 => k_asm); (case zzk6 => k_is); (case zzk7 => k_is); (case zzk8 => k_room); (case zzk9 => first | exact BindsTo.of_eq rfl | exact binds_K (by k_in) rfl (by k_is) rfl rfl rfl | (refine kp_binds (by k_in) ?_; exact fun _ => rfl) | fail "k_enter: no rule for these arguments"); (case zzkB => exact rfl); (case zzkD => decide +kernel); (case zzc2 => exact rfl); (case zzc3 => exact rfl); (case zzc4 => exact rfl); k_whole; intro zzg' zzL' zzh' zztk' zzcells' zzFG' zzF' zzN' zzY' zzB' zzX' zzT' zzl1; (try k_lt zzl1); k_cells zzY'; (try simp only [List.cons_append, List.nil_append] at zzN'); (try dsimp only); (try k_lift zzB'); (try k_fold)))
  k_with "mine open" => ((refine wpAny_call ?_; k_dflt (first | k_enter | kc_enter)))
  k_with "mine open R" => (case zzfresh => (refine wpAny_call ?_; k_dflt (refine' code_defR ?zzk1 ?zzk2 ?zzk3 ?zzk4 ?zzkD ?zzk5 ?zzkA ?zzkF ?zzkK ?zzk6 ?zzk7 ?zzk8 ?zzk9 ?zzkB ?_ ?zzc2 ?zzc3 ?zzc4 ?zzc5; (case zzkA => exact rfl); (case zzkF => exact rfl); (case zzkK => first | exact rfl | assumption); (case zzk1 => k_asm); (case zzk2 => k_asm); (case zzk3 => k_asm); (case zzk4 => with_reducible assumption); (case zzkD => with_reducible assumption); (case zzk5 => k_asm); (case zzk6 => k_is); (case zzk7 => k_is); (case zzk8 => k_room); (case zzk9 => first | exact BindsTo.of_eq rfl | exact binds_K (by k_in) rfl (by k_is) rfl rfl rfl | (refine kp_binds (by k_in) ?_; exact fun _ => rfl) | fail "k_enter: no rule for these arguments"); (case zzc5 => decide); (case zzkB => exact locs rfl); (case zzc2 => exact rfl); (case zzc3 => exact rfl); (case zzc4 => exact rfl)); k_whole; intro zzg' zzL' zzh' zzFG' zzF' zzN' zzB' zzX' zzT' zzS'; (try dsimp only); (try k_lift zzB'); (try k_fold)))
  k_with "mine open CR" => (case zzfresh => (refine wpAny_call ?_; k_dflt (refine' code_defCR ?zzk1 ?zzk2 ?zzk3 ?zzk4 ?zzkR ?zzk5 ?zzkA ?zzkF ?zzkK ?zzk6 ?zzk7 ?zzk8 ?zzk9 ?zzkB ?zzkD ?_ ?zzc2 ?zzc3 ?zzc4; (case zzkA => exact rfl); (case zzkF => exact rfl); (case zzkK => first | exact rfl | assumption); (case zzk1 => k_asm); (case zzk2 => k_asm); (case zzk3 => k_asm); (case zzk4 => with_reducible assumption); (case zzkR => with_reducible assumption); (case zzk5 => k_asm); (case zzk6 => k_is); (case zzk7 => k_is); (case zzk8 => k_room); (case zzk9 => first | exact BindsTo.of_eq rfl | exact binds_K (by k_in) rfl (by k_is) rfl rfl rfl | (refine kp_binds (by k_in) ?_; exact fun _ => rfl) | fail "k_enter: no rule for these arguments"); (case zzkB => exact rfl); (case zzkD => decide +kernel); (case zzc2 => exact rfl); (case zzc3 => exact rfl); (case zzc4 => exact rfl)); k_whole; intro zzg' zzL' zzh' zztk' zzcells' zzFG' zzF' zzN' zzY' zzB' zzX' zzT' zzl1 zzS'; (try k_lt zzl1); k_cells zzY'; (try simp only [List.cons_append, List.nil_append] at zzN'); (try dsimp only); (try k_lift zzB'); (try k_fold)))
  k_with "mine open CR0" => (case zzfresh => (refine wpAny_call ?_; k_dflt (refine' code_defCR (own := []) ?zzk1 ?zzk2 ?zzk3 ?zzk4 ?zzkR ?zzk5 ?zzkA ?zzkF ?zzkK ?zzk6 ?zzk7 ?zzk8 ?zzk9 ?zzkB ?zzkD ?_ ?zzc2 ?zzc3 ?zzc4; (case zzkA => exact rfl); (case zzkF => exact rfl); (case zzkK => first | exact rfl | assumption); (case zzk1 => k_asm); (case zzk2 => k_asm); (case zzk3 => k_asm); (case zzk4 => k_asm); (case zzkR => exact Apart.zero); (case zzk5 => k_asm); (case zzk6 => k_is); (case zzk7 => k_is); (case zzk8 => k_room); (case zzk9 => first | exact BindsTo.of_eq rfl | exact binds_K (by k_in) rfl (by k_is) rfl rfl rfl | (refine kp_binds (by k_in) ?_; exact fun _ => rfl) | fail "k_enter: no rule for these arguments"); (case zzkB => exact rfl); (case zzkD => decide +kernel); (case zzc2 => exact rfl); (case zzc3 => exact rfl); (case zzc4 => exact rfl)); k_whole; intro zzg' zzL' zzh' zztk' zzcells' zzFG' zzF' zzN' zzY' zzB' zzX' zzT' zzl1 zzS'; clear zzl1; k_cells zzY'; (try simp only [List.cons_append, List.nil_append, List.append_nil] at zzN'); (try dsimp only); (try k_lift zzB'); (try k_fold)))
  k_with "mine open R0" => (case zzfresh => (refine wpAny_call ?_; k_dflt (refine' code_defR (own := []) ?zzk1 ?zzk2 ?zzk3 ?zzk4 ?zzkD ?zzk5 ?zzkA ?zzkF ?zzkK ?zzk6 ?zzk7 ?zzk8 ?zzk9 ?zzkB ?_ ?zzc2 ?zzc3 ?zzc4 ?zzc5; (case zzkA => exact rfl); (case zzkF => exact rfl); (case zzkK => first | exact rfl | assumption); (case zzk1 => k_asm); (case zzk2 => k_asm); (case zzk3 => k_asm); (case zzk4 => k_asm); (case zzkD => exact Apart.zero); (case zzk5 => k_asm); (case zzk6 => k_is); (case zzk7 => k_is); (case zzk8 => k_room); (case zzk9 => first | exact BindsTo.of_eq rfl | exact binds_K (by k_in) rfl (by k_is) rfl rfl rfl | (refine kp_binds (by k_in) ?_; exact fun _ => rfl) | fail "k_enter: no rule for these arguments"); (case zzc5 => decide); (case zzkB => exact locs rfl); (case zzc2 => exact rfl); (case zzc3 => exact rfl); (case zzc4 => exact rfl)); k_whole; intro zzg' zzL' zzh' zzFG' zzF' zzN' zzB' zzX' zzT' zzS'; (try dsimp only); (try k_lift zzB'); (try k_fold)))
  k_with "exec Assign cons ListComp" => ((k_here; (with_reducible show wpAny _ _ (exec (Stmt.Assign [Expr.Name _ _] (Expr.ListComp _ [Comprehension.mk (Expr.Name _ _) _ [] _] _ _) _) _) _ _ _); k_dflt (refine assign_M (F₀ := by k_asm) (by rfl) (by with_unfolding_all rfl) (by with_unfolding_all rfl) (by decide) (by rfl) (by decide) (by rfl) (by rfl) (by rfl) ?_)))
  k_with "exec Assign cons ListComp" => ((k_here; (with_reducible show wpAny _ _ (exec (Stmt.Assign [Expr.Name _ _] (Expr.ListComp _ [Comprehension.mk (Expr.Name _ _) _ [_] _] _ _) _) _) _ _ _); k_dflt (refine assign_MT (F₀ := by k_asm) (by rfl) (by with_unfolding_all rfl) (by with_unfolding_all rfl) (by decide) (by rfl) (by decide) (by rfl) (by rfl) (by rfl) ?_)))
  k_with "eval ListComp" => ((k_here; (with_reducible show wpAny _ _ (eval (Expr.ListComp _ [Comprehension.mk (Expr.Name _ _) _ [] _] _ _) _) _ _ _); k_dflt (refine comp_M (F₀ := by k_asm) (by with_unfolding_all rfl) (by decide) (by rfl) (by decide) (by rfl) ?_)))
  k_with "eval ListComp" => ((k_here; (with_reducible show wpAny _ _ (eval (Expr.ListComp _ [Comprehension.mk (Expr.Name _ _) _ [_] _] _ _) _) _ _ _); k_dflt (refine comp_MT (F₀ := by k_asm) (by with_unfolding_all rfl) (by decide) (by rfl) (by decide) (by rfl) ?_)))
  trivial
open PySem.Calls
abbrev pairO (c : Nat) (x : List Nat) (t u : Tok) : Obj := { cls := .type "tuple", data := .seq #[Value.str (S [c]) t, .str (S x) u] }
abbrev lstN (vs : List Value) (n : Nat) : Obj := { cls := .type "list", data := .seq vs.toArray n }
abbrev hdO (w : World) (G : Addr) (t : Tok) : Obj := dictOf [{ hash := PyData.keyHash w.params (Str.ofString "_headers"), key := Value.str (Str.ofString "_headers") t, val := Value.ref G }] 1
/-- a title's sign: the seat's letter, small or great -/
structure Tit (c s : Nat) : Prop where
  s4 : s < 4
  c2 : c = 97 + s ∨ c = 65 + s
theorem low_tit : ∀ s : Fin 4, Txt.lower (S [97 + s.val]) = S [97 + s.val] ∧ Txt.lower (S [65 + s.val]) = S [97 + s.val] := by decide +kernel
theorem lower_tit {prog : Program} {w : World} {A : Around} {E : Value → Shared → Prop} {s : Shared} {c d : Nat} {t : Tok} {Q : Value → Shared → Prop} (hd : Tit c d) (h : ∀ t' k, Q (.str (S [97 + d]) t') { s with toks := k }) : wpAny (model prog w) A (call (.builtin "str.lower") [.str (S [c]) t]) Q E s :=
  SCL.lower (Nat.le_of_ble_eq_true rfl) fun _ => by
    have e := low_tit ⟨d, hd.s4⟩
    have e2 : Txt.lower (S [c]) = S [97 + d] := by
      rcases hd.c2 with e' | e' <;> rw [e']
      · exact e.1
      · exact e.2
    show Q (.str (Txt.lower (S [c])) _) _
    rw [e2]; exact h _ _
theorem tit_eq {a b : Nat} : (S [97 + a] == S [97 + b]) = decide (a = b) := by
  by_cases h : a = b
  · subst h; simp
  · simp [h]
theorem Tit.fine {c s : Nat} (h : Tit c s) : ∀ x ∈ [c], Re.Fine x := fun x hx => by
  have := List.mem_singleton.mp hx; subst this
  have h1 := h.s4
  rcases h.c2 with e | e <;> subst e <;> constructor <;> lia
theorem low_fine {s : Nat} (h : s < 4) : ∀ x ∈ [97 + s], Re.Fine x := fun x hx => by
  have := List.mem_singleton.mp hx; subst this
  constructor <;> lia
/-- places and seats, one against the other -/
structure Per (σ τ : Nat → Nat) : Prop where
  s4 : ∀ j, j < 4 → σ j < 4
  t4 : ∀ i, i < 4 → τ i < 4
  st : ∀ i, i < 4 → σ (τ i) = i
  ts : ∀ j, j < 4 → τ (σ j) = j
theorem Per.at {σ τ : Nat → Nat} (h : Per σ τ) {i j : Nat} (hi : i < 4) (hj : j < 4) : σ j = i ↔ j = τ i :=
  ⟨fun e => by rw [← e, h.ts j hj], fun e => by rw [e, h.st i hi]⟩
theorem filter_one0 : ∀ t : Fin 4, (List.range 4).filter (fun j => decide (j = t.val)) = [t.val] := by decide
theorem filter_one (t : Nat) (h : t < 4) : (List.range 4).filter (fun j => decide (j = t)) = [t] := filter_one0 ⟨t, h⟩
theorem Per.filter {σ τ : Nat → Nat} (h : Per σ τ) {i : Nat} (hi : i < 4) : (List.range 4).filter (fun j => decide (σ j = i)) = [τ i] := by
  rw [← filter_one (τ i) (h.t4 i hi)]
  refine List.filter_congr fun j hj => ?_
  have := h.at hi (List.mem_range.mp hj)
  simp [this]
theorem Per.rows {σ τ : Nat → Nat} (h : Per σ τ) {x : Nat → List Nat} {ys : List Value}
    (hr : Nest.Rows (fun i j y => ∃ u, y = Value.str (S (x j)) u) (fun i j => decide (σ j = i)) 4 4 ys) :
    ∃ u0 u1 u2 u3, ys = [Value.str (S (x (τ 0))) u0, .str (S (x (τ 1))) u1, .str (S (x (τ 2))) u2, .str (S (x (τ 3))) u3] := by
  obtain ⟨zss, hl, rfl, hz⟩ := hr
  obtain ⟨z0, z1, z2, z3, rfl⟩ : ∃ z0 z1 z2 z3, zss = [z0, z1, z2, z3] := by
    cases zss with
    | nil => exact absurd hl (by simp)
    | cons z0 r => cases r with
      | nil => exact absurd hl (by simp)
      | cons z1 r => cases r with
        | nil => exact absurd hl (by simp)
        | cons z2 r => cases r with
          | nil => exact absurd hl (by simp)
          | cons z3 r => cases r with
            | nil => exact ⟨_, _, _, _, rfl⟩
            | cons z4 r => exact absurd hl (by simp)
  have one : ∀ i z, i < 4 → [z0, z1, z2, z3][i]? = some z → ∃ u, z = [Value.str (S (x (τ i))) u] := fun i z hi e => by
    have := hz i z e
    rw [h.filter hi] at this
    cases this with
    | cons h1 h2 => cases h2; obtain ⟨u, rfl⟩ := h1; exact ⟨u, rfl⟩
  obtain ⟨u0, rfl⟩ := one 0 z0 (by decide) rfl
  obtain ⟨u1, rfl⟩ := one 1 z1 (by decide) rfl
  obtain ⟨u2, rfl⟩ := one 2 z2 (by decide) rfl
  obtain ⟨u3, rfl⟩ := one 3 z3 (by decide) rfl
  exact ⟨u0, u1, u2, u3, rfl⟩
/-- the places that stay when place `r` goes -/
def skip (r j : Nat) : Nat := if j < r then j else j + 1
theorem filter_ne0 : ∀ t : Fin 4, (List.range 4).filter (fun j => decide (j ≠ t.val)) = [skip t.val 0, skip t.val 1, skip t.val 2] := by decide
theorem filter_ne (t : Nat) (h : t < 4) : (List.range 4).filter (fun j => decide (j ≠ t)) = [skip t 0, skip t 1, skip t 2] := filter_ne0 ⟨t, h⟩
theorem Per.filter_ne {σ τ : Nat → Nat} (h : Per σ τ) {i : Nat} (hi : i < 4) : (List.range 4).filter (fun j => decide (σ j ≠ i)) = [skip (τ i) 0, skip (τ i) 1, skip (τ i) 2] := by
  rw [← Bk.filter_ne (τ i) (h.t4 i hi)]
  refine List.filter_congr fun j hj => ?_
  have := h.at hi (List.mem_range.mp hj)
  simp [this]
/-- what stands when place `r` went and `v` came behind -/
def upd3 {α : Type} (f : Nat → α) (r : Nat) (v : α) : Nat → α := fun j => if j < 3 then f (skip r j) else v
theorem Per.upd {σ τ : Nat → Nat} (h : Per σ τ) {i : Nat} (hi : i < 4) : Per (upd3 σ (τ i) i) (fun s => if s = i then 3 else if τ s < τ i then τ s else τ s - 1) := by
  have ti := h.t4 i hi
  refine ⟨fun j hj => ?_, fun s hs => ?_, fun s hs => ?_, fun j hj => ?_⟩
  · unfold upd3; split
    · exact h.s4 _ (by unfold skip; split <;> lia)
    · exact hi
  · have := h.t4 s hs; show (if s = i then 3 else if τ s < τ i then τ s else τ s - 1) < 4; split
    · decide
    · split <;> lia
  · have ts := h.t4 s hs
    show upd3 σ (τ i) i (if s = i then 3 else if τ s < τ i then τ s else τ s - 1) = s
    by_cases e : s = i
    · subst e; simp [upd3]
    · rw [if_neg e]
      have ne : τ s ≠ τ i := fun q => e (by rw [← h.st s hs, q, h.st i hi])
      unfold upd3 skip
      by_cases h1 : τ s < τ i
      · rw [if_pos h1, if_pos (by lia), if_pos h1]; exact h.st s hs
      · rw [if_neg h1, if_pos (by lia), if_neg (by lia)]
        rw [show τ s - 1 + 1 = τ s by lia]; exact h.st s hs
  · unfold upd3
    by_cases e : j < 3
    · rw [if_pos e]
      have hk : skip (τ i) j < 4 := by unfold skip; split <;> lia
      have ne : skip (τ i) j ≠ τ i := by unfold skip; split <;> lia
      have hσ : σ (skip (τ i) j) ≠ i := fun q => ne ((h.ts _ hk).symm.trans (congrArg τ q))
      rw [if_neg hσ, h.ts _ hk]
      unfold skip
      by_cases h1 : j < τ i
      · simp [h1]
      · rw [if_neg h1, if_neg (by lia)]; lia
    · rw [if_neg e]; simp; lia
/-- the ledger of a headers object with these entries in its list -/
abbrev bookL (w : World) (B D G : Addr) (ys : List Value) (T : Nat → Addr) (c : Nat → Nat) (x : Nat → List Nat) (a b : Nat → Tok) (tD : Tok) (n : Nat) : Led :=
  [(B, instObj 207 D), (D, hdO w G tD), (G, lstN ys n), (T 0, pairO (c 0) (x 0) (a 0) (b 0)), (T 1, pairO (c 1) (x 1) (a 1) (b 1)), (T 2, pairO (c 2) (x 2) (a 2) (b 2)), (T 3, pairO (c 3) (x 3) (a 3) (b 3))]
/-- the ledger of a headers object with four entries -/
abbrev book (w : World) (B D G : Addr) (T : Nat → Addr) (c : Nat → Nat) (x : Nat → List Nat) (a b : Nat → Tok) (tD : Tok) (n : Nat) : Led :=
  [(B, instObj 207 D), (D, hdO w G tD), (G, lstN [.ref (T 0), .ref (T 1), .ref (T 2), .ref (T 3)] n), (T 0, pairO (c 0) (x 0) (a 0) (b 0)), (T 1, pairO (c 1) (x 1) (a 1) (b 1)), (T 2, pairO (c 2) (x 2) (a 2) (b 2)), (T 3, pairO (c 3) (x 3) (a 3) (b 3))]

end Mine.Bk
end
section
open PySem PySem.W PyProof.Rows PySem.Builtin.Int
open PyProof.Rows.LCg Mine.LC Mine.Bk
namespace Mine.Tx
theorem lines28 : True := by
  k_with_none
  w_top off
  k_with "execs cons" => (((try dsimp only); refine toks_any ?_; intro _))
  k_with "k_enter" => (case zzfresh => (refine' code_def ?zzk1 ?zzk2 ?zzk3 ?zzk4 ?zzk5 ?zzkA ?zzkF ?zzkK ?zzk6 ?zzk7 ?zzk8 ?zzk9 ?zzkB ?_ ?zzc2 ?zzc3 ?zzc4 ?zzc5; (case zzkA => exact rfl); (case zzkF => exact rfl); (case zzkK => first | exact rfl | assumption); (case zzk1 => k_asm); (case zzk2 => k_asm); (case zzk3 => k_asm); (case zzk4 => k_asm); (case zzk5 => k_asm); (case zzk6 => k_is); (case zzk7 => k_is); (case zzk8 => k_room); (case zzk9 => first | exact BindsTo.of_eq rfl | exact binds_K (by k_in) rfl (by k_is) rfl rfl rfl | (refine kp_binds (by k_in) ?_; exact fun _ => rfl) | fail "k_enter: no rule for these arguments"); (case zzc5 => decide); (case zzkB => exact locs rfl); (case zzc2 => exact rfl); (case zzc3 => exact rfl); (case zzc4 => exact rfl); k_whole; intro zzg' zzL' zzh' zzFG' zzF' zzN' zzB' zzX' zzT'; (try dsimp only); (try k_lift zzB'); (try k_fold)))
  k_with "k_enter" => (case zzfresh => (refine' code_defC ?zzk1 ?zzk2 ?zzk3 ?zzk4 ?zzk5 ?zzkA ?zzkF ?zzkK ?zzk6 ?zzk7 ?zzk8 ?zzk9 ?zzkB ?zzkD ?_ ?zzc2 ?zzc3 ?zzc4; (case zzkA => exact rfl); (case zzkF => exact rfl); (case zzkK => first | exact rfl | assumption); (case zzk1 => k_asm); (case zzk2 => k_asm); (case zzk3 => k_asm); (case zzk4 => k_asm); (case zzk5 => k_asm); (case zzk6 => k_is); (case zzk7 => k_is); (case zzk8 => k_room); (case zzk9 => first | exact BindsTo.of_eq rfl | exact binds_K (by k_in) rfl (by k_is) rfl rfl rfl | (refine kp_binds (by k_in) ?_; exact fun _ => rfl) | fail "k_enter: no rule for these arguments"); (case zzkB => exact rfl); (case zzkD => decide +kernel); (case zzc2 => exact rfl); (case zzc3 => exact rfl); (case zzc4 => exact rfl); k_whole; intro zzg' zzL' zzh' zztk' zzcells' zzFG' zzF' zzN' zzY' zzB' zzX' zzT' zzl1; (try k_lt zzl1); k_cells zzY'; (try simp only [List.cons_append, List.nil_append] at zzN'); (try dsimp only); (try k_lift zzB'); (try k_fold)))
  k_with "mine open" => ((refine wpAny_call ?_; k_dflt (first | k_enter | kc_enter)))
  k_with "mine open R" => (case zzfresh => (refine wpAny_call ?_; k_dflt (refine' code_defR ?zzk1 ?zzk2 ?zzk3 ?zzk4 ?zzkD ?zzk5 ?zzkA ?zzkF ?zzkK ?zzk6 ?zzk7 ?zzk8 ?zzk9 ?zzkB ?_ ?zzc2 ?zzc3 ?zzc4 ?zzc5; (case zzkA => exact rfl); (case zzkF => exact rfl); (case zzkK => first | exact rfl | assumption); (case zzk1 => k_asm); (case zzk2 => k_asm); (case zzk3 => k_asm); (case zzk4 => with_reducible assumption); (case zzkD => with_reducible assumption); (case zzk5 => k_asm); (case zzk6 => k_is); (case zzk7 => k_is); (case zzk8 => k_room); (case zzk9 => first | exact BindsTo.of_eq rfl | exact binds_K (by k_in) rfl (by k_is) rfl rfl rfl | (refine kp_binds (by k_in) ?_; exact fun _ => rfl) | fail "k_enter: no rule for these arguments"); (case zzc5 => decide); (case zzkB => exact locs rfl); (case zzc2 => exact rfl); (case zzc3 => exact rfl); (case zzc4 => exact rfl)); k_whole; intro zzg' zzL' zzh' zzFG' zzF' zzN' zzB' zzX' zzT' zzS'; (try dsimp only); (try k_lift zzB'); (try k_fold)))
  k_with "mine open CR" => (case zzfresh => (refine wpAny_call ?_; k_dflt (refine' code_defCR ?zzk1 ?zzk2 ?zzk3 ?zzk4 ?zzkR ?zzk5 ?zzkA ?zzkF ?zzkK ?zzk6 ?zzk7 ?zzk8 ?zzk9 ?zzkB ?zzkD ?_ ?zzc2 ?zzc3 ?zzc4; (case zzkA => exact rfl); (case zzkF => exact rfl); (case zzkK => first | exact rfl | assumption); (case zzk1 => k_asm); (case zzk2 => k_asm); (case zzk3 => k_asm); (case zzk4 => with_reducible assumption); (case zzkR => with_reducible assumption); (case zzk5 => k_asm); (case zzk6 => k_is); (case zzk7 => k_is); (case zzk8 => k_room); (case zzk9 => first | exact BindsTo.of_eq rfl | exact binds_K (by k_in) rfl (by k_is) rfl rfl rfl | (refine kp_binds (by k_in) ?_; exact fun _ => rfl) | fail "k_enter: no rule for these arguments"); (case zzkB => exact rfl); (case zzkD => decide +kernel); (case zzc2 => exact rfl); (case zzc3 => exact rfl); (case zzc4 => exact rfl)); k_whole; intro zzg' zzL' zzh' zztk' zzcells' zzFG' zzF' zzN' zzY' zzB' zzX' zzT' zzl1 zzS'; (try k_lt zzl1); k_cells zzY'; (try simp only [List.cons_append, List.nil_append] at zzN'); (try dsimp only); (try k_lift zzB'); (try k_fold)))
  k_with "mine open CR0" => (case zzfresh => (refine wpAny_call ?_; k_dflt (refine' code_defCR (own := []) ?zzk1 ?zzk2 ?zzk3 ?zzk4 ?zzkR ?zzk5 ?zzkA ?zzkF ?zzkK ?zzk6 ?zzk7 ?zzk8 ?zzk9 ?zzkB ?zzkD ?_ ?zzc2 ?zzc3 ?zzc4; (case zzkA => exact rfl); (case zzkF => exact rfl); (case zzkK => first | exact rfl | assumption); (case zzk1 => k_asm); (case zzk2 => k_asm); (case zzk3 => k_asm); (case zzk4 => k_asm); (case zzkR => exact Apart.zero); (case zzk5 => k_asm); (case zzk6 => k_is); (case zzk7 => k_is); (case zzk8 => k_room); (case zzk9 => first | exact BindsTo.of_eq rfl | exact binds_K (by k_in) rfl (by k_is) rfl rfl rfl | (refine kp_binds (by k_in) ?_; exact fun _ => rfl) | fail "k_enter: no rule for these arguments"); (case zzkB => exact rfl); (case zzkD => decide +kernel); (case zzc2 => exact rfl); (case zzc3 => exact rfl); (case zzc4 => exact rfl)); k_whole; intro zzg' zzL' zzh' zztk' zzcells' zzFG' zzF' zzN' zzY' zzB' zzX' zzT' zzl1 zzS'; clear zzl1; k_cells zzY'; (try simp only [List.cons_append, List.nil_append, List.append_nil] at zzN'); (try dsimp only); (try k_lift zzB'); (try k_fold)))
  k_with "mine open R0" => (case zzfresh => (refine wpAny_call ?_; k_dflt (refine' code_defR (own := []) ?zzk1 ?zzk2 ?zzk3 ?zzk4 ?zzkD ?zzk5 ?zzkA ?zzkF ?zzkK ?zzk6 ?zzk7 ?zzk8 ?zzk9 ?zzkB ?_ ?zzc2 ?zzc3 ?zzc4 ?zzc5; (case zzkA => exact rfl); (case zzkF => exact rfl); (case zzkK => first | exact rfl | assumption); (case zzk1 => k_asm); (case zzk2 => k_asm); (case zzk3 => k_asm); (case zzk4 => k_asm); (case zzkD => exact Apart.zero); (case zzk5 => k_asm); (case zzk6 => k_is); (case zzk7 => k_is); (case zzk8 => k_room); (case zzk9 => first | exact BindsTo.of_eq rfl | exact binds_K (by k_in) rfl (by k_is) rfl rfl rfl | (refine kp_binds (by k_in) ?_; exact fun _ => rfl) | fail "k_enter: no rule for these arguments"); (case zzc5 => decide); (case zzkB => exact locs rfl); (case zzc2 => exact rfl); (case zzc3 => exact rfl); (case zzc4 => exact rfl)); k_whole; intro zzg' zzL' zzh' zzFG' zzF' zzN' zzB' zzX' zzT' zzS'; (try dsimp only); (try k_lift zzB'); (try k_fold)))
  k_with "exec Assign cons ListComp" => ((k_here; (with_reducible show wpAny _ _ (exec (Stmt.Assign [Expr.Name _ _] (Expr.ListComp _ [Comprehension.mk (Expr.Name _ _) _ [] _] _ _) _) _) _ _ _); k_dflt (refine assign_M (F₀ := by k_asm) (by rfl) (by with_unfolding_all rfl) (by with_unfolding_all rfl) (by decide) (by rfl) (by decide) (by rfl) (by rfl) (by rfl) ?_)))
  k_with "exec Assign cons ListComp" => ((k_here; (with_reducible show wpAny _ _ (exec (Stmt.Assign [Expr.Name _ _] (Expr.ListComp _ [Comprehension.mk (Expr.Name _ _) _ [_] _] _ _) _) _) _ _ _); k_dflt (refine assign_MT (F₀ := by k_asm) (by rfl) (by with_unfolding_all rfl) (by with_unfolding_all rfl) (by decide) (by rfl) (by decide) (by rfl) (by rfl) (by rfl) ?_)))
  k_with "eval ListComp" => ((k_here; (with_reducible show wpAny _ _ (eval (Expr.ListComp _ [Comprehension.mk (Expr.Name _ _) _ [] _] _ _) _) _ _ _); k_dflt (refine comp_M (F₀ := by k_asm) (by with_unfolding_all rfl) (by decide) (by rfl) (by decide) (by rfl) ?_)))
  k_with "eval ListComp" => ((k_here; (with_reducible show wpAny _ _ (eval (Expr.ListComp _ [Comprehension.mk (Expr.Name _ _) _ [_] _] _ _) _) _ _ _); k_dflt (refine comp_MT (F₀ := by k_asm) (by with_unfolding_all rfl) (by decide) (by rfl) (by decide) (by rfl) ?_)))
  trivial
open PySem.Calls
theorem lines29 : True := by
  k_with "eval ListComp" => ((k_here; k_dflt (refine Nest.nest (F₀ := by k_asm) (by rfl) (by with_unfolding_all rfl) (by decide) (by rfl) (by decide) (by rfl) (by rfl) (by rfl) (by decide) (by decide) (by decide) ?_)))
  k_with "call builtin:str.lower" => ((k_here; k_dflt (refine lower_tit (by with_reducible assumption) ?_); intro _ _))
  trivial
theorem abcd_at {i c : Nat} (hi : i < 4) (h : (Str.ofString "abcd").cps[i]? = some c) : c = 97 + i := by
  have key : ∀ i : Fin 4, (Str.ofString "abcd").cps[i.val]? = some (97 + i.val) := by decide +kernel
  rw [key ⟨i, hi⟩] at h
  exact (Option.some.inj h).symm
set_option maxRecDepth 100000 in
set_option maxHeartbeats 1000000 in
theorem texts {w : World} {B D G : Addr} {T : Nat → Addr} {c : Nat → Nat} {x : Nat → List Nat} {a b : Nat → Tok} {tD : Tok} {n : Nat} {σ τ : Nat → Nat} (hp : Per σ τ) (hc : ∀ j, j < 4 → Tit (c j) (σ j)) :
    ConF w 2 (call (.ref 238) [.ref B]) (book w B D G T c x a b tD n)
      (fun v own' => ∃ R u0 u1 u2 u3, v = .ref R ∧ own' = (R, lst [Value.str (S (x (τ 0))) u0, .str (S (x (τ 1))) u1, .str (S (x (τ 2))) u2, .str (S (x (τ 3))) u3]) :: book w B D G T c x a b tD n ∧ Off1 R (book w B D G T c x a b tD n)) := by
  dsimp only [book]
  refine ConF.opened ?_
  k_fill
  intro rest p loose mean mg mb cn cs a' ccd cl L outer A₀ base' h₀ m sh sg sd so sk Q E B' F X N TT hk' hap hret
  walk_at "mine open CR"
  k_steps
  refine ⟨_, _, _, 4, _, _, (fun _ => True), PySem.SignAt (Str.ofString "abcd"), fun j => .str (S [c j]) (a j), fun j => .str (S (x j)) (b j), fun i j => decide (σ j = i), fun i j y => ∃ u, y = .str (S (x j)) u, rfl, ?_, by decide, by k_asm, by k_asm, trivial, fun _ _ => trivial, .head _, ?_, LC.pyI_str rfl (by k_asm) (by k_asm), ?_, ?_, ?_⟩
  · decide
  · intro j hj
    match j, hj with
    | 0, _ => exact ⟨_, rfl, by simp⟩
    | 1, _ => exact ⟨_, rfl, by simp⟩
    | 2, _ => exact ⟨_, rfl, by simp⟩
    | 3, _ => exact ⟨_, rfl, by simp⟩
  · intro s₂ I oI C oC D ys m₂ E' hC F1 N1
    k_steps
  · intro i v I oI hi hP j ys J oJ C oC D m₂ h tk s1 E' hj hC hx hx1 hx2 F1 N1
    obtain ⟨c9, u9, hc9, rfl⟩ := hP
    have hT := hc j hj
    have e9 := abcd_at hi hc9
    subst e9
    k_steps
    · exact tit_eq
    · exact ⟨_, _, rfl, by assumption, by assumption, _, rfl⟩
    · exact ⟨_, _, rfl, by assumption, by assumption, trivial⟩
  · intro R h tk ys F1 N1 o1 hr
    obtain ⟨u0, u1, u2, u3, rfl⟩ := hp.rows hr
    k_steps
    rename News h₀ L h rest => NR
    rename Stand _ rest => SR
    rename News h₀ L _ (_ :: _ :: _ :: _) => N7
    have N8 := News.sub (l' := (R, lst [Value.str (S (x (τ 0))) u0, .str (S (x (τ 1))) u1, .str (S (x (τ 2))) u2, .str (S (x (τ 3))) u3]) :: book w B D G T c x a b tD n) N7 (fun p hp => (List.mem_cons.mp hp).elim (fun e => by subst e; exact List.mem_cons_self) fun hp => .tail _ (.tail _ (.tail _ hp)))
    have N9 := News.sub (l' := (R, lst [Value.str (S (x (τ 0))) u0, .str (S (x (τ 1))) u1, .str (S (x (τ 2))) u2, .str (S (x (τ 3))) u3]) :: book w B D G T c x a b tD n) N1 (fun p hp => (List.mem_cons.mp hp).elim (fun e => by subst e; exact List.mem_cons_self) fun hp => .tail _ (.tail _ (.tail _ hp)))
    exact hret _ _ _ _ ⟨_, rfl, apart_of N9 SR, R, u0, u1, u2, u3, rfl, rfl, o1.2.2⟩ (by assumption) (Mine.News.both N8 NR)

end Mine.Tx
end
section
open PySem PySem.W PyProof.Rows PySem.Builtin.Int
open PyProof.Rows.LCg Mine.LC Mine.Bk
namespace Mine.Gt
theorem lines30 : True := by
  k_with_none
  w_top off
  k_with "execs cons" => (((try dsimp only); refine toks_any ?_; intro _))
  k_with "k_enter" => (case zzfresh => (refine' code_def ?zzk1 ?zzk2 ?zzk3 ?zzk4 ?zzk5 ?zzkA ?zzkF ?zzkK ?zzk6 ?zzk7 ?zzk8 ?zzk9 ?zzkB ?_ ?zzc2 ?zzc3 ?zzc4 ?zzc5; (case zzkA => exact rfl); (case zzkF => exact rfl); (case zzkK => first | exact rfl | assumption); (case zzk1 => k_asm); (case zzk2 => k_asm); (case zzk3 => k_asm); (case zzk4 => k_asm); (case zzk5 => k_asm); (case zzk6 => k_is); (case zzk7 => k_is); (case zzk8 => k_room); (case zzk9 => first | exact BindsTo.of_eq rfl | exact binds_K (by k_in) rfl (by k_is) rfl rfl rfl | (refine kp_binds (by k_in) ?_; exact fun _ => rfl) | fail "k_enter: no rule for these arguments"); (case zzc5 => decide); (case zzkB => exact locs rfl); (case zzc2 => exact rfl); (case zzc3 => exact rfl); (case zzc4 => exact rfl); k_whole; intro zzg' zzL' zzh' zzFG' zzF' zzN' zzB' zzX' zzT'; (try dsimp only); (try k_lift zzB'); (try k_fold)))
  k_with "k_enter" => (case zzfresh => (refine' code_defC ?zzk1 ?zzk2 ?zzk3 ?zzk4 ?zzk5 ?zzkA ?zzkF ?zzkK ?zzk6 ?zzk7 ?zzk8 ?zzk9 ?zzkB ?zzkD ?_ ?zzc2 ?zzc3 ?zzc4; (case zzkA => exact rfl); (case zzkF => exact rfl); (case zzkK => first | exact rfl | assumption); (case zzk1 => k_asm); (case zzk2 => k_asm); (case zzk3 => k_asm); (case zzk4 => k_asm); (case zzk5 => k_asm); (case zzk6 => k_is); (case zzk7 => k_is); (case zzk8 => k_room); (case zzk9 => first | exact BindsTo.of_eq rfl | exact binds_K (by k_in) rfl (by k_is) rfl rfl rfl | (refine kp_binds (by k_in) ?_; exact fun _ => rfl) | fail "k_enter: no rule for these arguments"); (case zzkB => exact rfl); (case zzkD => decide +kernel); (case zzc2 => exact rfl); (case zzc3 => exact rfl); (case zzc4 => exact rfl); k_whole; intro zzg' zzL' zzh' zztk' zzcells' zzFG' zzF' zzN' zzY' zzB' zzX' zzT' zzl1; (try k_lt zzl1); k_cells zzY'; (try simp only [List.cons_append, List.nil_append] at zzN'); (try dsimp only); (try k_lift zzB'); (try k_fold)))
  k_with "mine open" => ((refine wpAny_call ?_; k_dflt (first | k_enter | kc_enter)))
  k_with "mine open R" => (case zzfresh => (refine wpAny_call ?_; k_dflt (refine' code_defR ?zzk1 ?zzk2 ?zzk3 ?zzk4 ?zzkD ?zzk5 ?zzkA ?zzkF ?zzkK ?zzk6 ?zzk7 ?zzk8 ?zzk9 ?zzkB ?_ ?zzc2 ?zzc3 ?zzc4 ?zzc5; (case zzkA => exact rfl); (case zzkF => exact rfl); (case zzkK => first | exact rfl | assumption); (case zzk1 => k_asm); (case zzk2 => k_asm); (case zzk3 => k_asm); (case zzk4 => with_reducible assumption); (case zzkD => with_reducible assumption); (case zzk5 => k_asm); (case zzk6 => k_is); (case zzk7 => k_is); (case zzk8 => k_room); (case zzk9 => first | exact BindsTo.of_eq rfl | exact binds_K (by k_in) rfl (by k_is) rfl rfl rfl | (refine kp_binds (by k_in) ?_; exact fun _ => rfl) | fail "k_enter: no rule for these arguments"); (case zzc5 => decide); (case zzkB => exact locs rfl); (case zzc2 => exact rfl); (case zzc3 => exact rfl); (case zzc4 => exact rfl)); k_whole; intro zzg' zzL' zzh' zzFG' zzF' zzN' zzB' zzX' zzT' zzS'; (try dsimp only); (try k_lift zzB'); (try k_fold)))
  k_with "mine open CR" => (case zzfresh => (refine wpAny_call ?_; k_dflt (refine' code_defCR ?zzk1 ?zzk2 ?zzk3 ?zzk4 ?zzkR ?zzk5 ?zzkA ?zzkF ?zzkK ?zzk6 ?zzk7 ?zzk8 ?zzk9 ?zzkB ?zzkD ?_ ?zzc2 ?zzc3 ?zzc4; (case zzkA => exact rfl); (case zzkF => exact rfl); (case zzkK => first | exact rfl | assumption); (case zzk1 => k_asm); (case zzk2 => k_asm); (case zzk3 => k_asm); (case zzk4 => with_reducible assumption); (case zzkR => with_reducible assumption); (case zzk5 => k_asm); (case zzk6 => k_is); (case zzk7 => k_is); (case zzk8 => k_room); (case zzk9 => first | exact BindsTo.of_eq rfl | exact binds_K (by k_in) rfl (by k_is) rfl rfl rfl | (refine kp_binds (by k_in) ?_; exact fun _ => rfl) | fail "k_enter: no rule for these arguments"); (case zzkB => exact rfl); (case zzkD => decide +kernel); (case zzc2 => exact rfl); (case zzc3 => exact rfl); (case zzc4 => exact rfl)); k_whole; intro zzg' zzL' zzh' zztk' zzcells' zzFG' zzF' zzN' zzY' zzB' zzX' zzT' zzl1 zzS'; (try k_lt zzl1); k_cells zzY'; (try simp only [List.cons_append, List.nil_append] at zzN'); (try dsimp only); (try k_lift zzB'); (try k_fold)))
  k_with "mine open CR0" => (case zzfresh => (refine wpAny_call ?_; k_dflt (refine' code_defCR (own := []) ?zzk1 ?zzk2 ?zzk3 ?zzk4 ?zzkR ?zzk5 ?zzkA ?zzkF ?zzkK ?zzk6 ?zzk7 ?zzk8 ?zzk9 ?zzkB ?zzkD ?_ ?zzc2 ?zzc3 ?zzc4; (case zzkA => exact rfl); (case zzkF => exact rfl); (case zzkK => first | exact rfl | assumption); (case zzk1 => k_asm); (case zzk2 => k_asm); (case zzk3 => k_asm); (case zzk4 => k_asm); (case zzkR => exact Apart.zero); (case zzk5 => k_asm); (case zzk6 => k_is); (case zzk7 => k_is); (case zzk8 => k_room); (case zzk9 => first | exact BindsTo.of_eq rfl | exact binds_K (by k_in) rfl (by k_is) rfl rfl rfl | (refine kp_binds (by k_in) ?_; exact fun _ => rfl) | fail "k_enter: no rule for these arguments"); (case zzkB => exact rfl); (case zzkD => decide +kernel); (case zzc2 => exact rfl); (case zzc3 => exact rfl); (case zzc4 => exact rfl)); k_whole; intro zzg' zzL' zzh' zztk' zzcells' zzFG' zzF' zzN' zzY' zzB' zzX' zzT' zzl1 zzS'; clear zzl1; k_cells zzY'; (try simp only [List.cons_append, List.nil_append, List.append_nil] at zzN'); (try dsimp only); (try k_lift zzB'); (try k_fold)))
  k_with "mine open R0" => (case zzfresh => (refine wpAny_call ?_; k_dflt (refine' code_defR (own := []) ?zzk1 ?zzk2 ?zzk3 ?zzk4 ?zzkD ?zzk5 ?zzkA ?zzkF ?zzkK ?zzk6 ?zzk7 ?zzk8 ?zzk9 ?zzkB ?_ ?zzc2 ?zzc3 ?zzc4 ?zzc5; (case zzkA => exact rfl); (case zzkF => exact rfl); (case zzkK => first | exact rfl | assumption); (case zzk1 => k_asm); (case zzk2 => k_asm); (case zzk3 => k_asm); (case zzk4 => k_asm); (case zzkD => exact Apart.zero); (case zzk5 => k_asm); (case zzk6 => k_is); (case zzk7 => k_is); (case zzk8 => k_room); (case zzk9 => first | exact BindsTo.of_eq rfl | exact binds_K (by k_in) rfl (by k_is) rfl rfl rfl | (refine kp_binds (by k_in) ?_; exact fun _ => rfl) | fail "k_enter: no rule for these arguments"); (case zzc5 => decide); (case zzkB => exact locs rfl); (case zzc2 => exact rfl); (case zzc3 => exact rfl); (case zzc4 => exact rfl)); k_whole; intro zzg' zzL' zzh' zzFG' zzF' zzN' zzB' zzX' zzT' zzS'; (try dsimp only); (try k_lift zzB'); (try k_fold)))
  k_with "exec Assign cons ListComp" => ((k_here; (with_reducible show wpAny _ _ (exec (Stmt.Assign [Expr.Name _ _] (Expr.ListComp _ [Comprehension.mk (Expr.Name _ _) _ [] _] _ _) _) _) _ _ _); k_dflt (refine assign_M (F₀ := by k_asm) (by rfl) (by with_unfolding_all rfl) (by with_unfolding_all rfl) (by decide) (by rfl) (by decide) (by rfl) (by rfl) (by rfl) ?_)))
  k_with "exec Assign cons ListComp" => ((k_here; (with_reducible show wpAny _ _ (exec (Stmt.Assign [Expr.Name _ _] (Expr.ListComp _ [Comprehension.mk (Expr.Name _ _) _ [_] _] _ _) _) _) _ _ _); k_dflt (refine assign_MT (F₀ := by k_asm) (by rfl) (by with_unfolding_all rfl) (by with_unfolding_all rfl) (by decide) (by rfl) (by decide) (by rfl) (by rfl) (by rfl) ?_)))
  k_with "eval ListComp" => ((k_here; (with_reducible show wpAny _ _ (eval (Expr.ListComp _ [Comprehension.mk (Expr.Name _ _) _ [] _] _ _) _) _ _ _); k_dflt (refine comp_M (F₀ := by k_asm) (by with_unfolding_all rfl) (by decide) (by rfl) (by decide) (by rfl) ?_)))
  k_with "eval ListComp" => ((k_here; (with_reducible show wpAny _ _ (eval (Expr.ListComp _ [Comprehension.mk (Expr.Name _ _) _ [_] _] _ _) _) _ _ _); k_dflt (refine comp_MT (F₀ := by k_asm) (by with_unfolding_all rfl) (by decide) (by rfl) (by decide) (by rfl) ?_)))
  trivial
open PySem.Calls
theorem eq_tit_t {prog : Program} {w : World} {A : Around} {E : Value → Shared → Prop} {s : Shared} {a b : Nat} {t u : Tok} {Q : Value → Shared → Prop} (h : a = b) (hQ : Q (.bool true) s) :
    wpAny (model prog w) A (compareOp .Eq (.str (S [97 + a]) t) (.str (S [97 + b]) u)) Q E s := by
  subst h
  refine eq_str ?_
  simpa using hQ
theorem eq_tit_f {prog : Program} {w : World} {A : Around} {E : Value → Shared → Prop} {s : Shared} {a b : Nat} {t u : Tok} {Q : Value → Shared → Prop} (h : a ≠ b) (hQ : Q (.bool false) s) :
    wpAny (model prog w) A (compareOp .Eq (.str (S [97 + a]) t) (.str (S [97 + b]) u)) Q E s := by
  refine eq_str ?_
  rw [tit_eq]; simpa [h] using hQ
theorem eq_tit {prog : Program} {w : World} {A : Around} {E : Value → Shared → Prop} {s : Shared} {a b : Nat} {t u : Tok} {Q : Value → Shared → Prop} (hT : a = b → Q (.bool true) s) (hF : a ≠ b → Q (.bool false) s) :
    wpAny (model prog w) A (compareOp .Eq (.str (S [97 + a]) t) (.str (S [97 + b]) u)) Q E s := by
  by_cases h : a = b
  · exact eq_tit_t h (hT h)
  · exact eq_tit_f h (hF h)
theorem per_last {σ τ : Nat → Nat} (h : Per σ τ) {s : Nat} (hs : s < 4) (n0 : σ 0 ≠ s) (n1 : σ 1 ≠ s) (n2 : σ 2 ≠ s) : σ 3 = s := by
  have h4 := h.t4 s hs
  have m0 : 0 ≠ τ s := fun e => n0 ((h.at hs (by decide)).2 e)
  have m1 : 1 ≠ τ s := fun e => n1 ((h.at hs (by decide)).2 e)
  have m2 : 2 ≠ τ s := fun e => n2 ((h.at hs (by decide)).2 e)
  refine (h.at hs (by decide)).2 ?_
  clear n0 n1 n2 h hs
  generalize τ s = k at *
  omega
theorem lines31 : True := by
  k_with "compareOp Eq str str" => (case zzfresh => (k_here; k_dflt (refine eq_tit ?_ ?_ <;> intro zze')))
  k_with "call builtin:str.lower" => ((k_here; k_dflt (refine lower_tit (by with_reducible assumption) ?_); intro _ _))
  k_with "call ref" => (case zzfresh => (k_here; k_dflt (show wpAny _ _ (call (Value.ref 106) [_, .str (S _) _] [(Str.ofString "name", .bool true)]) _ _ _); k_dflt (refine' ConF.useE (Cv.convN (by with_reducible assumption) (by with_reducible assumption)) ?zzB ?zzF ?zzX ?zzN ?zzT ?zzhk ?zzhh ?zzhd ?zzhf ?zzhg ?zzhu ?_; (case zzhf => exact rfl); (case zzhk => exact rfl); (case zzhh => exact rfl); (case zzhg => exact rfl); (case zzF => k_asm); (case zzN => k_asm); (case zzB => k_asm); (case zzX => k_in); (case zzT => k_asm); (case zzhd => exact Nat.le_of_ble_eq_true rfl); (case zzhu => exact Nat.le_of_ble_eq_true rfl)); intro zzv' zzh' zztk' zzhpost' zzF' zzN'; subst zzhpost'))
  k_with "call ref" => (case zzfresh => (k_here; k_dflt (show wpAny _ _ (call (Value.ref 106) [_, .str (S _) _] [(Str.ofString "name", .bool false)]) _ _ _); k_dflt (refine' ConF.useE (Cv.convV (by with_reducible assumption) (by with_reducible assumption)) ?zzB ?zzF ?zzX ?zzN ?zzT ?zzhk ?zzhh ?zzhd ?zzhf ?zzhg ?zzhu ?_; (case zzhf => exact rfl); (case zzhk => exact rfl); (case zzhh => exact rfl); (case zzhg => exact rfl); (case zzF => k_asm); (case zzN => k_asm); (case zzB => k_asm); (case zzX => k_in); (case zzT => k_asm); (case zzhd => exact Nat.le_of_ble_eq_true rfl); (case zzhu => exact Nat.le_of_ble_eq_true rfl)); intro zzv' zzh' zztk' zzhpost' zzF' zzN'; subst zzhpost'))
  k_with "exec For Tuple Attribute cons nil" => (case zzfresh => (k_here; (rename Fr _ _ _ _ => zzlF'); (with_unfolding_all refine' For_turns zzlF' ?_; k_whole)))
  trivial
set_option maxRecDepth 100000 in
set_option maxHeartbeats 1000000 in
theorem get {w : World} {B D G : Addr} {T : Nat → Addr} {c : Nat → Nat} {x : Nat → List Nat} {a b : Nat → Tok} {tD : Tok} {n : Nat} {σ τ : Nat → Nat} {c9 s9 : Nat} {t9 : Tok} (hp : Per σ τ) (hc : ∀ j, j < 4 → Tit (c j) (σ j)) (h9 : Tit c9 s9) :
    ConF w 1 (call (.ref 154) [.ref B, .str (S [c9]) t9]) (book w B D G T c x a b tD n)
      (fun v own' => own' = book w B D G T c x a b tD n ∧ ∃ u, v = .str (S (x (τ s9))) u) := by
  have c0 := hc 0 (by decide)
  have c1 := hc 1 (by decide)
  have c2 := hc 2 (by decide)
  have c3 := hc 3 (by decide)
  have ff := low_fine h9.s4
  have fl : [97 + s9].length ≤ 1000 := by simp
  have p0 : σ 0 = s9 → 0 = τ s9 := (hp.at h9.s4 (by decide)).1
  have p1 : σ 1 = s9 → 1 = τ s9 := (hp.at h9.s4 (by decide)).1
  have p2 : σ 2 = s9 → 2 = τ s9 := (hp.at h9.s4 (by decide)).1
  have p3 : σ 3 = s9 → 3 = τ s9 := (hp.at h9.s4 (by decide)).1
  have pl := per_last hp h9.s4 
  clear hc hp
  dsimp only [book]
  refine ConF.opened ?_
  k_fill
  intro rest p loose mean mg mb cn cs a' ccd cl L outer A₀ base' h₀ m sh sg sd so sk Q E B' F X N TT hk' hap hret
  walk_at "mine open R"
  k_steps
  all_goals try k_steps
  all_goals try k_steps
  all_goals try k_steps
  all_goals first
    | exact absurd (pl (by assumption) (by assumption) (by assumption)) (by assumption)
    | skip
  all_goals
    rename News h₀ L _ rest => NR
    refine hret _ _ _ _ ⟨_, rfl, hap, rfl, _, (by first | rw [← p0 (by assumption)] | rw [← p1 (by assumption)] | rw [← p2 (by assumption)] | rw [← p3 (by assumption)])⟩ ?_ (Mine.News.both ?_ NR)
    · assumption
    · rename News h₀ L _ (_ :: _ :: _ :: _) => N7
      exact News.sub N7 (fun p hp => .tail _ hp)

end Mine.Gt
end
section
open PySem PySem.W PyProof.Rows PySem.Builtin.Int
open PyProof.Rows.LCg Mine.LC 
namespace Mine.Sl
theorem lines32 : True := by
  k_with_none
  w_top off
  k_with "execs cons" => (((try dsimp only); refine toks_any ?_; intro _))
  k_with "k_enter" => (case zzfresh => (refine' code_def ?zzk1 ?zzk2 ?zzk3 ?zzk4 ?zzk5 ?zzkA ?zzkF ?zzkK ?zzk6 ?zzk7 ?zzk8 ?zzk9 ?zzkB ?_ ?zzc2 ?zzc3 ?zzc4 ?zzc5; (case zzkA => exact rfl); (case zzkF => exact rfl); (case zzkK => first | exact rfl | assumption); (case zzk1 => k_asm); (case zzk2 => k_asm); (case zzk3 => k_asm); (case zzk4 => k_asm); (case zzk5 => k_asm); (case zzk6 => k_is); (case zzk7 => k_is); (case zzk8 => k_room); (case zzk9 => first | exact BindsTo.of_eq rfl | exact binds_K (by k_in) rfl (by k_is) rfl rfl rfl | (refine kp_binds (by k_in) ?_; exact fun _ => rfl) | fail "k_enter: no rule for these arguments"); (case zzc5 => decide); (case zzkB => exact locs rfl); (case zzc2 => exact rfl); (case zzc3 => exact rfl); (case zzc4 => exact rfl); k_whole; intro zzg' zzL' zzh' zzFG' zzF' zzN' zzB' zzX' zzT'; (try dsimp only); (try k_lift zzB'); (try k_fold)))
  k_with "k_enter" => (case zzfresh => (refine' code_defC ?zzk1 ?zzk2 ?zzk3 ?zzk4 ?zzk5 ?zzkA ?zzkF ?zzkK ?zzk6 ?zzk7 ?zzk8 ?zzk9 ?zzkB ?zzkD ?_ ?zzc2 ?zzc3 ?zzc4; (case zzkA => exact rfl); (case zzkF => exact rfl); (case zzkK => first | exact rfl | assumption); (case zzk1 => k_asm); (case zzk2 => k_asm); (case zzk3 => k_asm); (case zzk4 => k_asm); (case zzk5 => k_asm); (case zzk6 => k_is); (case zzk7 => k_is); (case zzk8 => k_room); (case zzk9 => first | exact BindsTo.of_eq rfl | exact binds_K (by k_in) rfl (by k_is) rfl rfl rfl | (refine kp_binds (by k_in) ?_; exact fun _ => rfl) | fail "k_enter: no rule for these arguments"); (case zzkB => exact rfl); (case zzkD => decide +kernel); (case zzc2 => exact rfl); (case zzc3 => exact rfl); (case zzc4 => exact rfl); k_whole; intro zzg' zzL' zzh' zztk' zzcells' zzFG' zzF' zzN' zzY' zzB' zzX' zzT' zzl1; (try k_lt zzl1); k_cells zzY'; (try simp only [List.cons_append, List.nil_append] at zzN'); (try dsimp only); (try k_lift zzB'); (try k_fold)))
  k_with "mine open" => ((refine wpAny_call ?_; k_dflt (first | k_enter | kc_enter)))
  k_with "mine open R" => (case zzfresh => (refine wpAny_call ?_; k_dflt (refine' code_defR ?zzk1 ?zzk2 ?zzk3 ?zzk4 ?zzkD ?zzk5 ?zzkA ?zzkF ?zzkK ?zzk6 ?zzk7 ?zzk8 ?zzk9 ?zzkB ?_ ?zzc2 ?zzc3 ?zzc4 ?zzc5; (case zzkA => exact rfl); (case zzkF => exact rfl); (case zzkK => first | exact rfl | assumption); (case zzk1 => k_asm); (case zzk2 => k_asm); (case zzk3 => k_asm); (case zzk4 => with_reducible assumption); (case zzkD => with_reducible assumption); (case zzk5 => k_asm); (case zzk6 => k_is); (case zzk7 => k_is); (case zzk8 => k_room); (case zzk9 => first | exact BindsTo.of_eq rfl | exact binds_K (by k_in) rfl (by k_is) rfl rfl rfl | (refine kp_binds (by k_in) ?_; exact fun _ => rfl) | fail "k_enter: no rule for these arguments"); (case zzc5 => decide); (case zzkB => exact locs rfl); (case zzc2 => exact rfl); (case zzc3 => exact rfl); (case zzc4 => exact rfl)); k_whole; intro zzg' zzL' zzh' zzFG' zzF' zzN' zzB' zzX' zzT' zzS'; (try dsimp only); (try k_lift zzB'); (try k_fold)))
  k_with "mine open CR" => (case zzfresh => (refine wpAny_call ?_; k_dflt (refine' code_defCR ?zzk1 ?zzk2 ?zzk3 ?zzk4 ?zzkR ?zzk5 ?zzkA ?zzkF ?zzkK ?zzk6 ?zzk7 ?zzk8 ?zzk9 ?zzkB ?zzkD ?_ ?zzc2 ?zzc3 ?zzc4; (case zzkA => exact rfl); (case zzkF => exact rfl); (case zzkK => first | exact rfl | assumption); (case zzk1 => k_asm); (case zzk2 => k_asm); (case zzk3 => k_asm); (case zzk4 => with_reducible assumption); (case zzkR => with_reducible assumption); (case zzk5 => k_asm); (case zzk6 => k_is); (case zzk7 => k_is); (case zzk8 => k_room); (case zzk9 => first | exact BindsTo.of_eq rfl | exact binds_K (by k_in) rfl (by k_is) rfl rfl rfl | (refine kp_binds (by k_in) ?_; exact fun _ => rfl) | fail "k_enter: no rule for these arguments"); (case zzkB => exact rfl); (case zzkD => decide +kernel); (case zzc2 => exact rfl); (case zzc3 => exact rfl); (case zzc4 => exact rfl)); k_whole; intro zzg' zzL' zzh' zztk' zzcells' zzFG' zzF' zzN' zzY' zzB' zzX' zzT' zzl1 zzS'; (try k_lt zzl1); k_cells zzY'; (try simp only [List.cons_append, List.nil_append] at zzN'); (try dsimp only); (try k_lift zzB'); (try k_fold)))
  k_with "mine open CR0" => (case zzfresh => (refine wpAny_call ?_; k_dflt (refine' code_defCR (own := []) ?zzk1 ?zzk2 ?zzk3 ?zzk4 ?zzkR ?zzk5 ?zzkA ?zzkF ?zzkK ?zzk6 ?zzk7 ?zzk8 ?zzk9 ?zzkB ?zzkD ?_ ?zzc2 ?zzc3 ?zzc4; (case zzkA => exact rfl); (case zzkF => exact rfl); (case zzkK => first | exact rfl | assumption); (case zzk1 => k_asm); (case zzk2 => k_asm); (case zzk3 => k_asm); (case zzk4 => k_asm); (case zzkR => exact Apart.zero); (case zzk5 => k_asm); (case zzk6 => k_is); (case zzk7 => k_is); (case zzk8 => k_room); (case zzk9 => first | exact BindsTo.of_eq rfl | exact binds_K (by k_in) rfl (by k_is) rfl rfl rfl | (refine kp_binds (by k_in) ?_; exact fun _ => rfl) | fail "k_enter: no rule for these arguments"); (case zzkB => exact rfl); (case zzkD => decide +kernel); (case zzc2 => exact rfl); (case zzc3 => exact rfl); (case zzc4 => exact rfl)); k_whole; intro zzg' zzL' zzh' zztk' zzcells' zzFG' zzF' zzN' zzY' zzB' zzX' zzT' zzl1 zzS'; clear zzl1; k_cells zzY'; (try simp only [List.cons_append, List.nil_append, List.append_nil] at zzN'); (try dsimp only); (try k_lift zzB'); (try k_fold)))
  k_with "mine open R0" => (case zzfresh => (refine wpAny_call ?_; k_dflt (refine' code_defR (own := []) ?zzk1 ?zzk2 ?zzk3 ?zzk4 ?zzkD ?zzk5 ?zzkA ?zzkF ?zzkK ?zzk6 ?zzk7 ?zzk8 ?zzk9 ?zzkB ?_ ?zzc2 ?zzc3 ?zzc4 ?zzc5; (case zzkA => exact rfl); (case zzkF => exact rfl); (case zzkK => first | exact rfl | assumption); (case zzk1 => k_asm); (case zzk2 => k_asm); (case zzk3 => k_asm); (case zzk4 => k_asm); (case zzkD => exact Apart.zero); (case zzk5 => k_asm); (case zzk6 => k_is); (case zzk7 => k_is); (case zzk8 => k_room); (case zzk9 => first | exact BindsTo.of_eq rfl | exact binds_K (by k_in) rfl (by k_is) rfl rfl rfl | (refine kp_binds (by k_in) ?_; exact fun _ => rfl) | fail "k_enter: no rule for these arguments"); (case zzc5 => decide); (case zzkB => exact locs rfl); (case zzc2 => exact rfl); (case zzc3 => exact rfl); (case zzc4 => exact rfl)); k_whole; intro zzg' zzL' zzh' zzFG' zzF' zzN' zzB' zzX' zzT' zzS'; (try dsimp only); (try k_lift zzB'); (try k_fold)))
  k_with "exec Assign cons ListComp" => ((k_here; (with_reducible show wpAny _ _ (exec (Stmt.Assign [Expr.Name _ _] (Expr.ListComp _ [Comprehension.mk (Expr.Name _ _) _ [] _] _ _) _) _) _ _ _); k_dflt (refine assign_M (F₀ := by k_asm) (by rfl) (by with_unfolding_all rfl) (by with_unfolding_all rfl) (by decide) (by rfl) (by decide) (by rfl) (by rfl) (by rfl) ?_)))
  k_with "exec Assign cons ListComp" => ((k_here; (with_reducible show wpAny _ _ (exec (Stmt.Assign [Expr.Name _ _] (Expr.ListComp _ [Comprehension.mk (Expr.Name _ _) _ [_] _] _ _) _) _) _ _ _); k_dflt (refine assign_MT (F₀ := by k_asm) (by rfl) (by with_unfolding_all rfl) (by with_unfolding_all rfl) (by decide) (by rfl) (by decide) (by rfl) (by rfl) (by rfl) ?_)))
  k_with "eval ListComp" => ((k_here; (with_reducible show wpAny _ _ (eval (Expr.ListComp _ [Comprehension.mk (Expr.Name _ _) _ [] _] _ _) _) _ _ _); k_dflt (refine comp_M (F₀ := by k_asm) (by with_unfolding_all rfl) (by decide) (by rfl) (by decide) (by rfl) ?_)))
  k_with "eval ListComp" => ((k_here; (with_reducible show wpAny _ _ (eval (Expr.ListComp _ [Comprehension.mk (Expr.Name _ _) _ [_] _] _ _) _) _ _ _); k_dflt (refine comp_MT (F₀ := by k_asm) (by with_unfolding_all rfl) (by decide) (by rfl) (by decide) (by rfl) ?_)))
  trivial
open PySem.Calls
section
variable {prog : Program} {w : World} {A : Around} {E : Value → Shared → Prop} {s : Shared} {h₀ : Heap} {L G D : Addr} {m : Str → Option Value} {news news' : List (Addr × Obj)} {its new : Array Value} {n nD : Nat}
theorem set_raw {sl : Addr} {Q : Unit → Shared → Prop} (ho : s.heap.get? G = some (PySem.W.listOf its n)) (hs : s.heap.IsSliceOf sl .none .none .none) (hD : s.heap.get? D = some (PySem.W.listOf new nD)) (hne : G ≠ D)
    (hsz : its.size ≤ 100) (hsz' : new.size ≤ 100)
    (h : ∀ h', Heap.SameBut G s.heap h' → h'.get? G = some (PySem.W.listOf new (if new.size == its.size then n else n + 1)) → Q () { s with heap := h' }) :
    wpAny (model prog w) A (setItem (.ref G) (.ref sl) (.ref D)) Q E s := by
  have hl : s.heap.IsList G its := PySem.IsL.isList (n := n) ho
  have hlD : s.heap.IsList D new := PySem.IsL.isList (n := nD) hD
  have hsl : (100 : Nat) ≤ sizeLine := by rw [sizeLine_eq]; decide
  obtain ⟨os, hos, hcs, hds⟩ := id hs
  have hTs : s.TypeIs (.ref sl) "slice" := ⟨os, hos, hcs⟩
  have fits : (its.extract 0 (0 : Int).toNat ++ new ++ its.extract (max (0 : Int) its.size).toNat its.size) = new := by
    simp
  unfold setItem
  refine wpAny_holding ?_
  refine wpAny_bind (wpAny_sequenceKey hl.typeIs (by decide) ?_)
  refine wpAny_bind (wpAny_callSpecial?_slot (name := Str.ofString "__setitem__") hl.typeIs slot_list_setitem
    (wpAny_call_entry slot_list_setitem hl.typeIs entry_list_setitem ?_ (args_list_setitem _ _ _)))
  show wpAny _ _ (Builtin.List.listSubscript? (.ref sl) >>= _) _ _ s
  refine wpAny_bind ?_
  unfold Builtin.List.listSubscript?
  refine wpAny_bind (wpAny_specialOf hTs slice_no_index ?_)
  simp only [Option.isNone_none, if_true]
  refine wpAny_pure ?_
  show wpAny _ _ (typeOf (.ref sl) >>= _) _ _ s
  refine wpAny_bind (wpAny_typeOf hTs ?_)
  rw [if_neg (by decide)]
  rw [listSliceParts_eq]
  refine wpAny_bind (wpAny_bind (wpAny_field hos hds (x := .none) rfl (wpAny_bind (wpAny_listPart .none ?_))))
  rw [if_neg (by decide)]
  refine wpAny_bind (wpAny_field hos hds (x := .none) rfl (wpAny_bind (wpAny_listPart .none ?_)))
  refine wpAny_bind (wpAny_field hos hds (x := .none) rfl (wpAny_bind (wpAny_listPart .none (wpAny_pure ?_))))
  have hsame : Builtin.List.listSameRef (.ref G) (.ref D) = false := by
    show (G == D) = false
    exact beq_eq_false_iff_ne.mpr hne
  rw [hsame]
  simp only [Bool.false_eq_true, if_false]
  unfold Builtin.List.listAllItems
  refine wpAny_bind (wpAny_bind (wpAny_typeOf hlD.typeIs ?_))
  rw [if_pos (by decide)]
  refine wpAny_listItems hD rfl ?_
  refine wpAny_bind (wpAny_listItems ho rfl ?_)
  refine wpAny_bind (wpAny_of_eq (sliceIndices_raw none none none its.size (by simp)) ?_)
  have hb : sliceBounds none none none its.size = (0, (its.size : Int), 1) := rfl
  rw [hb]
  dsimp only
  rw [if_pos (by decide)]
  refine wpAny_bind (wpAny_rule ?_)
  have hlong : ¬ (Builtin.List.listTooLong (its.size + new.size) = true) := by
    unfold Builtin.List.listTooLong
    simp only [decide_eq_true_eq]
    rw [sizeLine_eq]
    omega
  rw [if_neg hlong]
  have e := PySem.IsL.update (n := n) (show PySem.IsL s.heap G its n from ho) (fun xs => xs.extract 0 (0 : Int).toNat ++ new ++ xs.extract (max (0 : Int) its.size).toNat xs.size)
  rw [fits] at e
  refine wpAny_bind (wpAny_updateSeq ho rfl ?_ (by omega) (by rw [fits]; omega))
  refine wpAny_bind (wpAny_letGo ?_)
  exact wpAny_pure ⟨.none, rfl, wpAny_pure (h _ (Heap.SameBut.update ..) e)⟩
theorem set_all {Q : Unit → Shared → Prop} (F : Fr h₀ L s.heap m) (N : News h₀ L s.heap news) (hD : (D, PySem.W.listOf new nD) ∈ news)
    (U : Upd G (PySem.W.listOf its n) (PySem.W.listOf new (n + 1)) news news') (hne : G ≠ D) (hz : (new.size == its.size) = false)
    (hsz : its.size ≤ 100) (hsz' : new.size ≤ 100)
    (h : ∀ h', Fr h₀ L h' m → News h₀ L h' news' → Q () { s with heap := h' }) :
    wpAny (model prog w) A (setItem (.ref G) (.ref s.heap.objs.size) (.ref D)) Q E { s with heap := s.heap.push { cls := .type "slice", data := .fields #[.none, .none, .none] } } := by
  obtain ⟨pre, post, rfl, rfl, a, b⟩ := U.split
  have up : ∀ b o, s.heap.get? b = some o → (s.heap.push { cls := .type "slice", data := .fields #[.none, .none, .none] }).get? b = some o := fun b o e => Heap.get?_push_of_some _ e
  have F' := F.keeps up
  have N' := N.grown up
  have z := N' (G, PySem.W.listOf its n) (List.mem_append.mpr (.inr (.head _)))
  have zD := N' (D, PySem.W.listOf new nD) hD
  refine set_raw (s := { s with heap := s.heap.push { cls := .type "slice", data := .fields #[.none, .none, .none] } }) z.1 (Heap.IsSliceOf.new ..) zD.1 hne hsz hsz' fun h' hs ho => ?_
  rw [hz] at ho
  exact h h' (F'.change hs z.2.1 z.2.2) (news_set N' a b hs ho)
theorem del_ref {K : Frag} {x C f : Addr} {ox : Obj} {od : Option Obj} {i : Value} {Q : Unit → Shared → Prop} (F : Fr h₀ L s.heap m) (X₀ : K.In h₀) (I : InstAt s.heap x ox C od) (hq : noSeq K C = true) (hs : findIn K (.ref C) "__delitem__" = some (some (.ref f))) (hf : isFn K (.ref f) = true)
    (h : wpAny (model prog w) A (call (.ref f) [.ref x, i]) (fun _ s' => Q () s') E s) : wpAny (model prog w) A (delItem (.ref x) i) Q E s := by
  have X := X₀.keeps F.keep
  unfold delItem sequenceKey
  refine wpAny_holding (wpAny_bind (wpAny_bind (I.type.here ?_)))
  refine wpAny_bind ((anyM_none X hq).here ?_)
  rw [if_pos (show (!false) = true from rfl)]
  exact wpAny_pure (wpAny_bind (special_fn X I hs (beq_iff_eq.mp hf) (wpAny_mono h (fun _ _ z => wpAny_pure z) fun _ _ z => z)))
end

end Mine.Sl
end
section
open PySem PySem.W PyProof.Rows PySem.Builtin.Int
open PyProof.Rows.LCg Mine.LC Mine.Bk
namespace Mine.Dl
theorem lines33 : True := by
  k_with_none
  w_top off
  k_with "execs cons" => (((try dsimp only); refine toks_any ?_; intro _))
  k_with "k_enter" => (case zzfresh => (refine' code_def ?zzk1 ?zzk2 ?zzk3 ?zzk4 ?zzk5 ?zzkA ?zzkF ?zzkK ?zzk6 ?zzk7 ?zzk8 ?zzk9 ?zzkB ?_ ?zzc2 ?zzc3 ?zzc4 ?zzc5; (case zzkA => exact rfl); (case zzkF => exact rfl); (case zzkK => first | exact rfl | assumption); (case zzk1 => k_asm); (case zzk2 => k_asm); (case zzk3 => k_asm); (case zzk4 => k_asm); (case zzk5 => k_asm); (case zzk6 => k_is); (case zzk7 => k_is); (case zzk8 => k_room); (case zzk9 => first | exact BindsTo.of_eq rfl | exact binds_K (by k_in) rfl (by k_is) rfl rfl rfl | (refine kp_binds (by k_in) ?_; exact fun _ => rfl) | fail "k_enter: no rule for these arguments"); (case zzc5 => decide); (case zzkB => exact locs rfl); (case zzc2 => exact rfl); (case zzc3 => exact rfl); (case zzc4 => exact rfl); k_whole; intro zzg' zzL' zzh' zzFG' zzF' zzN' zzB' zzX' zzT'; (try dsimp only); (try k_lift zzB'); (try k_fold)))
  k_with "k_enter" => (case zzfresh => (refine' code_defC ?zzk1 ?zzk2 ?zzk3 ?zzk4 ?zzk5 ?zzkA ?zzkF ?zzkK ?zzk6 ?zzk7 ?zzk8 ?zzk9 ?zzkB ?zzkD ?_ ?zzc2 ?zzc3 ?zzc4; (case zzkA => exact rfl); (case zzkF => exact rfl); (case zzkK => first | exact rfl | assumption); (case zzk1 => k_asm); (case zzk2 => k_asm); (case zzk3 => k_asm); (case zzk4 => k_asm); (case zzk5 => k_asm); (case zzk6 => k_is); (case zzk7 => k_is); (case zzk8 => k_room); (case zzk9 => first | exact BindsTo.of_eq rfl | exact binds_K (by k_in) rfl (by k_is) rfl rfl rfl | (refine kp_binds (by k_in) ?_; exact fun _ => rfl) | fail "k_enter: no rule for these arguments"); (case zzkB => exact rfl); (case zzkD => decide +kernel); (case zzc2 => exact rfl); (case zzc3 => exact rfl); (case zzc4 => exact rfl); k_whole; intro zzg' zzL' zzh' zztk' zzcells' zzFG' zzF' zzN' zzY' zzB' zzX' zzT' zzl1; (try k_lt zzl1); k_cells zzY'; (try simp only [List.cons_append, List.nil_append] at zzN'); (try dsimp only); (try k_lift zzB'); (try k_fold)))
  k_with "mine open" => ((refine wpAny_call ?_; k_dflt (first | k_enter | kc_enter)))
  k_with "mine open R" => (case zzfresh => (refine wpAny_call ?_; k_dflt (refine' code_defR ?zzk1 ?zzk2 ?zzk3 ?zzk4 ?zzkD ?zzk5 ?zzkA ?zzkF ?zzkK ?zzk6 ?zzk7 ?zzk8 ?zzk9 ?zzkB ?_ ?zzc2 ?zzc3 ?zzc4 ?zzc5; (case zzkA => exact rfl); (case zzkF => exact rfl); (case zzkK => first | exact rfl | assumption); (case zzk1 => k_asm); (case zzk2 => k_asm); (case zzk3 => k_asm); (case zzk4 => with_reducible assumption); (case zzkD => with_reducible assumption); (case zzk5 => k_asm); (case zzk6 => k_is); (case zzk7 => k_is); (case zzk8 => k_room); (case zzk9 => first | exact BindsTo.of_eq rfl | exact binds_K (by k_in) rfl (by k_is) rfl rfl rfl | (refine kp_binds (by k_in) ?_; exact fun _ => rfl) | fail "k_enter: no rule for these arguments"); (case zzc5 => decide); (case zzkB => exact locs rfl); (case zzc2 => exact rfl); (case zzc3 => exact rfl); (case zzc4 => exact rfl)); k_whole; intro zzg' zzL' zzh' zzFG' zzF' zzN' zzB' zzX' zzT' zzS'; (try dsimp only); (try k_lift zzB'); (try k_fold)))
  k_with "mine open CR" => (case zzfresh => (refine wpAny_call ?_; k_dflt (refine' code_defCR ?zzk1 ?zzk2 ?zzk3 ?zzk4 ?zzkR ?zzk5 ?zzkA ?zzkF ?zzkK ?zzk6 ?zzk7 ?zzk8 ?zzk9 ?zzkB ?zzkD ?_ ?zzc2 ?zzc3 ?zzc4; (case zzkA => exact rfl); (case zzkF => exact rfl); (case zzkK => first | exact rfl | assumption); (case zzk1 => k_asm); (case zzk2 => k_asm); (case zzk3 => k_asm); (case zzk4 => with_reducible assumption); (case zzkR => with_reducible assumption); (case zzk5 => k_asm); (case zzk6 => k_is); (case zzk7 => k_is); (case zzk8 => k_room); (case zzk9 => first | exact BindsTo.of_eq rfl | exact binds_K (by k_in) rfl (by k_is) rfl rfl rfl | (refine kp_binds (by k_in) ?_; exact fun _ => rfl) | fail "k_enter: no rule for these arguments"); (case zzkB => exact rfl); (case zzkD => decide +kernel); (case zzc2 => exact rfl); (case zzc3 => exact rfl); (case zzc4 => exact rfl)); k_whole; intro zzg' zzL' zzh' zztk' zzcells' zzFG' zzF' zzN' zzY' zzB' zzX' zzT' zzl1 zzS'; (try k_lt zzl1); k_cells zzY'; (try simp only [List.cons_append, List.nil_append] at zzN'); (try dsimp only); (try k_lift zzB'); (try k_fold)))
  k_with "mine open CR0" => (case zzfresh => (refine wpAny_call ?_; k_dflt (refine' code_defCR (own := []) ?zzk1 ?zzk2 ?zzk3 ?zzk4 ?zzkR ?zzk5 ?zzkA ?zzkF ?zzkK ?zzk6 ?zzk7 ?zzk8 ?zzk9 ?zzkB ?zzkD ?_ ?zzc2 ?zzc3 ?zzc4; (case zzkA => exact rfl); (case zzkF => exact rfl); (case zzkK => first | exact rfl | assumption); (case zzk1 => k_asm); (case zzk2 => k_asm); (case zzk3 => k_asm); (case zzk4 => k_asm); (case zzkR => exact Apart.zero); (case zzk5 => k_asm); (case zzk6 => k_is); (case zzk7 => k_is); (case zzk8 => k_room); (case zzk9 => first | exact BindsTo.of_eq rfl | exact binds_K (by k_in) rfl (by k_is) rfl rfl rfl | (refine kp_binds (by k_in) ?_; exact fun _ => rfl) | fail "k_enter: no rule for these arguments"); (case zzkB => exact rfl); (case zzkD => decide +kernel); (case zzc2 => exact rfl); (case zzc3 => exact rfl); (case zzc4 => exact rfl)); k_whole; intro zzg' zzL' zzh' zztk' zzcells' zzFG' zzF' zzN' zzY' zzB' zzX' zzT' zzl1 zzS'; clear zzl1; k_cells zzY'; (try simp only [List.cons_append, List.nil_append, List.append_nil] at zzN'); (try dsimp only); (try k_lift zzB'); (try k_fold)))
  k_with "mine open R0" => (case zzfresh => (refine wpAny_call ?_; k_dflt (refine' code_defR (own := []) ?zzk1 ?zzk2 ?zzk3 ?zzk4 ?zzkD ?zzk5 ?zzkA ?zzkF ?zzkK ?zzk6 ?zzk7 ?zzk8 ?zzk9 ?zzkB ?_ ?zzc2 ?zzc3 ?zzc4 ?zzc5; (case zzkA => exact rfl); (case zzkF => exact rfl); (case zzkK => first | exact rfl | assumption); (case zzk1 => k_asm); (case zzk2 => k_asm); (case zzk3 => k_asm); (case zzk4 => k_asm); (case zzkD => exact Apart.zero); (case zzk5 => k_asm); (case zzk6 => k_is); (case zzk7 => k_is); (case zzk8 => k_room); (case zzk9 => first | exact BindsTo.of_eq rfl | exact binds_K (by k_in) rfl (by k_is) rfl rfl rfl | (refine kp_binds (by k_in) ?_; exact fun _ => rfl) | fail "k_enter: no rule for these arguments"); (case zzc5 => decide); (case zzkB => exact locs rfl); (case zzc2 => exact rfl); (case zzc3 => exact rfl); (case zzc4 => exact rfl)); k_whole; intro zzg' zzL' zzh' zzFG' zzF' zzN' zzB' zzX' zzT' zzS'; (try dsimp only); (try k_lift zzB'); (try k_fold)))
  k_with "exec Assign cons ListComp" => ((k_here; (with_reducible show wpAny _ _ (exec (Stmt.Assign [Expr.Name _ _] (Expr.ListComp _ [Comprehension.mk (Expr.Name _ _) _ [] _] _ _) _) _) _ _ _); k_dflt (refine assign_M (F₀ := by k_asm) (by rfl) (by with_unfolding_all rfl) (by with_unfolding_all rfl) (by decide) (by rfl) (by decide) (by rfl) (by rfl) (by rfl) ?_)))
  k_with "exec Assign cons ListComp" => ((k_here; (with_reducible show wpAny _ _ (exec (Stmt.Assign [Expr.Name _ _] (Expr.ListComp _ [Comprehension.mk (Expr.Name _ _) _ [_] _] _ _) _) _) _ _ _); k_dflt (refine assign_MT (F₀ := by k_asm) (by rfl) (by with_unfolding_all rfl) (by with_unfolding_all rfl) (by decide) (by rfl) (by decide) (by rfl) (by rfl) (by rfl) ?_)))
  k_with "eval ListComp" => ((k_here; (with_reducible show wpAny _ _ (eval (Expr.ListComp _ [Comprehension.mk (Expr.Name _ _) _ [] _] _ _) _) _ _ _); k_dflt (refine comp_M (F₀ := by k_asm) (by with_unfolding_all rfl) (by decide) (by rfl) (by decide) (by rfl) ?_)))
  k_with "eval ListComp" => ((k_here; (with_reducible show wpAny _ _ (eval (Expr.ListComp _ [Comprehension.mk (Expr.Name _ _) _ [_] _] _ _) _) _ _ _); k_dflt (refine comp_MT (F₀ := by k_asm) (by with_unfolding_all rfl) (by decide) (by rfl) (by decide) (by rfl) ?_)))
  trivial
open PySem.Calls
theorem lines34 : True := by
  k_with "call builtin:str.lower" => ((k_here; k_dflt (refine lower_tit (by with_reducible assumption) ?_); intro _ _))
  k_with "call ref" => (case zzfresh => (k_here; k_dflt (show wpAny _ _ (call (Value.ref 106) [_, .str (S _) _] [(Str.ofString "name", .bool true)]) _ _ _); k_dflt (refine' ConF.useE (Cv.convN (by with_reducible assumption) (by with_reducible assumption)) ?zzB ?zzF ?zzX ?zzN ?zzT ?zzhk ?zzhh ?zzhd ?zzhf ?zzhg ?zzhu ?_; (case zzhf => exact rfl); (case zzhk => exact rfl); (case zzhh => exact rfl); (case zzhg => exact rfl); (case zzF => k_asm); (case zzN => k_asm); (case zzB => k_asm); (case zzX => k_in); (case zzT => k_asm); (case zzhd => exact Nat.le_of_ble_eq_true rfl); (case zzhu => exact Nat.le_of_ble_eq_true rfl)); intro zzv' zzh' zztk' zzhpost' zzF' zzN'; subst zzhpost'))
  k_with "call ref" => (case zzfresh => (k_here; k_dflt (show wpAny _ _ (call (Value.ref 106) [_, .str (S _) _] [(Str.ofString "name", .bool false)]) _ _ _); k_dflt (refine' ConF.useE (Cv.convV (by with_reducible assumption) (by with_reducible assumption)) ?zzB ?zzF ?zzX ?zzN ?zzT ?zzhk ?zzhh ?zzhd ?zzhf ?zzhg ?zzhu ?_; (case zzhf => exact rfl); (case zzhk => exact rfl); (case zzhh => exact rfl); (case zzhg => exact rfl); (case zzF => k_asm); (case zzN => k_asm); (case zzB => k_asm); (case zzX => k_in); (case zzT => k_asm); (case zzhd => exact Nat.le_of_ble_eq_true rfl); (case zzhu => exact Nat.le_of_ble_eq_true rfl)); intro zzv' zzh' zztk' zzhpost' zzF' zzN'; subst zzhpost'))
  trivial
theorem bne_tit {a b : Nat} : (S [97 + a] != S [97 + b]) = decide (a ≠ b) := by
  rw [bne, tit_eq]; simp
theorem refs_of {T : Nat → Addr} {is : List Nat} {ys : List Value} (h : AreAll (fun j y => y = .ref (T j)) is ys) : ys = is.map fun j => .ref (T j) := by
  induction h with
  | nil => rfl
  | cons h _ ih => rw [h, ih]; rfl
theorem lines35 : True := by
  k_with "setItem ref ref" => (case zzfresh => (k_here; k_dflt (refine' Sl.set_all ?zzF ?zzN ?zzM ?zzU ?zzne ?zzhz ?zza ?zzb ?_; (case zzF => k_asm); (case zzN => k_asm); (case zzM => k_mem); (case zzU => k_upd); (case zzne => k_ne); (case zzhz => exact rfl); (case zza => exact Nat.le_of_ble_eq_true rfl); (case zzb => exact Nat.le_of_ble_eq_true rfl)); intro zzh' zzF' zzN'))
  trivial
theorem apart_swap {own own' rest : Led} (D : Apart own rest) (h : own.map (·.1) = own'.map (·.1)) : Apart own' rest := fun p hp q hq => by
  have : q.1 ∈ own.map (·.1) := by rw [h]; exact List.mem_map_of_mem hq
  obtain ⟨q', hq', e⟩ := List.mem_map.mp this
  rw [← e]; exact D p hp q' hq'
theorem ne_of {g h : Heap} {L : Addr} {l : Led} {a b : Addr} {o o' : Obj} (N : News g L h l) (h1 : (a, o) ∈ l) (h2 : (b, o') ∈ l) (hc : o.cls ≠ o'.cls) : a ≠ b := fun e => by
  subst e
  have := (N _ h1).1.symm.trans (N _ h2).1
  exact hc (congrArg Obj.cls (Option.some.inj this))
set_option maxRecDepth 100000 in
set_option maxHeartbeats 1000000 in
theorem del {w : World} {B D G : Addr} {T : Nat → Addr} {c : Nat → Nat} {x : Nat → List Nat} {a b : Nat → Tok} {tD : Tok} {n : Nat} {σ τ : Nat → Nat} {c9 s9 : Nat} {t9 : Tok} (hp : Per σ τ) (hc : ∀ j, j < 4 → Tit (c j) (σ j)) (h9 : Tit c9 s9) :
    ConF w 1 (call (.ref 125) [.ref B, .str (S [c9]) t9]) (book w B D G T c x a b tD n)
      (fun v own' => v = .none ∧ own' = bookL w B D G [.ref (T (skip (τ s9) 0)), .ref (T (skip (τ s9) 1)), .ref (T (skip (τ s9) 2))] T c x a b tD (n + 1)) := by
  have c0 := hc 0 (by decide)
  have c1 := hc 1 (by decide)
  have c2 := hc 2 (by decide)
  have c3 := hc 3 (by decide)
  have ff := low_fine h9.s4
  have fl : [97 + s9].length ≤ 1000 := by simp
  dsimp only [book]
  refine ConF.opened ?_
  k_fill
  intro rest p loose mean mg mb cn cs a' ccd cl L outer A₀ base' h₀ m sh sg sd so sk Q E B' F X N TT hk' hap hret
  have nB : B ≠ G := ne_of N (List.mem_append_left _ (by k_mem)) (List.mem_append_left _ (by k_mem)) (by show Value.ref 207 ≠ .type "list"; decide)
  have nD : D ≠ G := ne_of N (List.mem_append_left _ (by k_mem)) (List.mem_append_left _ (by k_mem)) (by show Value.type "dict" ≠ .type "list"; decide)
  have n0 : T 0 ≠ G := ne_of N (List.mem_append_left _ (by k_mem)) (List.mem_append_left _ (by k_mem)) (by show Value.type "tuple" ≠ .type "list"; decide)
  have n1 : T 1 ≠ G := ne_of N (List.mem_append_left _ (by k_mem)) (List.mem_append_left _ (by k_mem)) (by show Value.type "tuple" ≠ .type "list"; decide)
  have n2 : T 2 ≠ G := ne_of N (List.mem_append_left _ (by k_mem)) (List.mem_append_left _ (by k_mem)) (by show Value.type "tuple" ≠ .type "list"; decide)
  have n3 : T 3 ≠ G := ne_of N (List.mem_append_left _ (by k_mem)) (List.mem_append_left _ (by k_mem)) (by show Value.type "tuple" ≠ .type "list"; decide)
  walk_at "mine open CR"
  k_steps
  refine SrcMT.led rfl (by k_asm) (by k_asm) (by k_mem) (by show (4 : Nat) ≤ sizeLine; rw [sizeLine_eq]; decide) fun g' => ?_
  refine rest_filter (p := fun j => decide (σ j ≠ s9)) (R := fun j y => y = .ref (T j)) (.inr ⟨_, by k_mem, rfl, _, rfl⟩) ?_ ?_
  · intro i ys v I oI C oC D m₂ h tk E' hi hP hC hx F1 N1 off ne
    have hi4 : i < 4 := hi
    have alt : i = 0 ∨ i = 1 ∨ i = 2 ∨ i = 3 := by omega
    clear hc hp hi hi4
    rcases alt with rfl | rfl | rfl | rfl
    · obtain rfl : v = .ref (T 0) := (Option.some.inj hP).symm
      k_steps
      · exact bne_tit
      · exact ⟨_, _, rfl, by assumption, by assumption, rfl⟩
      · exact ⟨_, _, rfl, by assumption, by assumption, trivial⟩
    · obtain rfl : v = .ref (T 1) := (Option.some.inj hP).symm
      k_steps
      · exact bne_tit
      · exact ⟨_, _, rfl, by assumption, by assumption, rfl⟩
      · exact ⟨_, _, rfl, by assumption, by assumption, trivial⟩
    · obtain rfl : v = .ref (T 2) := (Option.some.inj hP).symm
      k_steps
      · exact bne_tit
      · exact ⟨_, _, rfl, by assumption, by assumption, rfl⟩
      · exact ⟨_, _, rfl, by assumption, by assumption, trivial⟩
    · obtain rfl : v = .ref (T 3) := (Option.some.inj hP).symm
      k_steps
      · exact bne_tit
      · exact ⟨_, _, rfl, by assumption, by assumption, rfl⟩
      · exact ⟨_, _, rfl, by assumption, by assumption, trivial⟩
  · intro ys ha
    have hy : ys = ((List.range 4).filter (fun j => decide (σ j ≠ s9))).map (fun j => Value.ref (T j)) := refs_of ha
    rw [hp.filter_ne h9.s4] at hy
    subst hy
    dsimp only [List.map]
    k_steps
    rename News h₀ L _ rest => NR
    rename Stand _ rest => SR
    rename News h₀ L _ (_ :: _ :: _ :: _) => N7
    have N8 := News.sub (l' := bookL w B D G [.ref (T (skip (τ s9) 0)), .ref (T (skip (τ s9) 1)), .ref (T (skip (τ s9) 2))] T c x a b tD (n + 1)) N7 (fun p hp => .tail _ (.tail _ hp))
    refine hret _ _ _ _ ⟨bookL w B D G [.ref (T (skip (τ s9) 0)), .ref (T (skip (τ s9) 1)), .ref (T (skip (τ s9) 2))] T c x a b tD (n + 1), rfl, apart_swap hap rfl, rfl, rfl⟩ ?_ (Mine.News.both ?_ NR)
    · assumption
    · exact N8

end Mine.Dl
end
section
open PySem PySem.W PyProof.Rows PySem.Builtin.Int
open PyProof.Rows.LCg Mine.LC Mine.Bk
namespace Mine.St
theorem lines36 : True := by
  k_with_none
  w_top off
  k_with "execs cons" => (((try dsimp only); refine toks_any ?_; intro _))
  k_with "k_enter" => (case zzfresh => (refine' code_def ?zzk1 ?zzk2 ?zzk3 ?zzk4 ?zzk5 ?zzkA ?zzkF ?zzkK ?zzk6 ?zzk7 ?zzk8 ?zzk9 ?zzkB ?_ ?zzc2 ?zzc3 ?zzc4 ?zzc5; (case zzkA => exact rfl); (case zzkF => exact rfl); (case zzkK => first | exact rfl | assumption); (case zzk1 => k_asm); (case zzk2 => k_asm); (case zzk3 => k_asm); (case zzk4 => k_asm); (case zzk5 => k_asm); (case zzk6 => k_is); (case zzk7 => k_is); (case zzk8 => k_room); (case zzk9 => first | exact BindsTo.of_eq rfl | exact binds_K (by k_in) rfl (by k_is) rfl rfl rfl | (refine kp_binds (by k_in) ?_; exact fun _ => rfl) | fail "k_enter: no rule for these arguments"); (case zzc5 => decide); (case zzkB => exact locs rfl); (case zzc2 => exact rfl); (case zzc3 => exact rfl); (case zzc4 => exact rfl); k_whole; intro zzg' zzL' zzh' zzFG' zzF' zzN' zzB' zzX' zzT'; (try dsimp only); (try k_lift zzB'); (try k_fold)))
  k_with "k_enter" => (case zzfresh => (refine' code_defC ?zzk1 ?zzk2 ?zzk3 ?zzk4 ?zzk5 ?zzkA ?zzkF ?zzkK ?zzk6 ?zzk7 ?zzk8 ?zzk9 ?zzkB ?zzkD ?_ ?zzc2 ?zzc3 ?zzc4; (case zzkA => exact rfl); (case zzkF => exact rfl); (case zzkK => first | exact rfl | assumption); (case zzk1 => k_asm); (case zzk2 => k_asm); (case zzk3 => k_asm); (case zzk4 => k_asm); (case zzk5 => k_asm); (case zzk6 => k_is); (case zzk7 => k_is); (case zzk8 => k_room); (case zzk9 => first | exact BindsTo.of_eq rfl | exact binds_K (by k_in) rfl (by k_is) rfl rfl rfl | (refine kp_binds (by k_in) ?_; exact fun _ => rfl) | fail "k_enter: no rule for these arguments"); (case zzkB => exact rfl); (case zzkD => decide +kernel); (case zzc2 => exact rfl); (case zzc3 => exact rfl); (case zzc4 => exact rfl); k_whole; intro zzg' zzL' zzh' zztk' zzcells' zzFG' zzF' zzN' zzY' zzB' zzX' zzT' zzl1; (try k_lt zzl1); k_cells zzY'; (try simp only [List.cons_append, List.nil_append] at zzN'); (try dsimp only); (try k_lift zzB'); (try k_fold)))
  k_with "mine open" => ((refine wpAny_call ?_; k_dflt (first | k_enter | kc_enter)))
  k_with "mine open R" => (case zzfresh => (refine wpAny_call ?_; k_dflt (refine' code_defR ?zzk1 ?zzk2 ?zzk3 ?zzk4 ?zzkD ?zzk5 ?zzkA ?zzkF ?zzkK ?zzk6 ?zzk7 ?zzk8 ?zzk9 ?zzkB ?_ ?zzc2 ?zzc3 ?zzc4 ?zzc5; (case zzkA => exact rfl); (case zzkF => exact rfl); (case zzkK => first | exact rfl | assumption); (case zzk1 => k_asm); (case zzk2 => k_asm); (case zzk3 => k_asm); (case zzk4 => with_reducible assumption); (case zzkD => with_reducible assumption); (case zzk5 => k_asm); (case zzk6 => k_is); (case zzk7 => k_is); (case zzk8 => k_room); (case zzk9 => first | exact BindsTo.of_eq rfl | exact binds_K (by k_in) rfl (by k_is) rfl rfl rfl | (refine kp_binds (by k_in) ?_; exact fun _ => rfl) | fail "k_enter: no rule for these arguments"); (case zzc5 => decide); (case zzkB => exact locs rfl); (case zzc2 => exact rfl); (case zzc3 => exact rfl); (case zzc4 => exact rfl)); k_whole; intro zzg' zzL' zzh' zzFG' zzF' zzN' zzB' zzX' zzT' zzS'; (try dsimp only); (try k_lift zzB'); (try k_fold)))
  k_with "mine open CR" => (case zzfresh => (refine wpAny_call ?_; k_dflt (refine' code_defCR ?zzk1 ?zzk2 ?zzk3 ?zzk4 ?zzkR ?zzk5 ?zzkA ?zzkF ?zzkK ?zzk6 ?zzk7 ?zzk8 ?zzk9 ?zzkB ?zzkD ?_ ?zzc2 ?zzc3 ?zzc4; (case zzkA => exact rfl); (case zzkF => exact rfl); (case zzkK => first | exact rfl | assumption); (case zzk1 => k_asm); (case zzk2 => k_asm); (case zzk3 => k_asm); (case zzk4 => with_reducible assumption); (case zzkR => with_reducible assumption); (case zzk5 => k_asm); (case zzk6 => k_is); (case zzk7 => k_is); (case zzk8 => k_room); (case zzk9 => first | exact BindsTo.of_eq rfl | exact binds_K (by k_in) rfl (by k_is) rfl rfl rfl | (refine kp_binds (by k_in) ?_; exact fun _ => rfl) | fail "k_enter: no rule for these arguments"); (case zzkB => exact rfl); (case zzkD => decide +kernel); (case zzc2 => exact rfl); (case zzc3 => exact rfl); (case zzc4 => exact rfl)); k_whole; intro zzg' zzL' zzh' zztk' zzcells' zzFG' zzF' zzN' zzY' zzB' zzX' zzT' zzl1 zzS'; (try k_lt zzl1); k_cells zzY'; (try simp only [List.cons_append, List.nil_append] at zzN'); (try dsimp only); (try k_lift zzB'); (try k_fold)))
  k_with "mine open CR0" => (case zzfresh => (refine wpAny_call ?_; k_dflt (refine' code_defCR (own := []) ?zzk1 ?zzk2 ?zzk3 ?zzk4 ?zzkR ?zzk5 ?zzkA ?zzkF ?zzkK ?zzk6 ?zzk7 ?zzk8 ?zzk9 ?zzkB ?zzkD ?_ ?zzc2 ?zzc3 ?zzc4; (case zzkA => exact rfl); (case zzkF => exact rfl); (case zzkK => first | exact rfl | assumption); (case zzk1 => k_asm); (case zzk2 => k_asm); (case zzk3 => k_asm); (case zzk4 => k_asm); (case zzkR => exact Apart.zero); (case zzk5 => k_asm); (case zzk6 => k_is); (case zzk7 => k_is); (case zzk8 => k_room); (case zzk9 => first | exact BindsTo.of_eq rfl | exact binds_K (by k_in) rfl (by k_is) rfl rfl rfl | (refine kp_binds (by k_in) ?_; exact fun _ => rfl) | fail "k_enter: no rule for these arguments"); (case zzkB => exact rfl); (case zzkD => decide +kernel); (case zzc2 => exact rfl); (case zzc3 => exact rfl); (case zzc4 => exact rfl)); k_whole; intro zzg' zzL' zzh' zztk' zzcells' zzFG' zzF' zzN' zzY' zzB' zzX' zzT' zzl1 zzS'; clear zzl1; k_cells zzY'; (try simp only [List.cons_append, List.nil_append, List.append_nil] at zzN'); (try dsimp only); (try k_lift zzB'); (try k_fold)))
  k_with "mine open R0" => (case zzfresh => (refine wpAny_call ?_; k_dflt (refine' code_defR (own := []) ?zzk1 ?zzk2 ?zzk3 ?zzk4 ?zzkD ?zzk5 ?zzkA ?zzkF ?zzkK ?zzk6 ?zzk7 ?zzk8 ?zzk9 ?zzkB ?_ ?zzc2 ?zzc3 ?zzc4 ?zzc5; (case zzkA => exact rfl); (case zzkF => exact rfl); (case zzkK => first | exact rfl | assumption); (case zzk1 => k_asm); (case zzk2 => k_asm); (case zzk3 => k_asm); (case zzk4 => k_asm); (case zzkD => exact Apart.zero); (case zzk5 => k_asm); (case zzk6 => k_is); (case zzk7 => k_is); (case zzk8 => k_room); (case zzk9 => first | exact BindsTo.of_eq rfl | exact binds_K (by k_in) rfl (by k_is) rfl rfl rfl | (refine kp_binds (by k_in) ?_; exact fun _ => rfl) | fail "k_enter: no rule for these arguments"); (case zzc5 => decide); (case zzkB => exact locs rfl); (case zzc2 => exact rfl); (case zzc3 => exact rfl); (case zzc4 => exact rfl)); k_whole; intro zzg' zzL' zzh' zzFG' zzF' zzN' zzB' zzX' zzT' zzS'; (try dsimp only); (try k_lift zzB'); (try k_fold)))
  k_with "exec Assign cons ListComp" => ((k_here; (with_reducible show wpAny _ _ (exec (Stmt.Assign [Expr.Name _ _] (Expr.ListComp _ [Comprehension.mk (Expr.Name _ _) _ [] _] _ _) _) _) _ _ _); k_dflt (refine assign_M (F₀ := by k_asm) (by rfl) (by with_unfolding_all rfl) (by with_unfolding_all rfl) (by decide) (by rfl) (by decide) (by rfl) (by rfl) (by rfl) ?_)))
  k_with "exec Assign cons ListComp" => ((k_here; (with_reducible show wpAny _ _ (exec (Stmt.Assign [Expr.Name _ _] (Expr.ListComp _ [Comprehension.mk (Expr.Name _ _) _ [_] _] _ _) _) _) _ _ _); k_dflt (refine assign_MT (F₀ := by k_asm) (by rfl) (by with_unfolding_all rfl) (by with_unfolding_all rfl) (by decide) (by rfl) (by decide) (by rfl) (by rfl) (by rfl) ?_)))
  k_with "eval ListComp" => ((k_here; (with_reducible show wpAny _ _ (eval (Expr.ListComp _ [Comprehension.mk (Expr.Name _ _) _ [] _] _ _) _) _ _ _); k_dflt (refine comp_M (F₀ := by k_asm) (by with_unfolding_all rfl) (by decide) (by rfl) (by decide) (by rfl) ?_)))
  k_with "eval ListComp" => ((k_here; (with_reducible show wpAny _ _ (eval (Expr.ListComp _ [Comprehension.mk (Expr.Name _ _) _ [_] _] _ _) _) _ _ _); k_dflt (refine comp_MT (F₀ := by k_asm) (by with_unfolding_all rfl) (by decide) (by rfl) (by decide) (by rfl) ?_)))
  trivial
open PySem.Calls
theorem lines37 : True := by
  k_with "call builtin:str.lower" => ((k_here; k_dflt (refine lower_tit (by with_reducible assumption) ?_); intro _ _))
  k_with "delItem ref str" => (case zzfresh => (k_here; k_dflt (refine' Sl.del_ref ?zzF7 ?zzX7 ?zzI7 ?zzQ7 ?zzS7 ?zzf7 ?_; (case zzF7 => k_asm); (case zzX7 => k_asm); (case zzI7 => k_inst); (case zzS7 => k_is); (case zzf7 => k_is); (case zzQ7 => k_is); k_whole)))
  k_with "delItem ref" => (case zzfresh => (k_here; k_dflt (refine' Sl.del_ref ?zzF7 ?zzX7 ?zzI7 ?zzQ7 ?zzS7 ?zzf7 ?_; (case zzF7 => k_asm); (case zzX7 => k_asm); (case zzI7 => k_inst); (case zzS7 => k_is); (case zzf7 => k_is); (case zzQ7 => k_is); k_whole)))
  k_with "call ref" => (case zzfresh => (k_here; (with_reducible show wpAny _ _ (call (Value.ref 125) _) _ _ _); k_dflt (refine' ConF.use0 (Dl.del (by with_reducible assumption) (by with_reducible assumption) (by with_reducible assumption)) ?zzB ?zzF ?zzX ?zzN ?zzT ?zzhk ?zzhh ?zzhd ?zzhf ?zzhg ?zzhu ?_; (case zzhf => exact rfl); (case zzhk => exact rfl); (case zzhh => exact rfl); (case zzhg => exact rfl); (case zzF => k_asm); (case zzN => k_asm); (case zzB => k_asm); (case zzX => k_in); (case zzT => k_asm); (case zzhd => exact Nat.le_of_ble_eq_true rfl); (case zzhu => exact Nat.le_of_ble_eq_true rfl)); intro zzv' zzh' zztk' zzown' zzhpost' zzF' zzN'; k_dflt (obtain ⟨zze1', zze2'⟩ := zzhpost'); subst zze1'; subst zze2'; (dsimp only [bookL] at zzN')))
  k_with "call ref" => (case zzfresh => (k_here; k_dflt (show wpAny _ _ (call (Value.ref 106) [_, .str (S _) _] [(Str.ofString "name", .bool true)]) _ _ _); k_dflt (refine' ConF.useE (Cv.convN (by with_reducible assumption) (by with_reducible assumption)) ?zzB ?zzF ?zzX ?zzN ?zzT ?zzhk ?zzhh ?zzhd ?zzhf ?zzhg ?zzhu ?_; (case zzhf => exact rfl); (case zzhk => exact rfl); (case zzhh => exact rfl); (case zzhg => exact rfl); (case zzF => k_asm); (case zzN => k_asm); (case zzB => k_asm); (case zzX => k_in); (case zzT => k_asm); (case zzhd => exact Nat.le_of_ble_eq_true rfl); (case zzhu => exact Nat.le_of_ble_eq_true rfl)); intro zzv' zzh' zztk' zzhpost' zzF' zzN'; subst zzhpost'))
  k_with "call ref" => (case zzfresh => (k_here; k_dflt (show wpAny _ _ (call (Value.ref 106) [_, .str (S _) _] [(Str.ofString "name", .bool false)]) _ _ _); k_dflt (refine' ConF.useE (Cv.convV (by with_reducible assumption) (by with_reducible assumption)) ?zzB ?zzF ?zzX ?zzN ?zzT ?zzhk ?zzhh ?zzhd ?zzhf ?zzhg ?zzhu ?_; (case zzhf => exact rfl); (case zzhk => exact rfl); (case zzhh => exact rfl); (case zzhg => exact rfl); (case zzF => k_asm); (case zzN => k_asm); (case zzB => k_asm); (case zzX => k_in); (case zzT => k_asm); (case zzhd => exact Nat.le_of_ble_eq_true rfl); (case zzhu => exact Nat.le_of_ble_eq_true rfl)); intro zzv' zzh' zztk' zzhpost' zzF' zzN'; subst zzhpost'))
  trivial
theorem after {w : World} {h₀ h : Heap} {L : Addr} {B D G Tn : Addr} {T : Nat → Addr} {c : Nat → Nat} {x : Nat → List Nat} {a b : Nat → Tok} {tD : Tok} {k r c9 : Nat} {x9 : List Nat} {t9 u9 : Tok}
    (N : News h₀ L h [(Tn, pairO c9 x9 t9 u9), (B, instObj 207 D), (D, hdO w G tD), (G, PySem.W.listOf (#[Value.ref (T (skip r 0)), .ref (T (skip r 1)), .ref (T (skip r 2))].push (.ref Tn)) k),
      (T 0, pairO (c 0) (x 0) (a 0) (b 0)), (T 1, pairO (c 1) (x 1) (a 1) (b 1)), (T 2, pairO (c 2) (x 2) (a 2) (b 2)), (T 3, pairO (c 3) (x 3) (a 3) (b 3))]) (hr : r < 4) :
    News h₀ L h (book w B D G (upd3 T r Tn) (upd3 c r c9) (upd3 x r x9) (upd3 a r t9) (upd3 b r u9) tD k) := by
  have mem : ∀ j, j < 3 → (T (skip r j), pairO (c (skip r j)) (x (skip r j)) (a (skip r j)) (b (skip r j))) ∈
      [(T 0, pairO (c 0) (x 0) (a 0) (b 0)), (T 1, pairO (c 1) (x 1) (a 1) (b 1)), (T 2, pairO (c 2) (x 2) (a 2) (b 2)), (T 3, pairO (c 3) (x 3) (a 3) (b 3))] := fun j hj => by
    have h4 : skip r j < 4 := by unfold skip; split <;> omega
    generalize skip r j = i at h4
    match i, h4 with
    | 0, _ => exact .head _
    | 1, _ => exact .tail _ (.head _)
    | 2, _ => exact .tail _ (.tail _ (.head _))
    | 3, _ => exact .tail _ (.tail _ (.tail _ (.head _)))
  have old : ∀ j, j < 3 → ∀ p : Addr × Obj, p = (T (skip r j), pairO (c (skip r j)) (x (skip r j)) (a (skip r j)) (b (skip r j))) → h.get? p.1 = some p.2 ∧ p.1 ≠ L ∧ h₀.get? p.1 = none := fun j hj p e => by
    subst e
    exact N _ (.tail _ (.tail _ (.tail _ (.tail _ (mem j hj)))))
  intro p hp
  rcases List.mem_cons.mp hp with e | hp
  · exact N p (by rw [e]; exact .tail _ (.head _))
  rcases List.mem_cons.mp hp with e | hp
  · exact N p (by rw [e]; exact .tail _ (.tail _ (.head _)))
  rcases List.mem_cons.mp hp with e | hp
  · exact N p (by rw [e]; exact .tail _ (.tail _ (.tail _ (.head _))))
  rcases List.mem_cons.mp hp with e | hp
  · exact old 0 (by decide) p e
  rcases List.mem_cons.mp hp with e | hp
  · exact old 1 (by decide) p e
  rcases List.mem_cons.mp hp with e | hp
  · exact old 2 (by decide) p e
  rcases List.mem_cons.mp hp with e | hp
  · exact N p (by rw [e]; exact .head _)
  · cases hp
set_option maxRecDepth 100000 in
set_option maxHeartbeats 1000000 in
theorem store {w : World} {B D G : Addr} {T : Nat → Addr} {c : Nat → Nat} {x : Nat → List Nat} {a b : Nat → Tok} {tD : Tok} {n : Nat} {σ τ : Nat → Nat} {c9 s9 : Nat} {t9 : Tok} {x9 : List Nat} {u9 : Tok} (hp : Per σ τ) (hc : ∀ j, j < 4 → Tit (c j) (σ j)) (h9 : Tit c9 s9) (hv : ∀ c ∈ x9, Re.FineV c) (hl : x9.length ≤ 1000) :
    ConF w 2 (call (.ref 228) [.ref B, .str (S [c9]) t9, .str (S x9) u9]) (book w B D G T c x a b tD n)
      (fun v own' => v = .none ∧ ∃ Tn n', own' = book w B D G (upd3 T (τ s9) Tn) (upd3 c (τ s9) c9) (upd3 x (τ s9) x9) (upd3 a (τ s9) t9) (upd3 b (τ s9) u9) tD n') := by
  have f9 := h9.fine
  have k9 : [c9].length ≤ 1000 := by simp
  dsimp only [book]
  refine ConF.opened ?_
  k_fill
  intro rest p loose mean mg mb cn cs a' ccd cl L outer A₀ base' h₀ m sh sg sd so sk Q E B' F X N TT hk' hap hret
  have nB : B ≠ G := Dl.ne_of N (List.mem_append_left _ (by k_mem)) (List.mem_append_left _ (by k_mem)) (by show Value.ref 207 ≠ .type "list"; decide)
  have nD : D ≠ G := Dl.ne_of N (List.mem_append_left _ (by k_mem)) (List.mem_append_left _ (by k_mem)) (by show Value.type "dict" ≠ .type "list"; decide)
  have n0 : T 0 ≠ G := Dl.ne_of N (List.mem_append_left _ (by k_mem)) (List.mem_append_left _ (by k_mem)) (by show Value.type "tuple" ≠ .type "list"; decide)
  have n1 : T 1 ≠ G := Dl.ne_of N (List.mem_append_left _ (by k_mem)) (List.mem_append_left _ (by k_mem)) (by show Value.type "tuple" ≠ .type "list"; decide)
  have n2 : T 2 ≠ G := Dl.ne_of N (List.mem_append_left _ (by k_mem)) (List.mem_append_left _ (by k_mem)) (by show Value.type "tuple" ≠ .type "list"; decide)
  have n3 : T 3 ≠ G := Dl.ne_of N (List.mem_append_left _ (by k_mem)) (List.mem_append_left _ (by k_mem)) (by show Value.type "tuple" ≠ .type "list"; decide)
  walk_at "mine open R"
  k_steps
  rename News h₀ L _ rest => NR
  rename Stand _ rest => SR
  rename News h₀ L _ (_ :: _ :: _ :: _) => N7
  revert N7
  rename News _ _ _ (_ :: _ :: _ :: _) => N6
  have N9 := after (r := τ s9) N6 (hp.t4 _ h9.s4)
  intro N7
  have N8 := after (r := τ s9) N7 (hp.t4 _ h9.s4)
  refine hret _ _ _ _ ⟨_, rfl, Mine.apart_of N9 SR, rfl, _, _, rfl⟩ ?_ (Mine.News.both N8 NR)
  assumption

end Mine.St
end
section
open PySem PySem.W PyProof.Rows PySem.Builtin.Int
open PyProof.Rows.LCg Mine.LC Mine.Bk
namespace Mine.My
theorem lines38 : True := by
  k_with_none
  w_top off
  k_with "execs cons" => (((try dsimp only); refine toks_any ?_; intro _))
  k_with "k_enter" => (case zzfresh => (refine' code_def ?zzk1 ?zzk2 ?zzk3 ?zzk4 ?zzk5 ?zzkA ?zzkF ?zzkK ?zzk6 ?zzk7 ?zzk8 ?zzk9 ?zzkB ?_ ?zzc2 ?zzc3 ?zzc4 ?zzc5; (case zzkA => exact rfl); (case zzkF => exact rfl); (case zzkK => first | exact rfl | assumption); (case zzk1 => k_asm); (case zzk2 => k_asm); (case zzk3 => k_asm); (case zzk4 => k_asm); (case zzk5 => k_asm); (case zzk6 => k_is); (case zzk7 => k_is); (case zzk8 => k_room); (case zzk9 => first | exact BindsTo.of_eq rfl | exact binds_K (by k_in) rfl (by k_is) rfl rfl rfl | (refine kp_binds (by k_in) ?_; exact fun _ => rfl) | fail "k_enter: no rule for these arguments"); (case zzc5 => decide); (case zzkB => exact locs rfl); (case zzc2 => exact rfl); (case zzc3 => exact rfl); (case zzc4 => exact rfl); k_whole; intro zzg' zzL' zzh' zzFG' zzF' zzN' zzB' zzX' zzT'; (try dsimp only); (try k_lift zzB'); (try k_fold)))
  k_with "k_enter" => (case zzfresh => (refine' code_defC ?zzk1 ?zzk2 ?zzk3 ?zzk4 ?zzk5 ?zzkA ?zzkF ?zzkK ?zzk6 ?zzk7 ?zzk8 ?zzk9 ?zzkB ?zzkD ?_ ?zzc2 ?zzc3 ?zzc4; (case zzkA => exact rfl); (case zzkF => exact rfl); (case zzkK => first | exact rfl | assumption); (case zzk1 => k_asm); (case zzk2 => k_asm); (case zzk3 => k_asm); (case zzk4 => k_asm); (case zzk5 => k_asm); (case zzk6 => k_is); (case zzk7 => k_is); (case zzk8 => k_room); (case zzk9 => first | exact BindsTo.of_eq rfl | exact binds_K (by k_in) rfl (by k_is) rfl rfl rfl | (refine kp_binds (by k_in) ?_; exact fun _ => rfl) | fail "k_enter: no rule for these arguments"); (case zzkB => exact rfl); (case zzkD => decide +kernel); (case zzc2 => exact rfl); (case zzc3 => exact rfl); (case zzc4 => exact rfl); k_whole; intro zzg' zzL' zzh' zztk' zzcells' zzFG' zzF' zzN' zzY' zzB' zzX' zzT' zzl1; (try k_lt zzl1); k_cells zzY'; (try simp only [List.cons_append, List.nil_append] at zzN'); (try dsimp only); (try k_lift zzB'); (try k_fold)))
  k_with "mine open" => ((refine wpAny_call ?_; k_dflt (first | k_enter | kc_enter)))
  k_with "mine open R" => (case zzfresh => (refine wpAny_call ?_; k_dflt (refine' code_defR ?zzk1 ?zzk2 ?zzk3 ?zzk4 ?zzkD ?zzk5 ?zzkA ?zzkF ?zzkK ?zzk6 ?zzk7 ?zzk8 ?zzk9 ?zzkB ?_ ?zzc2 ?zzc3 ?zzc4 ?zzc5; (case zzkA => exact rfl); (case zzkF => exact rfl); (case zzkK => first | exact rfl | assumption); (case zzk1 => k_asm); (case zzk2 => k_asm); (case zzk3 => k_asm); (case zzk4 => with_reducible assumption); (case zzkD => with_reducible assumption); (case zzk5 => k_asm); (case zzk6 => k_is); (case zzk7 => k_is); (case zzk8 => k_room); (case zzk9 => first | exact BindsTo.of_eq rfl | exact binds_K (by k_in) rfl (by k_is) rfl rfl rfl | (refine kp_binds (by k_in) ?_; exact fun _ => rfl) | fail "k_enter: no rule for these arguments"); (case zzc5 => decide); (case zzkB => exact locs rfl); (case zzc2 => exact rfl); (case zzc3 => exact rfl); (case zzc4 => exact rfl)); k_whole; intro zzg' zzL' zzh' zzFG' zzF' zzN' zzB' zzX' zzT' zzS'; (try dsimp only); (try k_lift zzB'); (try k_fold)))
  k_with "mine open CR" => (case zzfresh => (refine wpAny_call ?_; k_dflt (refine' code_defCR ?zzk1 ?zzk2 ?zzk3 ?zzk4 ?zzkR ?zzk5 ?zzkA ?zzkF ?zzkK ?zzk6 ?zzk7 ?zzk8 ?zzk9 ?zzkB ?zzkD ?_ ?zzc2 ?zzc3 ?zzc4; (case zzkA => exact rfl); (case zzkF => exact rfl); (case zzkK => first | exact rfl | assumption); (case zzk1 => k_asm); (case zzk2 => k_asm); (case zzk3 => k_asm); (case zzk4 => with_reducible assumption); (case zzkR => with_reducible assumption); (case zzk5 => k_asm); (case zzk6 => k_is); (case zzk7 => k_is); (case zzk8 => k_room); (case zzk9 => first | exact BindsTo.of_eq rfl | exact binds_K (by k_in) rfl (by k_is) rfl rfl rfl | (refine kp_binds (by k_in) ?_; exact fun _ => rfl) | fail "k_enter: no rule for these arguments"); (case zzkB => exact rfl); (case zzkD => decide +kernel); (case zzc2 => exact rfl); (case zzc3 => exact rfl); (case zzc4 => exact rfl)); k_whole; intro zzg' zzL' zzh' zztk' zzcells' zzFG' zzF' zzN' zzY' zzB' zzX' zzT' zzl1 zzS'; (try k_lt zzl1); k_cells zzY'; (try simp only [List.cons_append, List.nil_append] at zzN'); (try dsimp only); (try k_lift zzB'); (try k_fold)))
  k_with "mine open CR0" => (case zzfresh => (refine wpAny_call ?_; k_dflt (refine' code_defCR (own := []) ?zzk1 ?zzk2 ?zzk3 ?zzk4 ?zzkR ?zzk5 ?zzkA ?zzkF ?zzkK ?zzk6 ?zzk7 ?zzk8 ?zzk9 ?zzkB ?zzkD ?_ ?zzc2 ?zzc3 ?zzc4; (case zzkA => exact rfl); (case zzkF => exact rfl); (case zzkK => first | exact rfl | assumption); (case zzk1 => k_asm); (case zzk2 => k_asm); (case zzk3 => k_asm); (case zzk4 => k_asm); (case zzkR => exact Apart.zero); (case zzk5 => k_asm); (case zzk6 => k_is); (case zzk7 => k_is); (case zzk8 => k_room); (case zzk9 => first | exact BindsTo.of_eq rfl | exact binds_K (by k_in) rfl (by k_is) rfl rfl rfl | (refine kp_binds (by k_in) ?_; exact fun _ => rfl) | fail "k_enter: no rule for these arguments"); (case zzkB => exact rfl); (case zzkD => decide +kernel); (case zzc2 => exact rfl); (case zzc3 => exact rfl); (case zzc4 => exact rfl)); k_whole; intro zzg' zzL' zzh' zztk' zzcells' zzFG' zzF' zzN' zzY' zzB' zzX' zzT' zzl1 zzS'; clear zzl1; k_cells zzY'; (try simp only [List.cons_append, List.nil_append, List.append_nil] at zzN'); (try dsimp only); (try k_lift zzB'); (try k_fold)))
  k_with "mine open R0" => (case zzfresh => (refine wpAny_call ?_; k_dflt (refine' code_defR (own := []) ?zzk1 ?zzk2 ?zzk3 ?zzk4 ?zzkD ?zzk5 ?zzkA ?zzkF ?zzkK ?zzk6 ?zzk7 ?zzk8 ?zzk9 ?zzkB ?_ ?zzc2 ?zzc3 ?zzc4 ?zzc5; (case zzkA => exact rfl); (case zzkF => exact rfl); (case zzkK => first | exact rfl | assumption); (case zzk1 => k_asm); (case zzk2 => k_asm); (case zzk3 => k_asm); (case zzk4 => k_asm); (case zzkD => exact Apart.zero); (case zzk5 => k_asm); (case zzk6 => k_is); (case zzk7 => k_is); (case zzk8 => k_room); (case zzk9 => first | exact BindsTo.of_eq rfl | exact binds_K (by k_in) rfl (by k_is) rfl rfl rfl | (refine kp_binds (by k_in) ?_; exact fun _ => rfl) | fail "k_enter: no rule for these arguments"); (case zzc5 => decide); (case zzkB => exact locs rfl); (case zzc2 => exact rfl); (case zzc3 => exact rfl); (case zzc4 => exact rfl)); k_whole; intro zzg' zzL' zzh' zzFG' zzF' zzN' zzB' zzX' zzT' zzS'; (try dsimp only); (try k_lift zzB'); (try k_fold)))
  k_with "exec Assign cons ListComp" => ((k_here; (with_reducible show wpAny _ _ (exec (Stmt.Assign [Expr.Name _ _] (Expr.ListComp _ [Comprehension.mk (Expr.Name _ _) _ [] _] _ _) _) _) _ _ _); k_dflt (refine assign_M (F₀ := by k_asm) (by rfl) (by with_unfolding_all rfl) (by with_unfolding_all rfl) (by decide) (by rfl) (by decide) (by rfl) (by rfl) (by rfl) ?_)))
  k_with "exec Assign cons ListComp" => ((k_here; (with_reducible show wpAny _ _ (exec (Stmt.Assign [Expr.Name _ _] (Expr.ListComp _ [Comprehension.mk (Expr.Name _ _) _ [_] _] _ _) _) _) _ _ _); k_dflt (refine assign_MT (F₀ := by k_asm) (by rfl) (by with_unfolding_all rfl) (by with_unfolding_all rfl) (by decide) (by rfl) (by decide) (by rfl) (by rfl) (by rfl) ?_)))
  k_with "eval ListComp" => ((k_here; (with_reducible show wpAny _ _ (eval (Expr.ListComp _ [Comprehension.mk (Expr.Name _ _) _ [] _] _ _) _) _ _ _); k_dflt (refine comp_M (F₀ := by k_asm) (by with_unfolding_all rfl) (by decide) (by rfl) (by decide) (by rfl) ?_)))
  k_with "eval ListComp" => ((k_here; (with_reducible show wpAny _ _ (eval (Expr.ListComp _ [Comprehension.mk (Expr.Name _ _) _ [_] _] _ _) _) _ _ _); k_dflt (refine comp_MT (F₀ := by k_asm) (by with_unfolding_all rfl) (by decide) (by rfl) (by decide) (by rfl) ?_)))
  trivial
open PySem.Calls
theorem lines39 : True := by
  k_with "call ref" => (case zzfresh => (k_here; (with_reducible show wpAny _ _ (call (Value.ref 74) _) _ _ _); k_dflt (refine' ConF.useE (Capw.cap (by with_reducible assumption) (by with_reducible assumption)) ?zzB ?zzF ?zzX ?zzN ?zzT ?zzhk ?zzhh ?zzhd ?zzhf ?zzhg ?zzhu ?_; (case zzhf => exact rfl); (case zzhk => exact rfl); (case zzhh => exact rfl); (case zzhg => exact rfl); (case zzF => k_asm); (case zzN => k_asm); (case zzB => k_asm); (case zzX => k_in); (case zzT => k_asm); (case zzhd => exact Nat.le_of_ble_eq_true rfl); (case zzhu => exact Nat.le_of_ble_eq_true rfl)); intro zzv' zzh' zztk' zzhpost' zzF' zzN'; k_dflt (obtain ⟨zzu1', zze1'⟩ := zzhpost'); subst zze1'))
  trivial
theorem four {f : Nat → List Nat} {ys : List Value} (h : AreAll (fun j y => ∃ u, y = .str (S (f j)) u) (List.range 4) ys) : ∃ u0 u1 u2 u3, ys = [Value.str (S (f 0)) u0, .str (S (f 1)) u1, .str (S (f 2)) u2, .str (S (f 3)) u3] := by
  obtain ⟨us, h1, h2⟩ := toks_by h
  obtain ⟨p0, r0, e0, h1⟩ := uncons h1
  obtain ⟨p1, r1, e1, h1⟩ := uncons h1
  obtain ⟨p2, r2, e2, h1⟩ := uncons h1
  obtain ⟨p3, r3, e3, h1⟩ := uncons h1
  cases List.eq_nil_of_length_eq_zero h1
  rw [e0, e1, e2, e3] at h2
  exact ⟨p0, p1, p2, p3, h2⟩
theorem sp_inj : ∀ a b : List Nat, sp a = sp b → a = b
  | [], [], _ => rfl
  | [], [y], h => by simp [sp, inter] at h
  | [], y :: z :: r, h => by simp [sp, inter] at h
  | [x], [], h => by simp [sp, inter] at h
  | [x], [y], h => by simp [sp, inter] at h; rw [h]
  | [x], y :: z :: r, h => by simp [sp, inter] at h
  | x :: x' :: r, [], h => by simp [sp, inter] at h
  | x :: x' :: r, [y], h => by simp [sp, inter] at h
  | x :: x' :: r, y :: y' :: r', h => by
    have h' : 65 + x = 65 + y ∧ sp (x' :: r) = sp (y' :: r') := by
      simp only [sp, List.map_cons, inter, List.cons_append, List.nil_append, List.cons.injEq] at h
      exact ⟨h.1, h.2.2.2⟩
    have := sp_inj (x' :: r) (y' :: r') h'.2
    rw [this, show x = y by lia]
theorem sp_eq {a b : List Nat} : (S (sp a) == S (sp b)) = decide (a = b) := by
  by_cases h : a = b
  · subst h; simp
  · have : sp a ≠ sp b := fun e => h (sp_inj a b e)
    simp [h, this]
theorem two {g h : Heap} {L : Addr} {l : Led} {p q : Addr × Obj} (N : News g L h l) (h1 : p ∈ l) (h2 : q ∈ l) : News g L h [p, q] := fun r hr => by
  rcases List.mem_cons.mp hr with e | hr
  · rw [e]; exact N _ h1
  · rw [List.mem_singleton.mp hr]; exact N _ h2
/-- the seats that may move -/
def mayN (d : Nat → List Nat) : List Nat := (List.range 4).filter fun j => decide (d j = d ((j + 3) % 4)) == decide (j = 0)
set_option maxRecDepth 100000 in
set_option maxHeartbeats 1000000 in
theorem may {w : World} {R : Addr} {d : Nat → List Nat} {k : Nat → Nat} {u0 u1 u2 u3 : Tok} {n : Nat} (hd : ∀ j, j < 4 → Ok (d j)) (hk : ∀ j, j < 4 → k j < 3) :
    ConF w 2 (call (.ref 243) [.ref R]) [(R, lstN [Value.str (S (tx (d 0) (k 0))) u0, .str (S (tx (d 1) (k 1))) u1, .str (S (tx (d 2) (k 2))) u2, .str (S (tx (d 3) (k 3))) u3] n)]
      (fun v own' => ∃ M ys, v = .ref M ∧ own' = (M, lst ys) :: [(R, lstN [Value.str (S (tx (d 0) (k 0))) u0, .str (S (tx (d 1) (k 1))) u1, .str (S (tx (d 2) (k 2))) u2, .str (S (tx (d 3) (k 3))) u3] n)] ∧ R ≠ M ∧ IntsAre ys ((mayN d).map fun j : Nat => (j : Int))) := by
  have d0 := hd 0 (by decide)
  have d1 := hd 1 (by decide)
  have d2 := hd 2 (by decide)
  have d3 := hd 3 (by decide)
  have k0 := hk 0 (by decide)
  have k1 := hk 1 (by decide)
  have k2 := hk 2 (by decide)
  have k3 := hk 3 (by decide)
  refine ConF.opened ?_
  k_fill
  intro rest p loose mean mg mb cn cs a' ccd cl L outer A₀ base' h₀ m sh sg sd so sk Q E B' F X N TT hk' hap hret
  walk_at "mine open CR"
  k_steps
  refine SrcM.led rfl (by k_asm) (by k_asm) (by k_mem) (by show (4 : Nat) ≤ sizeLine; rw [sizeLine_eq]; decide) fun g' => ?_
  refine rest_map (R := fun j y => ∃ u, y = .str (S (sp (d j))) u) (.inr ⟨_, by k_mem, rfl, _, rfl⟩) ?_ ?_
  · intro i ys v I oI C oC D m₂ h tk E' hi hP hC hx F1 N1 off ne
    have hi4 : i < 4 := hi
    have alt : i = 0 ∨ i = 1 ∨ i = 2 ∨ i = 3 := by lia
    clear hd hk hi hi4
    rcases alt with rfl | rfl | rfl | rfl
    · obtain rfl : v = .str (S (tx (d 0) (k 0))) u0 := (Option.some.inj hP).symm
      k_steps
      exact ⟨_, _, rfl, by assumption, by assumption, _, rfl⟩
    · obtain rfl : v = .str (S (tx (d 1) (k 1))) u1 := (Option.some.inj hP).symm
      k_steps
      exact ⟨_, _, rfl, by assumption, by assumption, _, rfl⟩
    · obtain rfl : v = .str (S (tx (d 2) (k 2))) u2 := (Option.some.inj hP).symm
      k_steps
      exact ⟨_, _, rfl, by assumption, by assumption, _, rfl⟩
    · obtain rfl : v = .str (S (tx (d 3) (k 3))) u3 := (Option.some.inj hP).symm
      k_steps
      exact ⟨_, _, rfl, by assumption, by assumption, _, rfl⟩
  · intro ys ha
    obtain ⟨v0, v1, v2, v3, rfl⟩ := four ha
    clear ha
    k_steps
    refine SrcMT.range rfl (by k_asm) (by k_asm) (by assumption) (n := 4) (by decide) (by decide) (by rw [sizeLine_eq]; decide) fun g' => ?_
    refine rest_filter (p := fun j => decide (d j = d ((j + 3) % 4)) == decide (j = 0)) (R := fun j y => ∃ u, y = .int (j : Int) u) trivial ?_ ?_
    · intro i ys v I oI C oC D m₂ h tk E' hi hP hC hx F1 N1 off ne
      have alt : i = 0 ∨ i = 1 ∨ i = 2 ∨ i = 3 := by lia
      clear hd hk hi
      obtain ⟨u9, rfl⟩ := hP
      rcases alt with rfl | rfl | rfl | rfl
      · k_steps
        · show ((S (sp (d 0)) == S (sp (d 3))) == _) = (decide (d 0 = d 3) == decide (0 = 0))
          rw [sp_eq]; rfl
        · exact ⟨_, _, rfl, by assumption, by assumption, _, by rw [Int.zero_add]⟩
        · exact ⟨_, _, rfl, by assumption, by assumption, trivial⟩
      · k_steps
        · show ((S (sp (d 1)) == S (sp (d 0))) == _) = (decide (d 1 = d 0) == decide (1 = 0))
          rw [sp_eq]; rfl
        · exact ⟨_, _, rfl, by assumption, by assumption, _, by rw [Int.zero_add]⟩
        · exact ⟨_, _, rfl, by assumption, by assumption, trivial⟩
      · k_steps
        · show ((S (sp (d 2)) == S (sp (d 1))) == _) = (decide (d 2 = d 1) == decide (2 = 0))
          rw [sp_eq]; rfl
        · exact ⟨_, _, rfl, by assumption, by assumption, _, by rw [Int.zero_add]⟩
        · exact ⟨_, _, rfl, by assumption, by assumption, trivial⟩
      · k_steps
        · show ((S (sp (d 3)) == S (sp (d 2))) == _) = (decide (d 3 = d 2) == decide (3 = 0))
          rw [sp_eq]; rfl
        · exact ⟨_, _, rfl, by assumption, by assumption, _, by rw [Int.zero_add]⟩
        · exact ⟨_, _, rfl, by assumption, by assumption, trivial⟩
    · intro ys ha
      have hia : IntsAre ys ((mayN d).map fun j : Nat => (j : Int)) := intsAre_of ha
      clear ha
      k_steps
      rename News h₀ L _ rest => NR
      rename Stand _ rest => SR
      rename News h₀ L _ (_ :: _ :: _) => N7
      have N8 := two (q := (R, lstN [Value.str (S (tx (d 0) (k 0))) u0, .str (S (tx (d 1) (k 1))) u1, .str (S (tx (d 2) (k 2))) u2, .str (S (tx (d 3) (k 3))) u3] n)) N7 (.head _) (by k_mem)
      revert N7
      rename News _ _ _ (_ :: _ :: _ :: _) => N6
      intro N7
      have N9 := two (q := (R, lstN [Value.str (S (tx (d 0) (k 0))) u0, .str (S (tx (d 1) (k 1))) u1, .str (S (tx (d 2) (k 2))) u2, .str (S (tx (d 3) (k 3))) u3] n)) N6 (.head _) (by k_mem)
      refine hret _ _ _ _ ⟨_, rfl, Mine.apart_of N9 SR, _, ys, rfl, rfl, by k_ne, hia⟩ ?_ (Mine.News.both N8 NR)
      assumption

end Mine.My
end
section
open PySem PySem.W PyProof.Rows PySem.Builtin.Int
open PyProof.Rows.LCg Mine.LC 
namespace Mine.Gen
theorem lines40 : True := by
  k_with_none
  w_top off
  k_with "execs cons" => (((try dsimp only); refine toks_any ?_; intro _))
  k_with "k_enter" => (case zzfresh => (refine' code_def ?zzk1 ?zzk2 ?zzk3 ?zzk4 ?zzk5 ?zzkA ?zzkF ?zzkK ?zzk6 ?zzk7 ?zzk8 ?zzk9 ?zzkB ?_ ?zzc2 ?zzc3 ?zzc4 ?zzc5; (case zzkA => exact rfl); (case zzkF => exact rfl); (case zzkK => first | exact rfl | assumption); (case zzk1 => k_asm); (case zzk2 => k_asm); (case zzk3 => k_asm); (case zzk4 => k_asm); (case zzk5 => k_asm); (case zzk6 => k_is); (case zzk7 => k_is); (case zzk8 => k_room); (case zzk9 => first | exact BindsTo.of_eq rfl | exact binds_K (by k_in) rfl (by k_is) rfl rfl rfl | (refine kp_binds (by k_in) ?_; exact fun _ => rfl) | fail "k_enter: no rule for these arguments"); (case zzc5 => decide); (case zzkB => exact locs rfl); (case zzc2 => exact rfl); (case zzc3 => exact rfl); (case zzc4 => exact rfl); k_whole; intro zzg' zzL' zzh' zzFG' zzF' zzN' zzB' zzX' zzT'; (try dsimp only); (try k_lift zzB'); (try k_fold)))
  k_with "k_enter" => (case zzfresh => (refine' code_defC ?zzk1 ?zzk2 ?zzk3 ?zzk4 ?zzk5 ?zzkA ?zzkF ?zzkK ?zzk6 ?zzk7 ?zzk8 ?zzk9 ?zzkB ?zzkD ?_ ?zzc2 ?zzc3 ?zzc4; (case zzkA => exact rfl); (case zzkF => exact rfl); (case zzkK => first | exact rfl | assumption); (case zzk1 => k_asm); (case zzk2 => k_asm); (case zzk3 => k_asm); (case zzk4 => k_asm); (case zzk5 => k_asm); (case zzk6 => k_is); (case zzk7 => k_is); (case zzk8 => k_room); (case zzk9 => first | exact BindsTo.of_eq rfl | exact binds_K (by k_in) rfl (by k_is) rfl rfl rfl | (refine kp_binds (by k_in) ?_; exact fun _ => rfl) | fail "k_enter: no rule for these arguments"); (case zzkB => exact rfl); (case zzkD => decide +kernel); (case zzc2 => exact rfl); (case zzc3 => exact rfl); (case zzc4 => exact rfl); k_whole; intro zzg' zzL' zzh' zztk' zzcells' zzFG' zzF' zzN' zzY' zzB' zzX' zzT' zzl1; (try k_lt zzl1); k_cells zzY'; (try simp only [List.cons_append, List.nil_append] at zzN'); (try dsimp only); (try k_lift zzB'); (try k_fold)))
  k_with "mine open" => ((refine wpAny_call ?_; k_dflt (first | k_enter | kc_enter)))
  k_with "mine open R" => (case zzfresh => (refine wpAny_call ?_; k_dflt (refine' code_defR ?zzk1 ?zzk2 ?zzk3 ?zzk4 ?zzkD ?zzk5 ?zzkA ?zzkF ?zzkK ?zzk6 ?zzk7 ?zzk8 ?zzk9 ?zzkB ?_ ?zzc2 ?zzc3 ?zzc4 ?zzc5; (case zzkA => exact rfl); (case zzkF => exact rfl); (case zzkK => first | exact rfl | assumption); (case zzk1 => k_asm); (case zzk2 => k_asm); (case zzk3 => k_asm); (case zzk4 => with_reducible assumption); (case zzkD => with_reducible assumption); (case zzk5 => k_asm); (case zzk6 => k_is); (case zzk7 => k_is); (case zzk8 => k_room); (case zzk9 => first | exact BindsTo.of_eq rfl | exact binds_K (by k_in) rfl (by k_is) rfl rfl rfl | (refine kp_binds (by k_in) ?_; exact fun _ => rfl) | fail "k_enter: no rule for these arguments"); (case zzc5 => decide); (case zzkB => exact locs rfl); (case zzc2 => exact rfl); (case zzc3 => exact rfl); (case zzc4 => exact rfl)); k_whole; intro zzg' zzL' zzh' zzFG' zzF' zzN' zzB' zzX' zzT' zzS'; (try dsimp only); (try k_lift zzB'); (try k_fold)))
  k_with "mine open CR" => (case zzfresh => (refine wpAny_call ?_; k_dflt (refine' code_defCR ?zzk1 ?zzk2 ?zzk3 ?zzk4 ?zzkR ?zzk5 ?zzkA ?zzkF ?zzkK ?zzk6 ?zzk7 ?zzk8 ?zzk9 ?zzkB ?zzkD ?_ ?zzc2 ?zzc3 ?zzc4; (case zzkA => exact rfl); (case zzkF => exact rfl); (case zzkK => first | exact rfl | assumption); (case zzk1 => k_asm); (case zzk2 => k_asm); (case zzk3 => k_asm); (case zzk4 => with_reducible assumption); (case zzkR => with_reducible assumption); (case zzk5 => k_asm); (case zzk6 => k_is); (case zzk7 => k_is); (case zzk8 => k_room); (case zzk9 => first | exact BindsTo.of_eq rfl | exact binds_K (by k_in) rfl (by k_is) rfl rfl rfl | (refine kp_binds (by k_in) ?_; exact fun _ => rfl) | fail "k_enter: no rule for these arguments"); (case zzkB => exact rfl); (case zzkD => decide +kernel); (case zzc2 => exact rfl); (case zzc3 => exact rfl); (case zzc4 => exact rfl)); k_whole; intro zzg' zzL' zzh' zztk' zzcells' zzFG' zzF' zzN' zzY' zzB' zzX' zzT' zzl1 zzS'; (try k_lt zzl1); k_cells zzY'; (try simp only [List.cons_append, List.nil_append] at zzN'); (try dsimp only); (try k_lift zzB'); (try k_fold)))
  k_with "mine open CR0" => (case zzfresh => (refine wpAny_call ?_; k_dflt (refine' code_defCR (own := []) ?zzk1 ?zzk2 ?zzk3 ?zzk4 ?zzkR ?zzk5 ?zzkA ?zzkF ?zzkK ?zzk6 ?zzk7 ?zzk8 ?zzk9 ?zzkB ?zzkD ?_ ?zzc2 ?zzc3 ?zzc4; (case zzkA => exact rfl); (case zzkF => exact rfl); (case zzkK => first | exact rfl | assumption); (case zzk1 => k_asm); (case zzk2 => k_asm); (case zzk3 => k_asm); (case zzk4 => k_asm); (case zzkR => exact Apart.zero); (case zzk5 => k_asm); (case zzk6 => k_is); (case zzk7 => k_is); (case zzk8 => k_room); (case zzk9 => first | exact BindsTo.of_eq rfl | exact binds_K (by k_in) rfl (by k_is) rfl rfl rfl | (refine kp_binds (by k_in) ?_; exact fun _ => rfl) | fail "k_enter: no rule for these arguments"); (case zzkB => exact rfl); (case zzkD => decide +kernel); (case zzc2 => exact rfl); (case zzc3 => exact rfl); (case zzc4 => exact rfl)); k_whole; intro zzg' zzL' zzh' zztk' zzcells' zzFG' zzF' zzN' zzY' zzB' zzX' zzT' zzl1 zzS'; clear zzl1; k_cells zzY'; (try simp only [List.cons_append, List.nil_append, List.append_nil] at zzN'); (try dsimp only); (try k_lift zzB'); (try k_fold)))
  k_with "mine open R0" => (case zzfresh => (refine wpAny_call ?_; k_dflt (refine' code_defR (own := []) ?zzk1 ?zzk2 ?zzk3 ?zzk4 ?zzkD ?zzk5 ?zzkA ?zzkF ?zzkK ?zzk6 ?zzk7 ?zzk8 ?zzk9 ?zzkB ?_ ?zzc2 ?zzc3 ?zzc4 ?zzc5; (case zzkA => exact rfl); (case zzkF => exact rfl); (case zzkK => first | exact rfl | assumption); (case zzk1 => k_asm); (case zzk2 => k_asm); (case zzk3 => k_asm); (case zzk4 => k_asm); (case zzkD => exact Apart.zero); (case zzk5 => k_asm); (case zzk6 => k_is); (case zzk7 => k_is); (case zzk8 => k_room); (case zzk9 => first | exact BindsTo.of_eq rfl | exact binds_K (by k_in) rfl (by k_is) rfl rfl rfl | (refine kp_binds (by k_in) ?_; exact fun _ => rfl) | fail "k_enter: no rule for these arguments"); (case zzc5 => decide); (case zzkB => exact locs rfl); (case zzc2 => exact rfl); (case zzc3 => exact rfl); (case zzc4 => exact rfl)); k_whole; intro zzg' zzL' zzh' zzFG' zzF' zzN' zzB' zzX' zzT' zzS'; (try dsimp only); (try k_lift zzB'); (try k_fold)))
  k_with "exec Assign cons ListComp" => ((k_here; (with_reducible show wpAny _ _ (exec (Stmt.Assign [Expr.Name _ _] (Expr.ListComp _ [Comprehension.mk (Expr.Name _ _) _ [] _] _ _) _) _) _ _ _); k_dflt (refine assign_M (F₀ := by k_asm) (by rfl) (by with_unfolding_all rfl) (by with_unfolding_all rfl) (by decide) (by rfl) (by decide) (by rfl) (by rfl) (by rfl) ?_)))
  k_with "exec Assign cons ListComp" => ((k_here; (with_reducible show wpAny _ _ (exec (Stmt.Assign [Expr.Name _ _] (Expr.ListComp _ [Comprehension.mk (Expr.Name _ _) _ [_] _] _ _) _) _) _ _ _); k_dflt (refine assign_MT (F₀ := by k_asm) (by rfl) (by with_unfolding_all rfl) (by with_unfolding_all rfl) (by decide) (by rfl) (by decide) (by rfl) (by rfl) (by rfl) ?_)))
  k_with "eval ListComp" => ((k_here; (with_reducible show wpAny _ _ (eval (Expr.ListComp _ [Comprehension.mk (Expr.Name _ _) _ [] _] _ _) _) _ _ _); k_dflt (refine comp_M (F₀ := by k_asm) (by with_unfolding_all rfl) (by decide) (by rfl) (by decide) (by rfl) ?_)))
  k_with "eval ListComp" => ((k_here; (with_reducible show wpAny _ _ (eval (Expr.ListComp _ [Comprehension.mk (Expr.Name _ _) _ [_] _] _ _) _) _ _ _); k_dflt (refine comp_MT (F₀ := by k_asm) (by with_unfolding_all rfl) (by decide) (by rfl) (by decide) (by rfl) ?_)))
  trivial
open PySem.Calls Builtin.Int
section
variable {prog : Program} {w : World} {A : Around} {E : Value → Shared → Prop} {s : Shared} {h₀ : Heap} {L : Addr} {m : Str → Option Value} {news : List (Addr × Obj)} {a b : Int} {t u : Tok} {Q : Value → Shared → Prop}
theorem pow_gen (hn : 0 ≤ b) (hn2 : b ≤ 5000) (ha : 2 ≤ a) (ha' : a ≤ 7) (h : ∀ c, c = a ^ b.toNat → 0 < c → intBits c ≤ 15001 → Q (.int c s.toks) { s with toks := s.toks + 1 }) : wpAny (model prog w) A (binaryOp .Pow (.int a t) (.int b u)) Q E s := by
  refine pow_is hn (by lia) (by lia) rfl (h _ rfl (pow_pos_of (by lia) _) ?_)
  have h3 : intBits a ≤ 3 := intBits_le_iff.mpr (by show a.natAbs < 8; lia)
  exact Nat.le_trans (intBits_pow_le h3 _) (by lia)
theorem mod_gen (hb : 0 < b) (h : ∀ r, r = a % b → 0 ≤ r → r < b → Q (.int r s.toks) { s with toks := s.toks + 1 }) : wpAny (model prog w) A (binaryOp .Mod (.int a t) (.int b u)) Q E s :=
  mod_e hb (h _ rfl (Int.emod_nonneg _ (by lia)) (Int.emod_lt_of_pos _ hb))
theorem fdiv_gen (hb : 0 < b) (hb' : b.natAbs.log2 < 9000) (h : ∀ q, q = a / b → Q (.int q s.toks) { s with toks := s.toks + 1 }) : wpAny (model prog w) A (binaryOp .FloorDiv (.int a t) (.int b u)) Q E s :=
  fdiv_e hb (PyProof.noPylong_of_log2 hb') (h _ rfl)
theorem mul_gen {ma mb : Nat} (ha : intBits a ≤ ma) (hb : intBits b ≤ mb) (h : ma + mb ≤ 134217728) (hQ : Q (.int (a * b) s.toks) { s with toks := s.toks + 1 }) : wpAny (model prog w) A (binaryOp .Mult (.int a t) (.int b u)) Q E s :=
  mul_int hQ (IntMulOk.of_le ha hb h)
theorem store_gen {env : Env} {y : Str} {n : Int} {P : Int → Prop} {Q : Unit → Shared → Prop} (hP : P n) (h : ∀ b, P b → wpAny (model prog w) A (storeName env y (.int b t)) Q E s) : wpAny (model prog w) A (storeName env y (.int n t)) Q E s := h n hP
theorem ints_mem {vs : List Value} {ns : List Int} (h : IntsAre vs ns) : ∀ v ∈ vs, ∃ n t, v = .int n t ∧ n ∈ ns := by
  induction h with
  | nil => intro v h; cases h
  | cons n t _ ih =>
    intro v h
    rcases List.mem_cons.mp h with rfl | h
    · exact ⟨n, t, rfl, .head _⟩
    · obtain ⟨n', t', e, h'⟩ := ih v h
      exact ⟨n', t', e, .tail _ h'⟩
theorem pick_ints {vs : List Value} {ns : List Int} (hi : IntsAre vs ns) (lo hi' st : Option Int) : ∃ ms, IntsAre (slicePick vs.toArray lo hi' st).toList ms ∧ ∀ x ∈ ms, x ∈ ns := by
  have key : ∀ is : List Nat, ∃ ms, IntsAre (is.filterMap (vs.toArray[·]?)) ms ∧ ∀ x ∈ ms, x ∈ ns := by
    intro is
    induction is with
    | nil => exact ⟨[], .nil, fun x hx => nomatch hx⟩
    | cons i r ih =>
      obtain ⟨ms, h, hm⟩ := ih
      rw [List.filterMap_cons]
      cases e : vs.toArray[i]? with
      | none => exact ⟨ms, h, hm⟩
      | some v =>
        have hv : v ∈ vs := by
          have := Array.mem_of_getElem? e
          simpa using this
        have := ints_mem hi v hv
        obtain ⟨n, t, rfl, hn⟩ := this
        refine ⟨n :: ms, IntsAre.cons n t h, fun x hx => ?_⟩
        rcases List.mem_cons.mp hx with rfl | hx
        · exact hn
        · exact hm x hx
  obtain ⟨ms, h, hm⟩ := key (sliceRange (sliceBounds lo hi' st vs.toArray.size).1 (sliceBounds lo hi' st vs.toArray.size).2.1 (sliceBounds lo hi' st vs.toArray.size).2.2)
  exact ⟨ms, h, hm⟩
theorem sum_bits {k : Nat} : ∀ {ms : List Int}, (∀ x ∈ ms, intBits x ≤ k) → intBits ms.sum ≤ k + ms.length
  | [], _ => intBits_le_iff.mpr (by simpa using Nat.pow_pos (n := k) (show 0 < 2 by decide))
  | x :: r, h => by
    have h1 := h x (.head _)
    have h2 := sum_bits fun y hy => h y (.tail _ hy)
    have := intBits_add_le h1 h2
    rw [List.sum_cons]
    simp only [List.length_cons]
    lia
theorem slice3 {l : Addr} {vs : List Value} {ns : List Int} {vl vu vk : Value} {lo hi st : Option Int} {ops : List Value} {value slice : Expr} (F : Fr h₀ L s.heap m) (N : News h₀ L s.heap news) (hl : s.heap.IsList l vs.toArray) (hi9 : IntsAre vs ns) (pl : IsPart vl lo) (pu : IsPart vu hi) (pk : IsPart vk st) (h0 : st ≠ some 0)
    (hz : vs.length ≤ 1000) (hlay : ∀ x ∈ ns, intBits x ≤ 1048576)
    (h : ∀ D ws ms h', Fr h₀ L h' m → News h₀ L h' ((D, PySem.W.listOf (List.toArray ws) 0) :: news) → (∀ p ∈ news, p.1 < D) → IntsAre ws ms → intBits ms.sum ≤ 1050000 → Q (.ref D) { s with heap := h' })
    (hs : subscripted slice false (.ref l) (.ref s.heap.objs.size) = operate ops (getItem (.ref l) (.ref s.heap.objs.size))) (ht : ∀ r, letTemporaryGo value (.ref l) r = pure ()) :
    wpAny (model prog w) A (subscriptTail value slice (.ref l) (.ref s.heap.objs.size)) Q E { s with heap := s.heap.push { cls := .type "slice", data := .fields #[vl, vu, vk] } } := by
  obtain ⟨ms, hm, hin⟩ := pick_ints hi9 lo hi st
  have hle : ms.length ≤ 1000 := by
    have q := slicePick_size_le vs.toArray lo hi st
    rw [← hm.length, Array.length_toList]
    simp only [List.size_toArray] at q
    lia
  refine kmk_slice3_lit F N hl pl pu pk h0 rfl (fun D h' F' N' l1 => h D _ ms h' F' N' l1 hm ?_) hs ht (by rw [List.size_toArray, sizeLine_eq]; lia)
  exact Nat.le_trans (sum_bits fun x hx => hlay x (hin x hx)) (by lia)
theorem add_bits {a b : Int} (ha : a.natAbs < 2 ^ 40) (hb : intBits b ≤ 1050000) : intBits (a + b) ≤ 1060000 :=
  Nat.le_trans (intBits_add_le (intBits_le_iff.mpr ha) hb) (by decide)
theorem base_facts {a e : Int} (h0 : 0 ≤ a) (h1 : a < 300) (he : e = 1 ∨ e = -1) : 5 ≤ 6 * (a + 1) + e ∧ 6 * (a + 1) + e ≤ 1801 ∧ (6 * (a + 1) + e) % 2 = 1 ∧ (6 * (a + 1) + e) % 3 ≠ 0 := by
  rcases he with rfl | rfl <;> lia
/-- one of two ints -/
theorem item2 {value slice : Expr} {l : Addr} {x y k : Int} {t1 t2 u : Tok} (hl : s.heap.IsList l #[.int x t1, .int y t2]) (h0 : 0 ≤ k) (h1 : k < 2)
    (h : ∀ z v, z = (if k = 0 then x else y) → Q (.int z v) s)
    (hs : subscripted slice false (.ref l) (.int k u) = operate [.ref l, .int k u] (getItem (.ref l) (.int k u)) := by with_unfolding_all rfl) (hg : ∀ r, letTemporaryGo value (.ref l) r = pure () := by intro _; with_unfolding_all rfl) :
    wpAny (model prog w) A (subscriptTail value slice (.ref l) (.int k u)) Q E s := by
  have : k = 0 ∨ k = 1 := by lia
  rcases this with rfl | rfl
  · exact item_list hl h0 (by lia) (x := .int x t1) rfl (h _ _ rfl) hs hg
  · exact item_list hl h0 (by lia) (x := .int y t2) rfl (h _ _ rfl) hs hg
end
theorem areAll_unc {P : Nat → Value → Prop} {i : Nat} {l : List Nat} {ys : List Value} (h : AreAll P (i :: l) ys) : ∃ y zs, ys = y :: zs ∧ P i y ∧ AreAll P l zs := by
  cases h with
  | cons h0 h => exact ⟨_, _, rfl, h0, h⟩
theorem ints_by {P : Int → Prop} {is : List Nat} {ys : List Value} (h : AreAll (fun _ y => ∃ c u, y = .int c u ∧ P c) is ys) : ∃ ps : List (Int × Tok), ps.length = is.length ∧ ys = ps.map (fun p => Value.int p.1 p.2) ∧ ∀ p ∈ ps, P p.1 := by
  induction h with
  | nil => exact ⟨[], rfl, rfl, fun p hp => nomatch hp⟩
  | cons h _ ih =>
    obtain ⟨c, u, e, hc⟩ := h
    obtain ⟨ps, e1, e2, e3⟩ := ih
    refine ⟨(c, u) :: ps, congrArg (· + 1) e1, by rw [e, e2]; rfl, fun p hp => ?_⟩
    rcases List.mem_cons.mp hp with e | hp
    · rw [e]; exact hc
    · exact e3 p hp
theorem seven_p {ps : List (Int × Tok)} {G : Prop} (h : ps.length = 7) (k : ∀ p0 p1 p2 p3 p4 p5 p6, ps = [p0, p1, p2, p3, p4, p5, p6] → G) : G := by
  obtain ⟨p0, r0, e0, h⟩ := uncons h
  obtain ⟨p1, r1, e1, h⟩ := uncons h
  obtain ⟨p2, r2, e2, h⟩ := uncons h
  obtain ⟨p3, r3, e3, h⟩ := uncons h
  obtain ⟨p4, r4, e4, h⟩ := uncons h
  obtain ⟨p5, r5, e5, h⟩ := uncons h
  obtain ⟨p6, r6, e6, h⟩ := uncons h
  cases List.eq_nil_of_length_eq_zero h
  exact k _ _ _ _ _ _ _ (by rw [e0, e1, e2, e3, e4, e5, e6])
theorem seven_k {ys : List Value} {G : Prop} (h : AreAll (fun _ y => ∃ c u, y = .int c u ∧ intBits c ≤ 1060000) (List.range 7) ys)
    (k : ∀ c0 c1 c2 c3 c4 c5 c6 u0 u1 u2 u3 u4 u5 u6, ys = [Value.int c0 u0, .int c1 u1, .int c2 u2, .int c3 u3, .int c4 u4, .int c5 u5, .int c6 u6] →
      intBits c3 ≤ 1060000 → intBits c4 ≤ 1060000 → intBits c5 ≤ 1060000 → intBits c6 ≤ 1060000 → G) : G := by
  obtain ⟨ps, h1, h2, h3⟩ := ints_by h
  refine seven_p h1 fun p0 p1 p2 p3 p4 p5 p6 e => ?_
  rw [e] at h2 h3
  exact k _ _ _ _ _ _ _ _ _ _ _ _ _ _ h2 (h3 p3 (.tail _ (.tail _ (.tail _ (.head _))))) (h3 p4 (.tail _ (.tail _ (.tail _ (.tail _ (.head _)))))) (h3 p5 (.tail _ (.tail _ (.tail _ (.tail _ (.tail _ (.head _))))))) (h3 p6 (.tail _ (.tail _ (.tail _ (.tail _ (.tail _ (.tail _ (.head _))))))))

end Mine.Gen
end
section
open PySem PySem.W PyProof.Rows PySem.Builtin.Int
open PyProof.Rows.LCg Mine.LC Mine.Bk
namespace Mine.It
theorem lines41 : True := by
  k_with_none
  w_top off
  k_with "execs cons" => (((try dsimp only); refine toks_any ?_; intro _))
  k_with "k_enter" => (case zzfresh => (refine' code_def ?zzk1 ?zzk2 ?zzk3 ?zzk4 ?zzk5 ?zzkA ?zzkF ?zzkK ?zzk6 ?zzk7 ?zzk8 ?zzk9 ?zzkB ?_ ?zzc2 ?zzc3 ?zzc4 ?zzc5; (case zzkA => exact rfl); (case zzkF => exact rfl); (case zzkK => first | exact rfl | assumption); (case zzk1 => k_asm); (case zzk2 => k_asm); (case zzk3 => k_asm); (case zzk4 => k_asm); (case zzk5 => k_asm); (case zzk6 => k_is); (case zzk7 => k_is); (case zzk8 => k_room); (case zzk9 => first | exact BindsTo.of_eq rfl | exact binds_K (by k_in) rfl (by k_is) rfl rfl rfl | (refine kp_binds (by k_in) ?_; exact fun _ => rfl) | fail "k_enter: no rule for these arguments"); (case zzc5 => decide); (case zzkB => exact locs rfl); (case zzc2 => exact rfl); (case zzc3 => exact rfl); (case zzc4 => exact rfl); k_whole; intro zzg' zzL' zzh' zzFG' zzF' zzN' zzB' zzX' zzT'; (try dsimp only); (try k_lift zzB'); (try k_fold)))
  k_with "k_enter" => (case zzfresh => (refine' code_defC ?zzk1 ?zzk2 ?zzk3 ?zzk4 ?zzk5 ?zzkA ?zzkF ?zzkK ?zzk6 ?zzk7 ?zzk8 ?zzk9 ?zzkB ?zzkD ?_ ?zzc2 ?zzc3 ?zzc4; (case zzkA => exact rfl); (case zzkF => exact rfl); (case zzkK => first | exact rfl | assumption); (case zzk1 => k_asm); (case zzk2 => k_asm); (case zzk3 => k_asm); (case zzk4 => k_asm); (case zzk5 => k_asm); (case zzk6 => k_is); (case zzk7 => k_is); (case zzk8 => k_room); (case zzk9 => first | exact BindsTo.of_eq rfl | exact binds_K (by k_in) rfl (by k_is) rfl rfl rfl | (refine kp_binds (by k_in) ?_; exact fun _ => rfl) | fail "k_enter: no rule for these arguments"); (case zzkB => exact rfl); (case zzkD => decide +kernel); (case zzc2 => exact rfl); (case zzc3 => exact rfl); (case zzc4 => exact rfl); k_whole; intro zzg' zzL' zzh' zztk' zzcells' zzFG' zzF' zzN' zzY' zzB' zzX' zzT' zzl1; (try k_lt zzl1); k_cells zzY'; (try simp only [List.cons_append, List.nil_append] at zzN'); (try dsimp only); (try k_lift zzB'); (try k_fold)))
  k_with "mine open" => ((refine wpAny_call ?_; k_dflt (first | k_enter | kc_enter)))
  k_with "mine open R" => (case zzfresh => (refine wpAny_call ?_; k_dflt (refine' code_defR ?zzk1 ?zzk2 ?zzk3 ?zzk4 ?zzkD ?zzk5 ?zzkA ?zzkF ?zzkK ?zzk6 ?zzk7 ?zzk8 ?zzk9 ?zzkB ?_ ?zzc2 ?zzc3 ?zzc4 ?zzc5; (case zzkA => exact rfl); (case zzkF => exact rfl); (case zzkK => first | exact rfl | assumption); (case zzk1 => k_asm); (case zzk2 => k_asm); (case zzk3 => k_asm); (case zzk4 => with_reducible assumption); (case zzkD => with_reducible assumption); (case zzk5 => k_asm); (case zzk6 => k_is); (case zzk7 => k_is); (case zzk8 => k_room); (case zzk9 => first | exact BindsTo.of_eq rfl | exact binds_K (by k_in) rfl (by k_is) rfl rfl rfl | (refine kp_binds (by k_in) ?_; exact fun _ => rfl) | fail "k_enter: no rule for these arguments"); (case zzc5 => decide); (case zzkB => exact locs rfl); (case zzc2 => exact rfl); (case zzc3 => exact rfl); (case zzc4 => exact rfl)); k_whole; intro zzg' zzL' zzh' zzFG' zzF' zzN' zzB' zzX' zzT' zzS'; (try dsimp only); (try k_lift zzB'); (try k_fold)))
  k_with "mine open CR" => (case zzfresh => (refine wpAny_call ?_; k_dflt (refine' code_defCR ?zzk1 ?zzk2 ?zzk3 ?zzk4 ?zzkR ?zzk5 ?zzkA ?zzkF ?zzkK ?zzk6 ?zzk7 ?zzk8 ?zzk9 ?zzkB ?zzkD ?_ ?zzc2 ?zzc3 ?zzc4; (case zzkA => exact rfl); (case zzkF => exact rfl); (case zzkK => first | exact rfl | assumption); (case zzk1 => k_asm); (case zzk2 => k_asm); (case zzk3 => k_asm); (case zzk4 => with_reducible assumption); (case zzkR => with_reducible assumption); (case zzk5 => k_asm); (case zzk6 => k_is); (case zzk7 => k_is); (case zzk8 => k_room); (case zzk9 => first | exact BindsTo.of_eq rfl | exact binds_K (by k_in) rfl (by k_is) rfl rfl rfl | (refine kp_binds (by k_in) ?_; exact fun _ => rfl) | fail "k_enter: no rule for these arguments"); (case zzkB => exact rfl); (case zzkD => decide +kernel); (case zzc2 => exact rfl); (case zzc3 => exact rfl); (case zzc4 => exact rfl)); k_whole; intro zzg' zzL' zzh' zztk' zzcells' zzFG' zzF' zzN' zzY' zzB' zzX' zzT' zzl1 zzS'; (try k_lt zzl1); k_cells zzY'; (try simp only [List.cons_append, List.nil_append] at zzN'); (try dsimp only); (try k_lift zzB'); (try k_fold)))
  k_with "mine open CR0" => (case zzfresh => (refine wpAny_call ?_; k_dflt (refine' code_defCR (own := []) ?zzk1 ?zzk2 ?zzk3 ?zzk4 ?zzkR ?zzk5 ?zzkA ?zzkF ?zzkK ?zzk6 ?zzk7 ?zzk8 ?zzk9 ?zzkB ?zzkD ?_ ?zzc2 ?zzc3 ?zzc4; (case zzkA => exact rfl); (case zzkF => exact rfl); (case zzkK => first | exact rfl | assumption); (case zzk1 => k_asm); (case zzk2 => k_asm); (case zzk3 => k_asm); (case zzk4 => k_asm); (case zzkR => exact Apart.zero); (case zzk5 => k_asm); (case zzk6 => k_is); (case zzk7 => k_is); (case zzk8 => k_room); (case zzk9 => first | exact BindsTo.of_eq rfl | exact binds_K (by k_in) rfl (by k_is) rfl rfl rfl | (refine kp_binds (by k_in) ?_; exact fun _ => rfl) | fail "k_enter: no rule for these arguments"); (case zzkB => exact rfl); (case zzkD => decide +kernel); (case zzc2 => exact rfl); (case zzc3 => exact rfl); (case zzc4 => exact rfl)); k_whole; intro zzg' zzL' zzh' zztk' zzcells' zzFG' zzF' zzN' zzY' zzB' zzX' zzT' zzl1 zzS'; clear zzl1; k_cells zzY'; (try simp only [List.cons_append, List.nil_append, List.append_nil] at zzN'); (try dsimp only); (try k_lift zzB'); (try k_fold)))
  k_with "mine open R0" => (case zzfresh => (refine wpAny_call ?_; k_dflt (refine' code_defR (own := []) ?zzk1 ?zzk2 ?zzk3 ?zzk4 ?zzkD ?zzk5 ?zzkA ?zzkF ?zzkK ?zzk6 ?zzk7 ?zzk8 ?zzk9 ?zzkB ?_ ?zzc2 ?zzc3 ?zzc4 ?zzc5; (case zzkA => exact rfl); (case zzkF => exact rfl); (case zzkK => first | exact rfl | assumption); (case zzk1 => k_asm); (case zzk2 => k_asm); (case zzk3 => k_asm); (case zzk4 => k_asm); (case zzkD => exact Apart.zero); (case zzk5 => k_asm); (case zzk6 => k_is); (case zzk7 => k_is); (case zzk8 => k_room); (case zzk9 => first | exact BindsTo.of_eq rfl | exact binds_K (by k_in) rfl (by k_is) rfl rfl rfl | (refine kp_binds (by k_in) ?_; exact fun _ => rfl) | fail "k_enter: no rule for these arguments"); (case zzc5 => decide); (case zzkB => exact locs rfl); (case zzc2 => exact rfl); (case zzc3 => exact rfl); (case zzc4 => exact rfl)); k_whole; intro zzg' zzL' zzh' zzFG' zzF' zzN' zzB' zzX' zzT' zzS'; (try dsimp only); (try k_lift zzB'); (try k_fold)))
  k_with "exec Assign cons ListComp" => ((k_here; (with_reducible show wpAny _ _ (exec (Stmt.Assign [Expr.Name _ _] (Expr.ListComp _ [Comprehension.mk (Expr.Name _ _) _ [] _] _ _) _) _) _ _ _); k_dflt (refine assign_M (F₀ := by k_asm) (by rfl) (by with_unfolding_all rfl) (by with_unfolding_all rfl) (by decide) (by rfl) (by decide) (by rfl) (by rfl) (by rfl) ?_)))
  k_with "exec Assign cons ListComp" => ((k_here; (with_reducible show wpAny _ _ (exec (Stmt.Assign [Expr.Name _ _] (Expr.ListComp _ [Comprehension.mk (Expr.Name _ _) _ [_] _] _ _) _) _) _ _ _); k_dflt (refine assign_MT (F₀ := by k_asm) (by rfl) (by with_unfolding_all rfl) (by with_unfolding_all rfl) (by decide) (by rfl) (by decide) (by rfl) (by rfl) (by rfl) ?_)))
  k_with "eval ListComp" => ((k_here; (with_reducible show wpAny _ _ (eval (Expr.ListComp _ [Comprehension.mk (Expr.Name _ _) _ [] _] _ _) _) _ _ _); k_dflt (refine comp_M (F₀ := by k_asm) (by with_unfolding_all rfl) (by decide) (by rfl) (by decide) (by rfl) ?_)))
  k_with "eval ListComp" => ((k_here; (with_reducible show wpAny _ _ (eval (Expr.ListComp _ [Comprehension.mk (Expr.Name _ _) _ [_] _] _ _) _) _ _ _); k_dflt (refine comp_MT (F₀ := by k_asm) (by with_unfolding_all rfl) (by decide) (by rfl) (by decide) (by rfl) ?_)))
  trivial
open PySem.Calls
set_option maxRecDepth 100000 in
set_option maxHeartbeats 1000000 in
theorem items {w : World} {B D G : Addr} {T : Nat → Addr} {c : Nat → Nat} {x : Nat → List Nat} {a b : Nat → Tok} {tD : Tok} {n : Nat} :
    ConF w 0 (call (.ref 171) [.ref B]) (book w B D G T c x a b tD n)
      (fun v own' => ∃ add, own' = add ++ book w B D G T c x a b tD n ∧ ∃ R, v = .ref R ∧ add = [(R, lstN [.ref (T 0), .ref (T 1), .ref (T 2), .ref (T 3)] 0)] ∧ True) := by
  dsimp only [book]
  refine ConF.opened ?_
  k_fill
  intro rest p loose mean mg mb cn cs a' ccd cl L outer A₀ base' h₀ m sh sg sd so sk Q E B' F X N TT hk' hap hret
  walk_at "mine open R"
  k_steps
  rename News h₀ L _ rest => NR
  rename Stand _ rest => SR
  rename News h₀ L _ (_ :: _ :: _ :: _) => N7
  revert N7
  rename News _ _ _ (_ :: _ :: _ :: _) => N6
  intro N7
  exact hret _ _ _ _ ⟨_, rfl, apart_of N6 SR, [_], rfl, _, rfl, rfl, trivial⟩ (by assumption) (Mine.News.both N7 NR)

end Mine.It
end
section
theorem Mine.resetPl : True := by
  k_with_none
  w_top off
  trivial
open PySem PySem.W
namespace Mine.Pl
open Mine.Bk Mine.My
abbrev Tg := Nat → Int
/-- the seats that may move, by the tags -/
def mayT (t : Tg) : List Nat := (List.range 4).filter fun j => decide (t j = t ((j + 3) % 4)) == decide (j = 0)
/-- the tags behind a move -/
def nxt (base step : Int) (t : Tg) (s : Nat) : Tg := fun j => if j = s then (if s = 0 then (t 3 + step) % base else t ((s + 3) % 4)) else t j
/-- from here on, behind `n` moves at the most, one alone may move -/
def conv (base step : Int) : Nat → Tg → Prop
  | 0, t => (mayT t).length ≤ 1
  | n + 1, t => ∀ s ∈ mayT t, conv base step n (nxt base step t s)
theorem mem_may {t : Tg} {j : Nat} : j ∈ mayT t ↔ j < 4 ∧ (t j = t ((j + 3) % 4) ↔ j = 0) := by
  simp only [mayT, List.mem_filter, List.mem_range, beq_iff_eq, decide_eq_decide]
theorem mem0 {t : Tg} : 0 ∈ mayT t ↔ t 0 = t 3 := by rw [mem_may]; simp
theorem mem1 {t : Tg} : 1 ∈ mayT t ↔ t 1 ≠ t 0 := by rw [mem_may]; simp
theorem mem2 {t : Tg} : 2 ∈ mayT t ↔ t 2 ≠ t 1 := by rw [mem_may]; simp
theorem mem3 {t : Tg} : 3 ∈ mayT t ↔ t 3 ≠ t 2 := by rw [mem_may]; simp
theorem may_eq (t : Tg) : mayT t = (if t 0 = t 3 then [0] else []) ++ ((if t 1 = t 0 then [] else [1]) ++ ((if t 2 = t 1 then [] else [2]) ++ (if t 3 = t 2 then [] else [3]))) := by
  have e : List.range 4 = [0, 1, 2, 3] := rfl
  unfold mayT
  rw [e]
  simp only [List.filter_cons, List.filter_nil]
  by_cases h0 : t 0 = t 3 <;> by_cases h1 : t 1 = t 0 <;> by_cases h2 : t 2 = t 1 <;> by_cases h3 : t 3 = t 2 <;> (first | replace h0 := eq_false h0 | replace h0 := eq_true h0) <;> (first | replace h1 := eq_false h1 | replace h1 := eq_true h1) <;> (first | replace h2 := eq_false h2 | replace h2 := eq_true h2) <;> (first | replace h3 := eq_false h3 | replace h3 := eq_true h3) <;> simp only [h0, h1, h2, h3] <;> rfl
theorem seat_lt {t : Tg} {s : Nat} (h : s ∈ mayT t) : s < 4 := (mem_may.mp h).1
theorem may_ne (t : Tg) : mayT t ≠ [] := by
  rw [may_eq]
  intro h
  by_cases h0 : t 0 = t 3 <;> by_cases h1 : t 1 = t 0 <;> by_cases h2 : t 2 = t 1 <;> by_cases h3 : t 3 = t 2 <;> first | (exfalso; lia) | ((first | replace h0 := eq_false h0 | replace h0 := eq_true h0) <;> (first | replace h1 := eq_false h1 | replace h1 := eq_true h1) <;> (first | replace h2 := eq_false h2 | replace h2 := eq_true h2) <;> (first | replace h3 := eq_false h3 | replace h3 := eq_true h3) <;> simp only [h0, h1, h2, h3, if_true, if_false] at h <;> cases h)
theorem one_of {t : Tg} (h : (mayT t).length ≤ 1) {s : Nat} (hs : s ∈ mayT t) : mayT t = [s] := by
  generalize mayT t = l at h hs
  match l, h, hs with
  | [x], _, hs => rw [List.mem_singleton.mp hs]
/-- what the ring's numbers are -/
structure Cfg (base step : Int) : Prop where
  b5 : 5 ≤ base
  b1801 : base ≤ 1801
  odd : base % 2 = 1
  three : base % 3 ≠ 0
  s0 : 1 ≤ step
  s1 : step < base
/-- tags stand below the base -/
def Rng (base : Int) (t : Tg) : Prop := ∀ j, j < 4 → 0 ≤ t j ∧ t j < base
theorem Cfg.pos {base step : Int} (C : Cfg base step) : 0 < base := by have := C.b5; lia
theorem Cfg.move {base step x : Int} (C : Cfg base step) (h0 : 0 ≤ x) (h1 : x < base) : (x + step) % base ≠ x := by
  have := C.s0; have := C.s1
  by_cases h : x + step < base
  · rw [Int.emod_eq_of_lt (by lia) h]; lia
  · have e : (x + step) % base = x + step - base := by
      rw [← Int.sub_emod_right, Int.emod_eq_of_lt (by lia) (by lia)]
    rw [e]; lia
theorem Rng.nxt {base step : Int} {t : Tg} (C : Cfg base step) (R : Rng base t) {s : Nat} (hs : s < 4) : Rng base (nxt base step t s) := fun j hj => by
  unfold Pl.nxt
  by_cases h : j = s
  · rw [if_pos h]
    by_cases h0 : s = 0
    · rw [if_pos h0]; exact ⟨Int.emod_nonneg _ (by have := C.pos; lia), Int.emod_lt_of_pos _ C.pos⟩
    · rw [if_neg h0]; exact R _ (Nat.mod_lt _ (by decide))
  · rw [if_neg h]; exact R j hj
theorem nxt0 (base step : Int) (t : Tg) : nxt base step t 0 0 = (t 3 + step) % base ∧ nxt base step t 0 1 = t 1 ∧ nxt base step t 0 2 = t 2 ∧ nxt base step t 0 3 = t 3 := by simp [nxt]
theorem nxt1 (base step : Int) (t : Tg) : nxt base step t 1 0 = t 0 ∧ nxt base step t 1 1 = t 0 ∧ nxt base step t 1 2 = t 2 ∧ nxt base step t 1 3 = t 3 := by simp [nxt]
theorem nxt2 (base step : Int) (t : Tg) : nxt base step t 2 0 = t 0 ∧ nxt base step t 2 1 = t 1 ∧ nxt base step t 2 2 = t 1 ∧ nxt base step t 2 3 = t 3 := by simp [nxt]
theorem nxt3 (base step : Int) (t : Tg) : nxt base step t 3 0 = t 0 ∧ nxt base step t 3 1 = t 1 ∧ nxt base step t 3 2 = t 2 ∧ nxt base step t 3 3 = t 2 := by simp [nxt]
theorem cases4 {s : Nat} (h : s < 4) : s = 0 ∨ s = 1 ∨ s = 2 ∨ s = 3 := by lia
theorem only {t : Tg} {s : Nat} (h : mayT t = [s]) : (t 0 = t 3 ↔ s = 0) ∧ (t 1 ≠ t 0 ↔ s = 1) ∧ (t 2 ≠ t 1 ↔ s = 2) ∧ (t 3 ≠ t 2 ↔ s = 3) := by
  have k : ∀ j, j ∈ mayT t ↔ s = j := fun j => by rw [h, List.mem_singleton]; exact eq_comm
  exact ⟨mem0.symm.trans (k 0), mem1.symm.trans (k 1), mem2.symm.trans (k 2), mem3.symm.trans (k 3)⟩
/-- where one alone may move, behind its move its right neighbour alone may -/
theorem legit_next {base step : Int} {t : Tg} (C : Cfg base step) (R : Rng base t) {s : Nat} (h : mayT t = [s]) : mayT (nxt base step t s) = [(s + 1) % 4] := by
  have hs : s < 4 := seat_lt (by rw [h]; exact .head _)
  have hm := C.move (R 3 (by decide)).1 (R 3 (by decide)).2
  obtain ⟨k0, k1, k2, k3⟩ := only h
  rw [may_eq]
  rcases cases4 hs with rfl | rfl | rfl | rfl
  · obtain ⟨e0, e1, e2, e3⟩ := nxt0 base step t
    rw [e0, e1, e2, e3, if_neg hm, if_neg (show t 1 ≠ (t 3 + step) % base by lia), if_pos (show t 2 = t 1 by lia), if_pos (show t 3 = t 2 by lia)]; rfl
  · obtain ⟨e0, e1, e2, e3⟩ := nxt1 base step t
    rw [e0, e1, e2, e3, if_neg (show t 0 ≠ t 3 by lia), if_pos rfl, if_neg (show t 2 ≠ t 0 by lia), if_pos (show t 3 = t 2 by lia)]; rfl
  · obtain ⟨e0, e1, e2, e3⟩ := nxt2 base step t
    rw [e0, e1, e2, e3, if_neg (show t 0 ≠ t 3 by lia), if_pos (show t 1 = t 0 by lia), if_pos rfl, if_neg (show t 3 ≠ t 1 by lia)]; rfl
  · obtain ⟨e0, e1, e2, e3⟩ := nxt3 base step t
    rw [e0, e1, e2, e3, if_pos (show t 0 = t 2 by lia), if_pos (show t 1 = t 0 by lia), if_pos (show t 2 = t 1 by lia), if_pos rfl]; rfl
theorem legit_conv {base step : Int} (C : Cfg base step) : ∀ n (t : Tg), Rng base t → (mayT t).length ≤ 1 → conv base step n t
  | 0, t, _, h => h
  | n + 1, t, R, h => fun s hs => by
    have e := one_of h hs
    exact legit_conv C n _ (R.nxt C (seat_lt hs)) (by rw [legit_next C R e]; exact Nat.le_refl _)
/-- the ring with figures for tags, without the base -/
def prv (x0 x1 x2 x3 : Nat) : Nat := (cond (Nat.beq x0 x3) 1 0) + ((cond (Nat.beq x1 x0) 0 1) + ((cond (Nat.beq x2 x1) 0 1) + (cond (Nat.beq x3 x2) 0 1)))
def okA : Nat → Nat → Nat → Nat → Nat → Bool
  | 0, x0, x1, x2, x3 => Nat.ble (prv x0 x1 x2 x3) 1
  | n + 1, x0, x1, x2, x3 => Nat.ble (prv x0 x1 x2 x3) 1 ||
    ((cond (Nat.beq x0 x3) (Nat.ble (x0 + 1) 3 && okA n (x0 + 1) x1 x2 x3) true) && ((cond (Nat.beq x1 x0) true (okA n x0 x0 x2 x3)) && ((cond (Nat.beq x2 x1) true (okA n x0 x1 x1 x3)) && (cond (Nat.beq x3 x2) true (okA n x0 x1 x2 x2)))))
theorem all_ok : ∀ a b c : Fin 7, okA 13 0 a.val b.val c.val = true := by decide +kernel
theorem beq_of {ρ : Nat → Int} {U : Nat → Prop} (inj : ∀ a b, U a → U b → ρ a = ρ b → a = b) {a b : Nat} (ha : U a) (hb : U b) : Nat.beq a b = decide (ρ a = ρ b) := by
  by_cases h : a = b
  · subst h; simp
  · have : ρ a ≠ ρ b := fun e => h (inj a b ha hb e)
    rw [decide_eq_false this]
    cases e : Nat.beq a b with
    | false => rfl
    | true => exact absurd (Nat.eq_of_beq_eq_true e) h
theorem conv_of {base step : Int} (C : Cfg base step) {ρ : Nat → Int} {U : Nat → Prop} (inj : ∀ a b, U a → U b → ρ a = ρ b → a = b) (u3 : ∀ i, i ≤ 3 → U i) (hs : ∀ i, i < 3 → (ρ i + step) % base = ρ (i + 1)) :
    ∀ n x0 x1 x2 x3 (t : Tg), okA n x0 x1 x2 x3 = true → U x0 → U x1 → U x2 → U x3 → t 0 = ρ x0 → t 1 = ρ x1 → t 2 = ρ x2 → t 3 = ρ x3 → Rng base t → conv base step n t := by
  have leg : ∀ x0 x1 x2 x3 (t : Tg), U x0 → U x1 → U x2 → U x3 → t 0 = ρ x0 → t 1 = ρ x1 → t 2 = ρ x2 → t 3 = ρ x3 → (mayT t).length = prv x0 x1 x2 x3 := by
    intro x0 x1 x2 x3 t a0 a1 a2 a3 e0 e1 e2 e3
    rw [may_eq, prv, beq_of inj a0 a3, beq_of inj a1 a0, beq_of inj a2 a1, beq_of inj a3 a2, ← e0, ← e1, ← e2, ← e3]
    by_cases h0 : t 0 = t 3 <;> by_cases h1 : t 1 = t 0 <;> by_cases h2 : t 2 = t 1 <;> by_cases h3 : t 3 = t 2 <;> (first | replace h0 := eq_false h0 | replace h0 := eq_true h0) <;> (first | replace h1 := eq_false h1 | replace h1 := eq_true h1) <;> (first | replace h2 := eq_false h2 | replace h2 := eq_true h2) <;> (first | replace h3 := eq_false h3 | replace h3 := eq_true h3) <;> simp only [h0, h1, h2, h3, if_true, if_false, decide_true, decide_false, cond_true, cond_false] <;> rfl
  intro n
  induction n with
  | zero =>
    intro x0 x1 x2 x3 t ok a0 a1 a2 a3 e0 e1 e2 e3 R
    show (mayT t).length ≤ 1
    rw [leg x0 x1 x2 x3 t a0 a1 a2 a3 e0 e1 e2 e3]
    exact Nat.le_of_ble_eq_true ok
  | succ n ih =>
    intro x0 x1 x2 x3 t ok a0 a1 a2 a3 e0 e1 e2 e3 R
    by_cases hl : (mayT t).length ≤ 1
    · exact legit_conv C _ t R hl
    · have hb : Nat.ble (prv x0 x1 x2 x3) 1 = false := by
        cases e : Nat.ble (prv x0 x1 x2 x3) 1 with
        | false => rfl
        | true => exact absurd (Nat.le_of_ble_eq_true e) (by rw [← leg x0 x1 x2 x3 t a0 a1 a2 a3 e0 e1 e2 e3]; exact hl)
      rw [okA, hb, Bool.false_or, Bool.and_eq_true, Bool.and_eq_true, Bool.and_eq_true, beq_of inj a0 a3, beq_of inj a1 a0, beq_of inj a2 a1, beq_of inj a3 a2, ← e0, ← e1, ← e2, ← e3] at ok
      obtain ⟨k0, k1, k2, k3⟩ := ok
      intro s hm
      have R' := R.nxt C (seat_lt hm)
      rcases cases4 (seat_lt hm) with rfl | rfl | rfl | rfl
      · obtain ⟨f0, f1, f2, f3⟩ := nxt0 base step t
        have h0 := mem0.mp hm
        rw [decide_eq_true h0, cond_true, Bool.and_eq_true] at k0
        have hlt : x0 < 3 := Nat.le_of_ble_eq_true k0.1
        refine ih (x0 + 1) x1 x2 x3 _ k0.2 (u3 _ hlt) a1 a2 a3 ?_ (f1.trans e1) (f2.trans e2) (f3.trans e3) R'
        rw [f0, ← h0, e0]; exact hs x0 hlt
      · obtain ⟨f0, f1, f2, f3⟩ := nxt1 base step t
        rw [decide_eq_false (mem1.mp hm), cond_false] at k1
        exact ih x0 x0 x2 x3 _ k1 a0 a0 a2 a3 (f0.trans e0) (f1.trans e0) (f2.trans e2) (f3.trans e3) R'
      · obtain ⟨f0, f1, f2, f3⟩ := nxt2 base step t
        rw [decide_eq_false (mem2.mp hm), cond_false] at k2
        exact ih x0 x1 x1 x3 _ k2 a0 a1 a1 a3 (f0.trans e0) (f1.trans e1) (f2.trans e1) (f3.trans e3) R'
      · obtain ⟨f0, f1, f2, f3⟩ := nxt3 base step t
        rw [decide_eq_false (mem3.mp hm), cond_false] at k3
        exact ih x0 x1 x2 x2 _ k3 a0 a1 a2 a2 (f0.trans e0) (f1.trans e1) (f2.trans e2) (f3.trans e2) R'
end Mine.Pl
end
section
theorem Mine.resetLaw0 : True := by
  k_with_none
  w_top off
  trivial
open PySem PySem.Spec PySem.Calls PySem.W PyProof.Rows PyProof.Rows.LCg
namespace Mine
/-- the law's statements and names, as the written part has them -/
noncomputable def lawAt (P : Params) : Option (List Stmt × Scope) :=
  match List.lookup (248 : Nat) (Mine.hd.heap_39 P) with
  | some ⟨_, _, .func ⟨_, _, _, .stmts b, sc, _, _, _, _, _, _, _, _, _, _⟩, _⟩ => some (b, sc)
  | _ => none
/-- the loop's statements -/
noncomputable def turnAt (P : Params) : Option (List Stmt × Scope) :=
  match lawAt P with
  | some (_ :: _ :: _ :: _ :: _ :: _ :: _ :: _ :: _ :: _ :: _ :: _ :: .For _ _ b _ _ :: _, sc) => some (b, sc)
  | _ => none
end Mine
namespace Mine
section
variable {w : World} {lv : Nat} {t : Sem Value} {own news : Led} {post post' : Value → Led → Prop} {P : Value → Led → Prop}
  {A : Around} {p : Program} {loose : List Str} {mean : ExcName → Option Value} {mg mb : Str → Option Value} {cn : Str} {cs : Scope} {a : Addr} {ccd : Value}
  {cl : List (Str × Addr)} {L : Addr} {outer : List Env} {A₀ : Around} {base h₀ : Heap} {m : Str → Option Value} {rest : Led} {s : Shared}
  {Q : Value → Shared → Prop} {E : Value → Shared → Prop}
theorem ConF.mono (c : ConF w lv t own post) (h : ∀ v own', post v own' → post' v own') : ConF w lv t own post' := by
  intro rest p loose mean mg mb cn cs a ccd cl L outer A₀ base h₀ m news s Q E B F X N T hk hp hret
  refine c rest p loose mean mg mb cn cs a ccd cl L outer A₀ base h₀ m news s Q E B F X N T hk hp ?_
  rintro v h' tk' news' ⟨own', e, D, hv⟩
  exact hret v h' tk' news' ⟨own', e, D, h v own' hv⟩
/-- the contract adds to its own ledger, and leaves that as it was -/
theorem ConF.useN (c : ConF w lv t own (fun v own' => ∃ add, own' = add ++ own ∧ P v add)) (sub : ∀ q ∈ own, q ∈ news)
    (B : Below A₀ base outer h₀) (F : Fr h₀ L s.heap m) (X : (Mine.hd.heap_39 w.params).In h₀) (N : News h₀ L s.heap news) (T : Top p loose mean mg mb h₀)
    (hk : cs.kind = .function) (hh : A.handled = none) (hd : A.depth ≤ 800 - 80 * lv) (hf : A.frames = some (envX cn cs L a ccd cl :: outer)) (hg : A.guards = some [])
    (hu : A.units ≤ 9000 - 1000 * lv)
    (h : ∀ v h' tk' add, P v add → (∀ x ∈ add, ∀ q ∈ news, q ∈ own ∨ x.1 ≠ q.1) → Fr h₀ L h' m → News h₀ L h' (add ++ news) → Q v { s with heap := h', toks := tk' }) :
    wpAny (model PySem.Challenge.rw_wy0034_01.row.prog w) A t Q E s := by
  classical
  have inOwn : ∀ q ∈ news, q.1 ∈ own.map (·.1) → q ∈ own := fun q hq hm => by
    obtain ⟨r, hr, e⟩ := List.mem_map.mp hm
    have h1 := (N r (sub r hr)).1
    have h2 := (N q hq).1
    have e1 : r.1 = q.1 := e
    rw [e1, h2] at h1
    have : r = q := Prod.ext e1 (Option.some.inj h1).symm
    exact this ▸ hr
  refine Con.use (c (news.filter fun q => decide (q.1 ∉ own.map (·.1)))) B F X (News.sub N fun q hq => ?_) T hk hh hd hf hg hu ⟨rfl, fun q hq r hr e => ?_⟩ ?_
  · rcases List.mem_append.mp hq with hq | hq
    · exact sub q hq
    · exact (List.mem_filter.mp hq).1
  · have := of_decide_eq_true (List.mem_filter.mp hq).2
    exact this (e ▸ List.mem_map_of_mem hr)
  · rintro v h' tk' news' ⟨own', rfl, D, add, rfl, hp⟩ F' N'
    refine h v h' tk' add hp (fun x hx q hq => ?_) F' (fun q hq => ?_)
    · by_cases hm : q.1 ∈ own.map (·.1)
      · exact .inl (inOwn q hq hm)
      · exact .inr (D q (List.mem_filter.mpr ⟨hq, decide_eq_true hm⟩) x (List.mem_append_left _ hx))
    · rcases List.mem_append.mp hq with hq | hq
      · exact N' q (List.mem_append_left _ (List.mem_append_left _ hq))
      · by_cases hm : q.1 ∈ own.map (·.1)
        · exact N' q (List.mem_append_left _ (List.mem_append_right _ (inOwn q hq hm)))
        · exact N' q (List.mem_append_right _ (List.mem_filter.mpr ⟨hq, decide_eq_true hm⟩))
end
theorem off1_mk {D : Addr} : ∀ {l : Led}, (∀ q ∈ l, D ≠ q.1) → LCg.Off1 D l := by
  intro l
  induction l with
  | nil => intro _; exact trivial
  | cons p r ih => exact fun h => ⟨fun e => h p (.head _) e.symm, ih fun q hq => h q (.tail _ hq)⟩
theorem off1_at {D : Addr} {l : Led} : LCg.Off1 D l → ∀ q ∈ l, q.1 ≠ D := by
  induction l with
  | nil => intro _ q hq; cases hq
  | cons p r ih =>
    intro h q hq
    rcases List.mem_cons.mp hq with e | hq
    · rw [e]; exact h.1
    · exact ih h.2 q hq
theorem off1_all {D : Addr} {o : Obj} {own news : Led} (h : LCg.Off1 D own) (h2 : ∀ x ∈ [(D, o)], ∀ q ∈ news, q ∈ own ∨ x.1 ≠ q.1) : ∀ q ∈ news, q.1 ≠ D := fun q hq =>
  (h2 _ (.head _) q hq).elim (off1_at h q) Ne.symm
theorem off1_one {R D : Addr} {o o' : Obj} {news : Led} (h : R ≠ D) (h2 : ∀ x ∈ [(D, o)], ∀ q ∈ news, q ∈ [(R, o')] ∨ x.1 ≠ q.1) : ∀ q ∈ news, q.1 ≠ D := fun q hq =>
  (h2 _ (.head _) q hq).elim (fun e => by rw [List.mem_singleton.mp e]; exact h) Ne.symm
open Mine.Bk
/-- `_law_texts`, with what it adds -/
theorem texts' {w : World} {B D G : Addr} {T : Nat → Addr} {c : Nat → Nat} {x : Nat → List Nat} {a b : Nat → Tok} {tD : Tok} {n : Nat} {σ τ : Nat → Nat} (hp : Per σ τ) (hc : ∀ j, j < 4 → Tit (c j) (σ j)) :
    ConF w 2 (call (.ref 238) [.ref B]) (book w B D G T c x a b tD n) (fun v own' => ∃ add, own' = add ++ book w B D G T c x a b tD n ∧
      ∃ R u0 u1 u2 u3, v = .ref R ∧ add = [(R, lst [Value.str (S (x (τ 0))) u0, .str (S (x (τ 1))) u1, .str (S (x (τ 2))) u2, .str (S (x (τ 3))) u3])] ∧ LCg.Off1 R (book w B D G T c x a b tD n)) :=
  by
  refine ConF.mono (Tx.texts (w := w) (B := B) (D := D) (G := G) (T := T) (c := c) (x := x) (a := a) (b := b) (tD := tD) (n := n) hp hc) ?_
  rintro v own' ⟨R, u0, u1, u2, u3, e, e', o⟩
  exact ⟨[_], e', R, u0, u1, u2, u3, e, rfl, o⟩
/-- `get`, which leaves all -/
theorem get' {w : World} {B D G : Addr} {T : Nat → Addr} {c : Nat → Nat} {x : Nat → List Nat} {a b : Nat → Tok} {tD : Tok} {n : Nat} {σ τ : Nat → Nat} {c9 s9 : Nat} {t9 : Tok} (hp : Per σ τ) (hc : ∀ j, j < 4 → Tit (c j) (σ j)) (h9 : Tit c9 s9) :
    ConF w 1 (call (.ref 154) [.ref B, .str (S [c9]) t9]) (book w B D G T c x a b tD n) (fun v own' => ∃ add, own' = add ++ book w B D G T c x a b tD n ∧ add = [] ∧ ∃ u, v = .str (S (x (τ s9))) u) :=
  by
  refine ConF.mono (Gt.get (w := w) (B := B) (D := D) (G := G) (T := T) (c := c) (x := x) (a := a) (b := b) (tD := tD) (n := n) (t9 := t9) hp hc h9) ?_
  rintro v own' ⟨e, u, e'⟩
  exact ⟨[], e, rfl, u, e'⟩
theorem may' {w : World} {R : Addr} {d : Nat → List Nat} {k : Nat → Nat} {u0 u1 u2 u3 : Tok} {n : Nat} (hd : ∀ j, j < 4 → Ok (d j)) (hk : ∀ j, j < 4 → k j < 3) :
    ConF w 2 (call (.ref 243) [.ref R]) [(R, lstN [Value.str (S (tx (d 0) (k 0))) u0, .str (S (tx (d 1) (k 1))) u1, .str (S (tx (d 2) (k 2))) u2, .str (S (tx (d 3) (k 3))) u3] n)]
      (fun v own' => ∃ add, own' = add ++ [(R, lstN [Value.str (S (tx (d 0) (k 0))) u0, .str (S (tx (d 1) (k 1))) u1, .str (S (tx (d 2) (k 2))) u2, .str (S (tx (d 3) (k 3))) u3] n)] ∧
        ∃ M ys, v = .ref M ∧ add = [(M, lst ys)] ∧ R ≠ M ∧ IntsAre ys ((My.mayN d).map fun j : Nat => (j : Int))) :=
  by
  refine ConF.mono (My.may (w := w) (R := R) (d := d) (k := k) (u0 := u0) (u1 := u1) (u2 := u2) (u3 := u3) (n := n) hd hk) ?_
  rintro v own' ⟨M, ys, e, e', o, i⟩
  exact ⟨[_], e', M, ys, e, rfl, o, i⟩
end Mine
namespace Mine
section
variable {prog : Program} {w : World} {A : Around} {E : Value → Shared → Prop} {s : Shared} {h₀ : Heap} {L : Addr} {m : Str → Option Value} {news : List (Addr × Obj)} {a b c : Int} {t u : Tok} {Q : Value → Shared → Prop}
theorem len_is {l : Addr} {vs : List Value} {k : Int} (hl : s.heap.IsList l vs.toArray) (e : (vs.length : Int) = k) (hk : k ≤ 1000) (h : ∀ t' tk, Q (.int k t') { s with toks := tk }) :
    wpAny (model prog w) A (call (.builtin "len") [.ref l]) Q E s := by
  refine len_list hl (by rw [List.size_toArray]; lia) ?_
  rw [List.size_toArray, e]; exact h _ _
/-- a list's item, counted from behind -/
theorem item_neg {value slice : Expr} {l : Addr} {vs : List Value} {k : Int} {u : Tok} {x : Value} (hl : s.heap.IsList l vs.toArray) (h0 : k < 0) (h1 : -(vs.length : Int) ≤ k) (hfit : -(2 ^ 63) ≤ k)
    (hx : vs[(k + vs.length).toNat]? = some x) (h : Q x s)
    (hs : subscripted slice false (.ref l) (.int k u) = operate [.ref l, .int k u] (getItem (.ref l) (.int k u)) := by with_unfolding_all rfl) (hg : ∀ r, letTemporaryGo value (.ref l) r = pure () := by intro _; with_unfolding_all rfl) :
    wpAny (model prog w) A (subscriptTail value slice (.ref l) (.int k u)) Q E s := by
  have hsz : vs.toArray.size = vs.length := by simp
  exact subscriptTail_builtin hl.typeIs slot_list_getitem.lookup (wpAny_getItem_list_neg hl h0 (by rw [hsz]; exact h1) hfit (by rw [hsz]; simpa using hx) h) hs hg
end
end Mine
namespace Mine
section
variable {prog : Program} {w : World} {A : Around} {E : Value → Shared → Prop} {s : Shared} {Q : Value → Shared → Prop}
theorem ne_ints_t {a b : Addr} {vs us : List Value} {ns ms : List Int} (hl : s.heap.IsList a vs.toArray) (hi : IntsAre vs ns) (hl' : s.heap.IsList b us.toArray) (hi' : IntsAre us ms) (hu : A.units + 64 < cLine) (h : ns ≠ ms) (hQ : Q (.bool true) s) :
    wpAny (model prog w) A (compareOp .NotEq (.ref a) (.ref b)) Q E s := by
  refine ne_intsK hl hi hl' hi' hu ?_
  simpa [h] using hQ
theorem ne_ints_f {a b : Addr} {vs us : List Value} {ns ms : List Int} (hl : s.heap.IsList a vs.toArray) (hi : IntsAre vs ns) (hl' : s.heap.IsList b us.toArray) (hi' : IntsAre us ms) (hu : A.units + 64 < cLine) (h : ns = ms) (hQ : Q (.bool false) s) :
    wpAny (model prog w) A (compareOp .NotEq (.ref a) (.ref b)) Q E s := by
  refine ne_intsK hl hi hl' hi' hu ?_
  simpa [h] using hQ
theorem item_last {value slice : Expr} {l : Addr} {pre : List Value} {u : Tok} {x : Value} (hl : s.heap.IsList l (pre ++ [x]).toArray) (h : Q x s)
    (hs : subscripted slice false (.ref l) (.int (-1) u) = operate [.ref l, .int (-1) u] (getItem (.ref l) (.int (-1) u)) := by with_unfolding_all rfl) (hg : ∀ r, letTemporaryGo value (.ref l) r = pure () := by intro _; with_unfolding_all rfl) :
    wpAny (model prog w) A (subscriptTail value slice (.ref l) (.int (-1) u)) Q E s := by
  refine item_neg hl (by decide) (by simp; lia) (by decide) ?_ h hs hg
  have : (-1 + ((pre ++ [x]).length : Int)).toNat = pre.length := by simp only [List.length_append, List.length_cons, List.length_nil]; lia
  rw [this]; simp
end
theorem ints_at {ys : List Value} {ns : List Int} (h : IntsAre ys ns) {i : Nat} {v : Value} (e : ys.toArray[i]? = some v) : ∃ t, v = .int (ns.getD i 0) t := by
  have e' : ys[i]? = some v := by simpa using e
  have hi : i < ys.length := by
    rcases Nat.lt_or_ge i ys.length with h' | h'
    · exact h'
    · rw [List.getElem?_eq_none h'] at e'; cases e'
  have hn : i < ns.length := by rw [← h.length]; exact hi
  obtain ⟨t, ht⟩ := h.get i ns[i] (by simp [hn])
  rw [ht] at e'
  exact ⟨t, by rw [← Option.some.inj e']; simp [hn]⟩
open Mine.LC in
theorem ints_filter {ns : List Int} {q : Int → Bool} {ys : List Value} (h : AreAll (fun j y => ∃ u, y = .int (ns.getD j 0) u) ((List.range ns.length).filter fun j => q (ns.getD j 0)) ys) : IntsAre ys (ns.filter q) := by
  have h1 := intsAre_of (f := fun j => ns.getD j 0) h
  have e : ((List.range ns.length).filter fun j => q (ns.getD j 0)).map (fun j => ns.getD j 0) = ((List.range ns.length).map fun j => ns.getD j 0).filter q := by
    rw [List.filter_map]; rfl
  have e2 : (List.range ns.length).map (fun j => ns.getD j 0) = ns := by
    apply List.ext_getElem
    · simp
    · intro i h1 h2
      simp at h1 h2 ⊢
      simp [h2]
  rw [e, e2] at h1
  exact h1
end Mine
namespace Mine
theorem ne_dec (a b : Int) : (a != b) = decide (a ≠ b) := by
  by_cases h : a = b <;> simp [h]
theorem nin_dec (a b c : Int) : (!([a, b].any fun x => x == c)) = (decide (c ≠ a) && decide (c ≠ b)) := by
  have k : ∀ x : Int, (x == c) = decide (c = x) := fun x => by
    by_cases h : c = x
    · subst h; simp
    · have : ¬ x = c := fun e => h e.symm
      simp [h, this]
  simp only [List.any_cons, List.any_nil, Bool.or_false, k, Bool.not_or]
  by_cases h1 : c = a <;> by_cases h2 : c = b <;> simp [h1, h2]
end Mine
namespace Mine
section
variable {prog : Program} {w : World} {A : Around} {E : Value → Shared → Prop} {s : Shared} {Q : Value → Shared → Prop}
/-- an item of a list of seats -/
theorem item_in {value slice : Expr} {l : Addr} {ys : List Value} {ms : List Nat} {k ln : Int} {u : Tok} (hl : s.heap.IsList l ys.toArray) (hi : IntsAre ys (ms.map fun j : Nat => (j : Int))) (h0 : 0 ≤ k) (h1 : k < ln) (hn : (ys.length : Int) = ln) (h4 : ln ≤ 4)
    (h : ∀ sN ∈ ms, ∀ t, Q (.int (sN : Int) t) s)
    (hs : subscripted slice false (.ref l) (.int k u) = operate [.ref l, .int k u] (getItem (.ref l) (.int k u)) := by with_unfolding_all rfl) (hg : ∀ r, letTemporaryGo value (.ref l) r = pure () := by intro _; with_unfolding_all rfl) :
    wpAny (model prog w) A (subscriptTail value slice (.ref l) (.int k u)) Q E s := by
  have hlen := hi.length
  rw [List.length_map] at hlen
  have hlt : k.toNat < ms.length := by lia
  obtain ⟨t, ht⟩ := hi.get k.toNat ((ms[k.toNat] : Nat) : Int) (by simp [hlt])
  exact item_listL hl h0 (by lia) ht (h _ (List.getElem_mem hlt) t) hs hg
/-- the text of the left neighbour's seat -/
theorem item_left {value slice : Expr} {l : Addr} {f : Nat → List Nat} {u0 u1 u2 u3 : Tok} {sN : Nat} {u : Tok} (hl : s.heap.IsList l [Value.str (S (f 0)) u0, .str (S (f 1)) u1, .str (S (f 2)) u2, .str (S (f 3)) u3].toArray) (h4 : sN < 4)
    (h : ∀ t, Q (.str (S (f ((sN + 3) % 4))) t) s)
    (hs : subscripted slice false (.ref l) (.int ((sN : Int) - 1) u) = operate [.ref l, .int ((sN : Int) - 1) u] (getItem (.ref l) (.int ((sN : Int) - 1) u)) := by with_unfolding_all rfl) (hg : ∀ r, letTemporaryGo value (.ref l) r = pure () := by intro _; with_unfolding_all rfl) :
    wpAny (model prog w) A (subscriptTail value slice (.ref l) (.int ((sN : Int) - 1) u)) Q E s := by
  rcases Pl.cases4 h4 with rfl | rfl | rfl | rfl
  · exact item_neg hl (by decide) (by simp) (by decide) (x := .str (S (f 3)) u3) rfl (h u3) hs hg
  · exact item_listL hl (by decide) (by decide) (x := .str (S (f 0)) u0) rfl (h u0) hs hg
  · exact item_listL hl (by decide) (by decide) (x := .str (S (f 1)) u1) rfl (h u1) hs hg
  · exact item_listL hl (by decide) (by decide) (x := .str (S (f 2)) u2) rfl (h u2) hs hg
theorem ABCD_at : ∀ i : Fin 4, (Txt.charAt (Str.ofString "ABCD") ((i.val : Int) - 1)).isSome = true ∧ Txt.item (Str.ofString "ABCD") ((i.val : Int) - 1) = S [65 + (i.val + 3) % 4] := by decide +kernel
theorem ABCD_left {sN : Nat} {t u : Tok} (h4 : sN < 4) (h : ∀ t' k, Q (.str (S [65 + (sN + 3) % 4]) t') { s with toks := k }) {value slice : Expr}
    (hs : subscripted slice false (.str (Str.ofString "ABCD") t) (.int ((sN : Int) - 1) u) = operate [.str (Str.ofString "ABCD") t, .int ((sN : Int) - 1) u] (getItem (.str (Str.ofString "ABCD") t) (.int ((sN : Int) - 1) u)) := by with_unfolding_all rfl) :
    wpAny (model prog w) A (subscriptTail value slice (.str (Str.ofString "ABCD") t) (.int ((sN : Int) - 1) u)) Q E s := by
  have e := ABCD_at ⟨sN, h4⟩
  refine tail_any (typeIs_str _ _ _) F.slot_str_getitem.lookup (SB.getItem ?_ e.1 ?_) hs
  · unfold fitsSsize; simp; lia
  · rw [e.2]; exact h _ _
theorem abcd_low : ∀ i : Fin 4, (Txt.charAt (Str.ofString "abcd") (i.val : Int)).isSome = true ∧ Txt.item (Str.ofString "abcd") (i.val : Int) = S [97 + i.val] := by decide +kernel
theorem abcd_up : ∀ i : Fin 4, (Txt.charAt (Str.ofString "ABCD") (i.val : Int)).isSome = true ∧ Txt.item (Str.ofString "ABCD") (i.val : Int) = S [65 + i.val] := by decide +kernel
theorem seat_low {sN : Nat} {t u : Tok} (h4 : sN < 4) (h : ∀ t' k, Q (.str (S [97 + sN]) t') { s with toks := k }) {value slice : Expr}
    (hs : subscripted slice false (.str (Str.ofString "abcd") t) (.int (sN : Int) u) = operate [.str (Str.ofString "abcd") t, .int (sN : Int) u] (getItem (.str (Str.ofString "abcd") t) (.int (sN : Int) u)) := by with_unfolding_all rfl) :
    wpAny (model prog w) A (subscriptTail value slice (.str (Str.ofString "abcd") t) (.int (sN : Int) u)) Q E s := by
  have e := abcd_low ⟨sN, h4⟩
  refine tail_any (typeIs_str _ _ _) F.slot_str_getitem.lookup (SB.getItem ?_ e.1 ?_) hs
  · unfold fitsSsize; simp; lia
  · rw [e.2]; exact h _ _
theorem seat_up {sN : Nat} {t u : Tok} (h4 : sN < 4) (h : ∀ t' k, Q (.str (S [65 + sN]) t') { s with toks := k }) {value slice : Expr}
    (hs : subscripted slice false (.str (Str.ofString "ABCD") t) (.int (sN : Int) u) = operate [.str (Str.ofString "ABCD") t, .int (sN : Int) u] (getItem (.str (Str.ofString "ABCD") t) (.int (sN : Int) u)) := by with_unfolding_all rfl) :
    wpAny (model prog w) A (subscriptTail value slice (.str (Str.ofString "ABCD") t) (.int (sN : Int) u)) Q E s := by
  have e := abcd_up ⟨sN, h4⟩
  refine tail_any (typeIs_str _ _ _) F.slot_str_getitem.lookup (SB.getItem ?_ e.1 ?_) hs
  · unfold fitsSsize; simp; lia
  · rw [e.2]; exact h _ _
theorem ne_same {x : Str} {t u : Tok} (h : Q (.bool false) s) : wpAny (model prog w) A (compareOp .NotEq (.str x t) (.str x u)) Q E s := by
  refine ne_str ?_
  simpa using h
end
end Mine
namespace Mine
open Mine.Gen in
theorem item2_is {prog : Program} {w : World} {A : Around} {E : Value → Shared → Prop} {s : Shared} {Q : Value → Shared → Prop} {value slice : Expr} {l : Addr} {x y k z : Int} {t1 t2 u : Tok} (hl : s.heap.IsList l [Value.int x t1, .int y t2].toArray) (h0 : 0 ≤ k) (h1 : k < 2) (e : (if k = 0 then x else y) = z)
    (h : ∀ v, Q (.int z v) s)
    (hs : subscripted slice false (.ref l) (.int k u) = operate [.ref l, .int k u] (getItem (.ref l) (.int k u)) := by with_unfolding_all rfl) (hg : ∀ r, letTemporaryGo value (.ref l) r = pure () := by intro _; with_unfolding_all rfl) :
    wpAny (model prog w) A (subscriptTail value slice (.ref l) (.int k u)) Q E s :=
  item2 hl h0 h1 (fun z' v e' => by rw [e'.trans e]; exact h v) hs hg
end Mine
end
section
open PySem PySem.W PyProof.Rows PySem.Builtin.Int
open PyProof.Rows.LCg Mine.LC Mine.Bk PySem.Calls
namespace Mine.S1
theorem lines42 : True := by
  k_with_none
  w_top off
  k_with "execs cons" => (((try dsimp only); refine toks_any ?_; intro _))
  k_with "k_enter" => (case zzfresh => (refine' code_def ?zzk1 ?zzk2 ?zzk3 ?zzk4 ?zzk5 ?zzkA ?zzkF ?zzkK ?zzk6 ?zzk7 ?zzk8 ?zzk9 ?zzkB ?_ ?zzc2 ?zzc3 ?zzc4 ?zzc5; (case zzkA => exact rfl); (case zzkF => exact rfl); (case zzkK => first | exact rfl | assumption); (case zzk1 => k_asm); (case zzk2 => k_asm); (case zzk3 => k_asm); (case zzk4 => k_asm); (case zzk5 => k_asm); (case zzk6 => k_is); (case zzk7 => k_is); (case zzk8 => k_room); (case zzk9 => first | exact BindsTo.of_eq rfl | exact binds_K (by k_in) rfl (by k_is) rfl rfl rfl | (refine kp_binds (by k_in) ?_; exact fun _ => rfl) | fail "k_enter: no rule for these arguments"); (case zzc5 => decide); (case zzkB => exact locs rfl); (case zzc2 => exact rfl); (case zzc3 => exact rfl); (case zzc4 => exact rfl); k_whole; intro zzg' zzL' zzh' zzFG' zzF' zzN' zzB' zzX' zzT'; (try dsimp only); (try k_lift zzB'); (try k_fold)))
  k_with "k_enter" => (case zzfresh => (refine' code_defC ?zzk1 ?zzk2 ?zzk3 ?zzk4 ?zzk5 ?zzkA ?zzkF ?zzkK ?zzk6 ?zzk7 ?zzk8 ?zzk9 ?zzkB ?zzkD ?_ ?zzc2 ?zzc3 ?zzc4; (case zzkA => exact rfl); (case zzkF => exact rfl); (case zzkK => first | exact rfl | assumption); (case zzk1 => k_asm); (case zzk2 => k_asm); (case zzk3 => k_asm); (case zzk4 => k_asm); (case zzk5 => k_asm); (case zzk6 => k_is); (case zzk7 => k_is); (case zzk8 => k_room); (case zzk9 => first | exact BindsTo.of_eq rfl | exact binds_K (by k_in) rfl (by k_is) rfl rfl rfl | (refine kp_binds (by k_in) ?_; exact fun _ => rfl) | fail "k_enter: no rule for these arguments"); (case zzkB => exact rfl); (case zzkD => decide +kernel); (case zzc2 => exact rfl); (case zzc3 => exact rfl); (case zzc4 => exact rfl); k_whole; intro zzg' zzL' zzh' zztk' zzcells' zzFG' zzF' zzN' zzY' zzB' zzX' zzT' zzl1; (try k_lt zzl1); k_cells zzY'; (try simp only [List.cons_append, List.nil_append] at zzN'); (try dsimp only); (try k_lift zzB'); (try k_fold)))
  k_with "mine open" => ((refine wpAny_call ?_; k_dflt (first | k_enter | kc_enter)))
  k_with "mine open R" => (case zzfresh => (refine wpAny_call ?_; k_dflt (refine' code_defR ?zzk1 ?zzk2 ?zzk3 ?zzk4 ?zzkD ?zzk5 ?zzkA ?zzkF ?zzkK ?zzk6 ?zzk7 ?zzk8 ?zzk9 ?zzkB ?_ ?zzc2 ?zzc3 ?zzc4 ?zzc5; (case zzkA => exact rfl); (case zzkF => exact rfl); (case zzkK => first | exact rfl | assumption); (case zzk1 => k_asm); (case zzk2 => k_asm); (case zzk3 => k_asm); (case zzk4 => with_reducible assumption); (case zzkD => with_reducible assumption); (case zzk5 => k_asm); (case zzk6 => k_is); (case zzk7 => k_is); (case zzk8 => k_room); (case zzk9 => first | exact BindsTo.of_eq rfl | exact binds_K (by k_in) rfl (by k_is) rfl rfl rfl | (refine kp_binds (by k_in) ?_; exact fun _ => rfl) | fail "k_enter: no rule for these arguments"); (case zzc5 => decide); (case zzkB => exact locs rfl); (case zzc2 => exact rfl); (case zzc3 => exact rfl); (case zzc4 => exact rfl)); k_whole; intro zzg' zzL' zzh' zzFG' zzF' zzN' zzB' zzX' zzT' zzS'; (try dsimp only); (try k_lift zzB'); (try k_fold)))
  k_with "mine open CR" => (case zzfresh => (refine wpAny_call ?_; k_dflt (refine' code_defCR ?zzk1 ?zzk2 ?zzk3 ?zzk4 ?zzkR ?zzk5 ?zzkA ?zzkF ?zzkK ?zzk6 ?zzk7 ?zzk8 ?zzk9 ?zzkB ?zzkD ?_ ?zzc2 ?zzc3 ?zzc4; (case zzkA => exact rfl); (case zzkF => exact rfl); (case zzkK => first | exact rfl | assumption); (case zzk1 => k_asm); (case zzk2 => k_asm); (case zzk3 => k_asm); (case zzk4 => with_reducible assumption); (case zzkR => with_reducible assumption); (case zzk5 => k_asm); (case zzk6 => k_is); (case zzk7 => k_is); (case zzk8 => k_room); (case zzk9 => first | exact BindsTo.of_eq rfl | exact binds_K (by k_in) rfl (by k_is) rfl rfl rfl | (refine kp_binds (by k_in) ?_; exact fun _ => rfl) | fail "k_enter: no rule for these arguments"); (case zzkB => exact rfl); (case zzkD => decide +kernel); (case zzc2 => exact rfl); (case zzc3 => exact rfl); (case zzc4 => exact rfl)); k_whole; intro zzg' zzL' zzh' zztk' zzcells' zzFG' zzF' zzN' zzY' zzB' zzX' zzT' zzl1 zzS'; (try k_lt zzl1); k_cells zzY'; (try simp only [List.cons_append, List.nil_append] at zzN'); (try dsimp only); (try k_lift zzB'); (try k_fold)))
  k_with "mine open CR0" => (case zzfresh => (refine wpAny_call ?_; k_dflt (refine' code_defCR (own := []) ?zzk1 ?zzk2 ?zzk3 ?zzk4 ?zzkR ?zzk5 ?zzkA ?zzkF ?zzkK ?zzk6 ?zzk7 ?zzk8 ?zzk9 ?zzkB ?zzkD ?_ ?zzc2 ?zzc3 ?zzc4; (case zzkA => exact rfl); (case zzkF => exact rfl); (case zzkK => first | exact rfl | assumption); (case zzk1 => k_asm); (case zzk2 => k_asm); (case zzk3 => k_asm); (case zzk4 => k_asm); (case zzkR => exact Apart.zero); (case zzk5 => k_asm); (case zzk6 => k_is); (case zzk7 => k_is); (case zzk8 => k_room); (case zzk9 => first | exact BindsTo.of_eq rfl | exact binds_K (by k_in) rfl (by k_is) rfl rfl rfl | (refine kp_binds (by k_in) ?_; exact fun _ => rfl) | fail "k_enter: no rule for these arguments"); (case zzkB => exact rfl); (case zzkD => decide +kernel); (case zzc2 => exact rfl); (case zzc3 => exact rfl); (case zzc4 => exact rfl)); k_whole; intro zzg' zzL' zzh' zztk' zzcells' zzFG' zzF' zzN' zzY' zzB' zzX' zzT' zzl1 zzS'; clear zzl1; k_cells zzY'; (try simp only [List.cons_append, List.nil_append, List.append_nil] at zzN'); (try dsimp only); (try k_lift zzB'); (try k_fold)))
  k_with "mine open R0" => (case zzfresh => (refine wpAny_call ?_; k_dflt (refine' code_defR (own := []) ?zzk1 ?zzk2 ?zzk3 ?zzk4 ?zzkD ?zzk5 ?zzkA ?zzkF ?zzkK ?zzk6 ?zzk7 ?zzk8 ?zzk9 ?zzkB ?_ ?zzc2 ?zzc3 ?zzc4 ?zzc5; (case zzkA => exact rfl); (case zzkF => exact rfl); (case zzkK => first | exact rfl | assumption); (case zzk1 => k_asm); (case zzk2 => k_asm); (case zzk3 => k_asm); (case zzk4 => k_asm); (case zzkD => exact Apart.zero); (case zzk5 => k_asm); (case zzk6 => k_is); (case zzk7 => k_is); (case zzk8 => k_room); (case zzk9 => first | exact BindsTo.of_eq rfl | exact binds_K (by k_in) rfl (by k_is) rfl rfl rfl | (refine kp_binds (by k_in) ?_; exact fun _ => rfl) | fail "k_enter: no rule for these arguments"); (case zzc5 => decide); (case zzkB => exact locs rfl); (case zzc2 => exact rfl); (case zzc3 => exact rfl); (case zzc4 => exact rfl)); k_whole; intro zzg' zzL' zzh' zzFG' zzF' zzN' zzB' zzX' zzT' zzS'; (try dsimp only); (try k_lift zzB'); (try k_fold)))
  k_with "exec Assign cons ListComp" => ((k_here; (with_reducible show wpAny _ _ (exec (Stmt.Assign [Expr.Name _ _] (Expr.ListComp _ [Comprehension.mk (Expr.Name _ _) _ [] _] _ _) _) _) _ _ _); k_dflt (refine assign_M (F₀ := by k_asm) (by rfl) (by with_unfolding_all rfl) (by with_unfolding_all rfl) (by decide) (by rfl) (by decide) (by rfl) (by rfl) (by rfl) ?_)))
  k_with "exec Assign cons ListComp" => ((k_here; (with_reducible show wpAny _ _ (exec (Stmt.Assign [Expr.Name _ _] (Expr.ListComp _ [Comprehension.mk (Expr.Name _ _) _ [_] _] _ _) _) _) _ _ _); k_dflt (refine assign_MT (F₀ := by k_asm) (by rfl) (by with_unfolding_all rfl) (by with_unfolding_all rfl) (by decide) (by rfl) (by decide) (by rfl) (by rfl) (by rfl) ?_)))
  k_with "eval ListComp" => ((k_here; (with_reducible show wpAny _ _ (eval (Expr.ListComp _ [Comprehension.mk (Expr.Name _ _) _ [] _] _ _) _) _ _ _); k_dflt (refine comp_M (F₀ := by k_asm) (by with_unfolding_all rfl) (by decide) (by rfl) (by decide) (by rfl) ?_)))
  k_with "eval ListComp" => ((k_here; (with_reducible show wpAny _ _ (eval (Expr.ListComp _ [Comprehension.mk (Expr.Name _ _) _ [_] _] _ _) _) _ _ _); k_dflt (refine comp_MT (F₀ := by k_asm) (by with_unfolding_all rfl) (by decide) (by rfl) (by decide) (by rfl) ?_)))
  k_with "k_mem" => (first | with_reducible assumption | exact List.Mem.head _ | (refine' List.Mem.tail _ ?_; k_mem))
  k_with "k_all" => (case zzfresh => first | with_reducible assumption | exact List.forall_mem_nil _ | (refine' List.forall_mem_cons.mpr ⟨?zza, ?zzb⟩; (case zza => k_ne); (case zzb => k_all)))
  k_with "mine sub" => (case zzfresh => first | with_reducible assumption | (intro zzq zzhq; exact List.Mem.tail _ (by revert zzq zzhq; walk_at "mine sub")))
  k_with "call ref" => (refine stop_here ?_)
  k_with "call ref" => (case zzfresh => (k_here; k_dflt (refine' ConF.useE (by with_reducible assumption) ?zzB ?zzF ?zzX ?zzN ?zzT ?zzhk ?zzhh ?zzhd ?zzhf ?zzhg ?zzhu ?_; (case zzhf => exact rfl); (case zzhk => exact rfl); (case zzhh => exact rfl); (case zzhg => exact rfl); (case zzF => k_asm); (case zzN => k_asm); (case zzB => k_asm); (case zzX => k_in); (case zzT => k_asm); (case zzhd => exact Nat.le_of_ble_eq_true rfl); (case zzhu => exact Nat.le_of_ble_eq_true rfl)); intro zzv' zzh' zztk' zzhpost' zzF' zzN'; k_dflt (obtain ⟨zzu1', zze1'⟩ := zzhpost'); subst zze1'))
  k_with "call ref" => (case zzfresh => (k_here; (with_reducible show wpAny _ _ (call (Value.ref 238) _) _ _ _); k_dflt (refine' ConF.useN (by with_reducible assumption) ?zzsub ?zzB ?zzF ?zzX ?zzN ?zzT ?zzhk ?zzhh ?zzhd ?zzhf ?zzhg ?zzhu ?_; (case zzN => k_asm); (case zzsub => walk_at "mine sub"); (case zzhf => exact rfl); (case zzhk => exact rfl); (case zzhh => exact rfl); (case zzhg => exact rfl); (case zzF => k_asm); (case zzB => k_asm); (case zzX => k_in); (case zzT => k_asm); (case zzhd => exact Nat.le_of_ble_eq_true rfl); (case zzhu => exact Nat.le_of_ble_eq_true rfl)); intro zzv' zzh' zztk' zzadd' zzhpost' zzoff' zzF' zzN'; k_dflt (obtain ⟨zzR', zzu0', zzu1', zzu2', zzu3', zze1', zze2', zzo1'⟩ := zzhpost'); subst zze1'; subst zze2'; (try simp only [List.cons_append, List.nil_append] at zzN'); k_dflt (have o2' := off1_all zzo1' zzoff')))
  k_with "call ref" => (case zzfresh => (k_here; (with_reducible show wpAny _ _ (call (Value.ref 243) _) _ _ _); k_dflt (refine' ConF.useN (may' (by with_reducible assumption) (by with_reducible assumption)) ?zzsub ?zzB ?zzF ?zzX ?zzN ?zzT ?zzhk ?zzhh ?zzhd ?zzhf ?zzhg ?zzhu ?_; (case zzN => k_asm); (case zzsub => exact List.forall_mem_cons.mpr ⟨by k_mem, List.forall_mem_nil _⟩); (case zzhf => exact rfl); (case zzhk => exact rfl); (case zzhh => exact rfl); (case zzhg => exact rfl); (case zzF => k_asm); (case zzB => k_asm); (case zzX => k_in); (case zzT => k_asm); (case zzhd => exact Nat.le_of_ble_eq_true rfl); (case zzhu => exact Nat.le_of_ble_eq_true rfl)); intro zzv' zzh' zztk' zzadd' zzhpost' zzoff' zzF' zzN'; k_dflt (obtain ⟨zzM', zzys', zze1', zze2', zzo1', zzi1'⟩ := zzhpost'); subst zze1'; subst zze2'; (try simp only [List.cons_append, List.nil_append] at zzN'); k_dflt (have o2' := off1_one zzo1' zzoff')))
  trivial
set_option maxRecDepth 100000 in
set_option maxHeartbeats 1000000 in
theorem seg1 {w : World} {h₀ : Heap} {L fa : Addr} {cd : Value} {p : Program} {loose : List Str} {mean : ExcName → Option Value} {mg mb : Str → Option Value} {sc : Scope} {m : Str → Option Value} {s : Shared}
    {Q : Flow → Shared → Prop} {E : Value → Shared → Prop} {a0 a1 : Stmt} {tl rest : List Stmt} (hat : turnAt w.params = some (a0 :: a1 :: tl, sc))
    (X : (Mine.hd.heap_39 w.params).In h₀) (B' : Below callerA h₀ [] h₀) (TT : Top p loose mean mg mb h₀)
    {B D G : Addr} {T : Nat → Addr} {c : Nat → Nat} {x : Nat → List Nat} {a b : Nat → Tok} {tD : Tok} {n : Nat} {σ τ : Nat → Nat} {d : Nat → List Nat} {kk : Nat → Nat} {led : Led}
    (F : Fr h₀ L s.heap m) (N : News h₀ L s.heap led) (hbook : m (Str.ofString "book") = some (.ref B)) (hsub : ∀ q ∈ book w B D G T c x a b tD n, q ∈ led)
    (hp : Per σ τ) (hc : ∀ j, j < 4 → Tit (c j) (σ j)) (hx : ∀ i, i < 4 → x (τ i) = tx (d i) (kk i)) (hd : ∀ j, j < 4 → Ok (d j)) (hk : ∀ j, j < 4 → kk j < 3)
    (k : ∀ h' tk' R M ys u0 u1 u2 u3, Fr h₀ L h' (fun y => if y = Str.ofString "may" then some (.ref M) else if y = Str.ofString "texts" then some (.ref R) else m y) →
      News h₀ L h' ((M, lst ys) :: (R, lst [Value.str (S (tx (d 0) (kk 0))) u0, .str (S (tx (d 1) (kk 1))) u1, .str (S (tx (d 2) (kk 2))) u2, .str (S (tx (d 3) (kk 3))) u3]) :: led) →
      (∀ q ∈ led, q.1 ≠ M) → IntsAre ys ((My.mayN d).map fun j : Nat => (j : Int)) →
      wpAny (model PySem.Challenge.rw_wy0034_01.row.prog w) (callerA.deeper (envOfC (Str.ofString "law") sc L fa cd)) (execs rest (envOfC (Str.ofString "law") sc L fa cd)) Q E { s with heap := h', toks := tk' }) :
    wpAny (model PySem.Challenge.rw_wy0034_01.row.prog w) (callerA.deeper (envOfC (Str.ofString "law") sc L fa cd)) (execs (a0 :: a1 :: rest) (envOfC (Str.ofString "law") sc L fa cd)) Q E s := by
  have e : turnAt w.params = some (_ :: _ :: _, _) := rfl
  cases hat.symm.trans e
  clear hat e
  obtain ⟨m0, rfl⟩ : ∃ m0, m = fun y => if y = Str.ofString "book" then some (.ref B) else m0 y := ⟨m, by funext y; split <;> simp_all⟩
  have cT := texts' (w := w) (B := B) (D := D) (G := G) (T := T) (c := c) (x := x) (a := a) (b := b) (tD := tD) (n := n) hp hc
  have x0 := hx 0 (by decide)
  have x1 := hx 1 (by decide)
  have x2 := hx 2 (by decide)
  have x3 := hx 3 (by decide)
  rw [x0, x1, x2, x3] at cT
  revert X
  k_fill
  intro X
  k_steps
  refine k _ _ _ _ _ _ _ _ _ (by assumption) (by assumption) (fun q hq => ?_) (by assumption)
  exact (by assumption : ∀ q ∈ (_, _) :: led, q.1 ≠ _) q (.tail _ hq)

end Mine.S1
end
section
open PySem PySem.W PyProof.Rows PySem.Builtin.Int
open PyProof.Rows.LCg Mine.LC Mine.Bk PySem.Calls
namespace Mine.S2
theorem lines43 : True := by
  k_with_none
  w_top off
  k_with "execs cons" => (((try dsimp only); refine toks_any ?_; intro _))
  k_with "k_enter" => (case zzfresh => (refine' code_def ?zzk1 ?zzk2 ?zzk3 ?zzk4 ?zzk5 ?zzkA ?zzkF ?zzkK ?zzk6 ?zzk7 ?zzk8 ?zzk9 ?zzkB ?_ ?zzc2 ?zzc3 ?zzc4 ?zzc5; (case zzkA => exact rfl); (case zzkF => exact rfl); (case zzkK => first | exact rfl | assumption); (case zzk1 => k_asm); (case zzk2 => k_asm); (case zzk3 => k_asm); (case zzk4 => k_asm); (case zzk5 => k_asm); (case zzk6 => k_is); (case zzk7 => k_is); (case zzk8 => k_room); (case zzk9 => first | exact BindsTo.of_eq rfl | exact binds_K (by k_in) rfl (by k_is) rfl rfl rfl | (refine kp_binds (by k_in) ?_; exact fun _ => rfl) | fail "k_enter: no rule for these arguments"); (case zzc5 => decide); (case zzkB => exact locs rfl); (case zzc2 => exact rfl); (case zzc3 => exact rfl); (case zzc4 => exact rfl); k_whole; intro zzg' zzL' zzh' zzFG' zzF' zzN' zzB' zzX' zzT'; (try dsimp only); (try k_lift zzB'); (try k_fold)))
  k_with "k_enter" => (case zzfresh => (refine' code_defC ?zzk1 ?zzk2 ?zzk3 ?zzk4 ?zzk5 ?zzkA ?zzkF ?zzkK ?zzk6 ?zzk7 ?zzk8 ?zzk9 ?zzkB ?zzkD ?_ ?zzc2 ?zzc3 ?zzc4; (case zzkA => exact rfl); (case zzkF => exact rfl); (case zzkK => first | exact rfl | assumption); (case zzk1 => k_asm); (case zzk2 => k_asm); (case zzk3 => k_asm); (case zzk4 => k_asm); (case zzk5 => k_asm); (case zzk6 => k_is); (case zzk7 => k_is); (case zzk8 => k_room); (case zzk9 => first | exact BindsTo.of_eq rfl | exact binds_K (by k_in) rfl (by k_is) rfl rfl rfl | (refine kp_binds (by k_in) ?_; exact fun _ => rfl) | fail "k_enter: no rule for these arguments"); (case zzkB => exact rfl); (case zzkD => decide +kernel); (case zzc2 => exact rfl); (case zzc3 => exact rfl); (case zzc4 => exact rfl); k_whole; intro zzg' zzL' zzh' zztk' zzcells' zzFG' zzF' zzN' zzY' zzB' zzX' zzT' zzl1; (try k_lt zzl1); k_cells zzY'; (try simp only [List.cons_append, List.nil_append] at zzN'); (try dsimp only); (try k_lift zzB'); (try k_fold)))
  k_with "mine open" => ((refine wpAny_call ?_; k_dflt (first | k_enter | kc_enter)))
  k_with "mine open R" => (case zzfresh => (refine wpAny_call ?_; k_dflt (refine' code_defR ?zzk1 ?zzk2 ?zzk3 ?zzk4 ?zzkD ?zzk5 ?zzkA ?zzkF ?zzkK ?zzk6 ?zzk7 ?zzk8 ?zzk9 ?zzkB ?_ ?zzc2 ?zzc3 ?zzc4 ?zzc5; (case zzkA => exact rfl); (case zzkF => exact rfl); (case zzkK => first | exact rfl | assumption); (case zzk1 => k_asm); (case zzk2 => k_asm); (case zzk3 => k_asm); (case zzk4 => with_reducible assumption); (case zzkD => with_reducible assumption); (case zzk5 => k_asm); (case zzk6 => k_is); (case zzk7 => k_is); (case zzk8 => k_room); (case zzk9 => first | exact BindsTo.of_eq rfl | exact binds_K (by k_in) rfl (by k_is) rfl rfl rfl | (refine kp_binds (by k_in) ?_; exact fun _ => rfl) | fail "k_enter: no rule for these arguments"); (case zzc5 => decide); (case zzkB => exact locs rfl); (case zzc2 => exact rfl); (case zzc3 => exact rfl); (case zzc4 => exact rfl)); k_whole; intro zzg' zzL' zzh' zzFG' zzF' zzN' zzB' zzX' zzT' zzS'; (try dsimp only); (try k_lift zzB'); (try k_fold)))
  k_with "mine open CR" => (case zzfresh => (refine wpAny_call ?_; k_dflt (refine' code_defCR ?zzk1 ?zzk2 ?zzk3 ?zzk4 ?zzkR ?zzk5 ?zzkA ?zzkF ?zzkK ?zzk6 ?zzk7 ?zzk8 ?zzk9 ?zzkB ?zzkD ?_ ?zzc2 ?zzc3 ?zzc4; (case zzkA => exact rfl); (case zzkF => exact rfl); (case zzkK => first | exact rfl | assumption); (case zzk1 => k_asm); (case zzk2 => k_asm); (case zzk3 => k_asm); (case zzk4 => with_reducible assumption); (case zzkR => with_reducible assumption); (case zzk5 => k_asm); (case zzk6 => k_is); (case zzk7 => k_is); (case zzk8 => k_room); (case zzk9 => first | exact BindsTo.of_eq rfl | exact binds_K (by k_in) rfl (by k_is) rfl rfl rfl | (refine kp_binds (by k_in) ?_; exact fun _ => rfl) | fail "k_enter: no rule for these arguments"); (case zzkB => exact rfl); (case zzkD => decide +kernel); (case zzc2 => exact rfl); (case zzc3 => exact rfl); (case zzc4 => exact rfl)); k_whole; intro zzg' zzL' zzh' zztk' zzcells' zzFG' zzF' zzN' zzY' zzB' zzX' zzT' zzl1 zzS'; (try k_lt zzl1); k_cells zzY'; (try simp only [List.cons_append, List.nil_append] at zzN'); (try dsimp only); (try k_lift zzB'); (try k_fold)))
  k_with "mine open CR0" => (case zzfresh => (refine wpAny_call ?_; k_dflt (refine' code_defCR (own := []) ?zzk1 ?zzk2 ?zzk3 ?zzk4 ?zzkR ?zzk5 ?zzkA ?zzkF ?zzkK ?zzk6 ?zzk7 ?zzk8 ?zzk9 ?zzkB ?zzkD ?_ ?zzc2 ?zzc3 ?zzc4; (case zzkA => exact rfl); (case zzkF => exact rfl); (case zzkK => first | exact rfl | assumption); (case zzk1 => k_asm); (case zzk2 => k_asm); (case zzk3 => k_asm); (case zzk4 => k_asm); (case zzkR => exact Apart.zero); (case zzk5 => k_asm); (case zzk6 => k_is); (case zzk7 => k_is); (case zzk8 => k_room); (case zzk9 => first | exact BindsTo.of_eq rfl | exact binds_K (by k_in) rfl (by k_is) rfl rfl rfl | (refine kp_binds (by k_in) ?_; exact fun _ => rfl) | fail "k_enter: no rule for these arguments"); (case zzkB => exact rfl); (case zzkD => decide +kernel); (case zzc2 => exact rfl); (case zzc3 => exact rfl); (case zzc4 => exact rfl)); k_whole; intro zzg' zzL' zzh' zztk' zzcells' zzFG' zzF' zzN' zzY' zzB' zzX' zzT' zzl1 zzS'; clear zzl1; k_cells zzY'; (try simp only [List.cons_append, List.nil_append, List.append_nil] at zzN'); (try dsimp only); (try k_lift zzB'); (try k_fold)))
  k_with "mine open R0" => (case zzfresh => (refine wpAny_call ?_; k_dflt (refine' code_defR (own := []) ?zzk1 ?zzk2 ?zzk3 ?zzk4 ?zzkD ?zzk5 ?zzkA ?zzkF ?zzkK ?zzk6 ?zzk7 ?zzk8 ?zzk9 ?zzkB ?_ ?zzc2 ?zzc3 ?zzc4 ?zzc5; (case zzkA => exact rfl); (case zzkF => exact rfl); (case zzkK => first | exact rfl | assumption); (case zzk1 => k_asm); (case zzk2 => k_asm); (case zzk3 => k_asm); (case zzk4 => k_asm); (case zzkD => exact Apart.zero); (case zzk5 => k_asm); (case zzk6 => k_is); (case zzk7 => k_is); (case zzk8 => k_room); (case zzk9 => first | exact BindsTo.of_eq rfl | exact binds_K (by k_in) rfl (by k_is) rfl rfl rfl | (refine kp_binds (by k_in) ?_; exact fun _ => rfl) | fail "k_enter: no rule for these arguments"); (case zzc5 => decide); (case zzkB => exact locs rfl); (case zzc2 => exact rfl); (case zzc3 => exact rfl); (case zzc4 => exact rfl)); k_whole; intro zzg' zzL' zzh' zzFG' zzF' zzN' zzB' zzX' zzT' zzS'; (try dsimp only); (try k_lift zzB'); (try k_fold)))
  k_with "exec Assign cons ListComp" => ((k_here; (with_reducible show wpAny _ _ (exec (Stmt.Assign [Expr.Name _ _] (Expr.ListComp _ [Comprehension.mk (Expr.Name _ _) _ [] _] _ _) _) _) _ _ _); k_dflt (refine assign_M (F₀ := by k_asm) (by rfl) (by with_unfolding_all rfl) (by with_unfolding_all rfl) (by decide) (by rfl) (by decide) (by rfl) (by rfl) (by rfl) ?_)))
  k_with "exec Assign cons ListComp" => ((k_here; (with_reducible show wpAny _ _ (exec (Stmt.Assign [Expr.Name _ _] (Expr.ListComp _ [Comprehension.mk (Expr.Name _ _) _ [_] _] _ _) _) _) _ _ _); k_dflt (refine assign_MT (F₀ := by k_asm) (by rfl) (by with_unfolding_all rfl) (by with_unfolding_all rfl) (by decide) (by rfl) (by decide) (by rfl) (by rfl) (by rfl) ?_)))
  k_with "eval ListComp" => ((k_here; (with_reducible show wpAny _ _ (eval (Expr.ListComp _ [Comprehension.mk (Expr.Name _ _) _ [] _] _ _) _) _ _ _); k_dflt (refine comp_M (F₀ := by k_asm) (by with_unfolding_all rfl) (by decide) (by rfl) (by decide) (by rfl) ?_)))
  k_with "eval ListComp" => ((k_here; (with_reducible show wpAny _ _ (eval (Expr.ListComp _ [Comprehension.mk (Expr.Name _ _) _ [_] _] _ _) _) _ _ _); k_dflt (refine comp_MT (F₀ := by k_asm) (by with_unfolding_all rfl) (by decide) (by rfl) (by decide) (by rfl) ?_)))
  k_with "k_mem" => (first | with_reducible assumption | exact List.Mem.head _ | (refine' List.Mem.tail _ ?_; k_mem))
  k_with "k_all" => (case zzfresh => first | with_reducible assumption | exact List.forall_mem_nil _ | (refine' List.forall_mem_cons.mpr ⟨?zza, ?zzb⟩; (case zza => k_ne); (case zzb => k_all)))
  k_with "mine sub" => (case zzfresh => first | with_reducible assumption | (intro zzq zzhq; exact List.Mem.tail _ (by revert zzq zzhq; walk_at "mine sub")))
  k_with "call ref" => (refine stop_here ?_)
  k_with "call ref" => (case zzfresh => (k_here; k_dflt (refine' ConF.useE (by with_reducible assumption) ?zzB ?zzF ?zzX ?zzN ?zzT ?zzhk ?zzhh ?zzhd ?zzhf ?zzhg ?zzhu ?_; (case zzhf => exact rfl); (case zzhk => exact rfl); (case zzhh => exact rfl); (case zzhg => exact rfl); (case zzF => k_asm); (case zzN => k_asm); (case zzB => k_asm); (case zzX => k_in); (case zzT => k_asm); (case zzhd => exact Nat.le_of_ble_eq_true rfl); (case zzhu => exact Nat.le_of_ble_eq_true rfl)); intro zzv' zzh' zztk' zzhpost' zzF' zzN'; k_dflt (obtain ⟨zzu1', zze1'⟩ := zzhpost'); subst zze1'))
  k_with "call builtin:len" => ((k_here; (with_reducible show wpAny _ _ (call (Value.builtin _) [Value.ref _]) _ _ _); k_dflt (refine len_is (News.isList (by k_asm) (by k_mem)) (by with_reducible assumption) (by omega) ?_); intro _ _))
  trivial
set_option maxRecDepth 100000 in
set_option maxHeartbeats 1000000 in
theorem seg2 {w : World} {h₀ : Heap} {L fa : Addr} {cd : Value} {p : Program} {loose : List Str} {mean : ExcName → Option Value} {mg mb : Str → Option Value} {sc : Scope} {m : Str → Option Value} {s : Shared}
    {Q : Flow → Shared → Prop} {E : Value → Shared → Prop} {a0 a1 a2 : Stmt} {tl rest : List Stmt} (hat : turnAt w.params = some (a0 :: a1 :: a2 :: tl, sc))
    (X : (Mine.hd.heap_39 w.params).In h₀) (B' : Below callerA h₀ [] h₀) (TT : Top p loose mean mg mb h₀)
    {M : Addr} {ys : List Value} {i : Int} {ti : Tok} {led : Led}
    (F : Fr h₀ L s.heap m) (N : News h₀ L s.heap led) (hturn : m (Str.ofString "turn") = some (.int i ti)) (hmay : m (Str.ofString "may") = some (.ref M)) (hM : (M, lst ys) ∈ led)
    {ln : Int} (hln : (ys.length : Int) = ln) (hlen : 12 < i → ln ≤ 1) (hl4 : ln ≤ 4)
    (k : ∀ h' tk', Fr h₀ L h' m → News h₀ L h' led →
      wpAny (model PySem.Challenge.rw_wy0034_01.row.prog w) (callerA.deeper (envOfC (Str.ofString "law") sc L fa cd)) (execs rest (envOfC (Str.ofString "law") sc L fa cd)) Q E { s with heap := h', toks := tk' }) :
    wpAny (model PySem.Challenge.rw_wy0034_01.row.prog w) (callerA.deeper (envOfC (Str.ofString "law") sc L fa cd)) (execs (a2 :: rest) (envOfC (Str.ofString "law") sc L fa cd)) Q E s := by
  have e : turnAt w.params = some (_ :: _ :: _ :: _, _) := rfl
  cases hat.symm.trans e
  clear hat e
  obtain ⟨m0, rfl⟩ : ∃ m0, m = fun y => if y = Str.ofString "turn" then some (.int i ti) else if y = Str.ofString "may" then some (.ref M) else m0 y := ⟨m, by funext y; (repeat' split) <;> simp_all⟩
  clear hturn hmay
  revert X
  k_fill
  intro X
  by_cases h12 : 12 < i
  · have hlen' := hlen h12
    clear hlen
    k_steps
    exact k _ _ (by assumption) (by assumption)
  · clear hlen
    k_steps
    exact k _ _ (by assumption) (by assumption)

end Mine.S2
end
section
open PySem PySem.W PyProof.Rows PySem.Builtin.Int
open PyProof.Rows.LCg Mine.LC Mine.Bk PySem.Calls
namespace Mine.S3
theorem lines44 : True := by
  k_with_none
  w_top off
  k_with "execs cons" => (((try dsimp only); refine toks_any ?_; intro _))
  k_with "k_enter" => (case zzfresh => (refine' code_def ?zzk1 ?zzk2 ?zzk3 ?zzk4 ?zzk5 ?zzkA ?zzkF ?zzkK ?zzk6 ?zzk7 ?zzk8 ?zzk9 ?zzkB ?_ ?zzc2 ?zzc3 ?zzc4 ?zzc5; (case zzkA => exact rfl); (case zzkF => exact rfl); (case zzkK => first | exact rfl | assumption); (case zzk1 => k_asm); (case zzk2 => k_asm); (case zzk3 => k_asm); (case zzk4 => k_asm); (case zzk5 => k_asm); (case zzk6 => k_is); (case zzk7 => k_is); (case zzk8 => k_room); (case zzk9 => first | exact BindsTo.of_eq rfl | exact binds_K (by k_in) rfl (by k_is) rfl rfl rfl | (refine kp_binds (by k_in) ?_; exact fun _ => rfl) | fail "k_enter: no rule for these arguments"); (case zzc5 => decide); (case zzkB => exact locs rfl); (case zzc2 => exact rfl); (case zzc3 => exact rfl); (case zzc4 => exact rfl); k_whole; intro zzg' zzL' zzh' zzFG' zzF' zzN' zzB' zzX' zzT'; (try dsimp only); (try k_lift zzB'); (try k_fold)))
  k_with "k_enter" => (case zzfresh => (refine' code_defC ?zzk1 ?zzk2 ?zzk3 ?zzk4 ?zzk5 ?zzkA ?zzkF ?zzkK ?zzk6 ?zzk7 ?zzk8 ?zzk9 ?zzkB ?zzkD ?_ ?zzc2 ?zzc3 ?zzc4; (case zzkA => exact rfl); (case zzkF => exact rfl); (case zzkK => first | exact rfl | assumption); (case zzk1 => k_asm); (case zzk2 => k_asm); (case zzk3 => k_asm); (case zzk4 => k_asm); (case zzk5 => k_asm); (case zzk6 => k_is); (case zzk7 => k_is); (case zzk8 => k_room); (case zzk9 => first | exact BindsTo.of_eq rfl | exact binds_K (by k_in) rfl (by k_is) rfl rfl rfl | (refine kp_binds (by k_in) ?_; exact fun _ => rfl) | fail "k_enter: no rule for these arguments"); (case zzkB => exact rfl); (case zzkD => decide +kernel); (case zzc2 => exact rfl); (case zzc3 => exact rfl); (case zzc4 => exact rfl); k_whole; intro zzg' zzL' zzh' zztk' zzcells' zzFG' zzF' zzN' zzY' zzB' zzX' zzT' zzl1; (try k_lt zzl1); k_cells zzY'; (try simp only [List.cons_append, List.nil_append] at zzN'); (try dsimp only); (try k_lift zzB'); (try k_fold)))
  k_with "mine open" => ((refine wpAny_call ?_; k_dflt (first | k_enter | kc_enter)))
  k_with "mine open R" => (case zzfresh => (refine wpAny_call ?_; k_dflt (refine' code_defR ?zzk1 ?zzk2 ?zzk3 ?zzk4 ?zzkD ?zzk5 ?zzkA ?zzkF ?zzkK ?zzk6 ?zzk7 ?zzk8 ?zzk9 ?zzkB ?_ ?zzc2 ?zzc3 ?zzc4 ?zzc5; (case zzkA => exact rfl); (case zzkF => exact rfl); (case zzkK => first | exact rfl | assumption); (case zzk1 => k_asm); (case zzk2 => k_asm); (case zzk3 => k_asm); (case zzk4 => with_reducible assumption); (case zzkD => with_reducible assumption); (case zzk5 => k_asm); (case zzk6 => k_is); (case zzk7 => k_is); (case zzk8 => k_room); (case zzk9 => first | exact BindsTo.of_eq rfl | exact binds_K (by k_in) rfl (by k_is) rfl rfl rfl | (refine kp_binds (by k_in) ?_; exact fun _ => rfl) | fail "k_enter: no rule for these arguments"); (case zzc5 => decide); (case zzkB => exact locs rfl); (case zzc2 => exact rfl); (case zzc3 => exact rfl); (case zzc4 => exact rfl)); k_whole; intro zzg' zzL' zzh' zzFG' zzF' zzN' zzB' zzX' zzT' zzS'; (try dsimp only); (try k_lift zzB'); (try k_fold)))
  k_with "mine open CR" => (case zzfresh => (refine wpAny_call ?_; k_dflt (refine' code_defCR ?zzk1 ?zzk2 ?zzk3 ?zzk4 ?zzkR ?zzk5 ?zzkA ?zzkF ?zzkK ?zzk6 ?zzk7 ?zzk8 ?zzk9 ?zzkB ?zzkD ?_ ?zzc2 ?zzc3 ?zzc4; (case zzkA => exact rfl); (case zzkF => exact rfl); (case zzkK => first | exact rfl | assumption); (case zzk1 => k_asm); (case zzk2 => k_asm); (case zzk3 => k_asm); (case zzk4 => with_reducible assumption); (case zzkR => with_reducible assumption); (case zzk5 => k_asm); (case zzk6 => k_is); (case zzk7 => k_is); (case zzk8 => k_room); (case zzk9 => first | exact BindsTo.of_eq rfl | exact binds_K (by k_in) rfl (by k_is) rfl rfl rfl | (refine kp_binds (by k_in) ?_; exact fun _ => rfl) | fail "k_enter: no rule for these arguments"); (case zzkB => exact rfl); (case zzkD => decide +kernel); (case zzc2 => exact rfl); (case zzc3 => exact rfl); (case zzc4 => exact rfl)); k_whole; intro zzg' zzL' zzh' zztk' zzcells' zzFG' zzF' zzN' zzY' zzB' zzX' zzT' zzl1 zzS'; (try k_lt zzl1); k_cells zzY'; (try simp only [List.cons_append, List.nil_append] at zzN'); (try dsimp only); (try k_lift zzB'); (try k_fold)))
  k_with "mine open CR0" => (case zzfresh => (refine wpAny_call ?_; k_dflt (refine' code_defCR (own := []) ?zzk1 ?zzk2 ?zzk3 ?zzk4 ?zzkR ?zzk5 ?zzkA ?zzkF ?zzkK ?zzk6 ?zzk7 ?zzk8 ?zzk9 ?zzkB ?zzkD ?_ ?zzc2 ?zzc3 ?zzc4; (case zzkA => exact rfl); (case zzkF => exact rfl); (case zzkK => first | exact rfl | assumption); (case zzk1 => k_asm); (case zzk2 => k_asm); (case zzk3 => k_asm); (case zzk4 => k_asm); (case zzkR => exact Apart.zero); (case zzk5 => k_asm); (case zzk6 => k_is); (case zzk7 => k_is); (case zzk8 => k_room); (case zzk9 => first | exact BindsTo.of_eq rfl | exact binds_K (by k_in) rfl (by k_is) rfl rfl rfl | (refine kp_binds (by k_in) ?_; exact fun _ => rfl) | fail "k_enter: no rule for these arguments"); (case zzkB => exact rfl); (case zzkD => decide +kernel); (case zzc2 => exact rfl); (case zzc3 => exact rfl); (case zzc4 => exact rfl)); k_whole; intro zzg' zzL' zzh' zztk' zzcells' zzFG' zzF' zzN' zzY' zzB' zzX' zzT' zzl1 zzS'; clear zzl1; k_cells zzY'; (try simp only [List.cons_append, List.nil_append, List.append_nil] at zzN'); (try dsimp only); (try k_lift zzB'); (try k_fold)))
  k_with "mine open R0" => (case zzfresh => (refine wpAny_call ?_; k_dflt (refine' code_defR (own := []) ?zzk1 ?zzk2 ?zzk3 ?zzk4 ?zzkD ?zzk5 ?zzkA ?zzkF ?zzkK ?zzk6 ?zzk7 ?zzk8 ?zzk9 ?zzkB ?_ ?zzc2 ?zzc3 ?zzc4 ?zzc5; (case zzkA => exact rfl); (case zzkF => exact rfl); (case zzkK => first | exact rfl | assumption); (case zzk1 => k_asm); (case zzk2 => k_asm); (case zzk3 => k_asm); (case zzk4 => k_asm); (case zzkD => exact Apart.zero); (case zzk5 => k_asm); (case zzk6 => k_is); (case zzk7 => k_is); (case zzk8 => k_room); (case zzk9 => first | exact BindsTo.of_eq rfl | exact binds_K (by k_in) rfl (by k_is) rfl rfl rfl | (refine kp_binds (by k_in) ?_; exact fun _ => rfl) | fail "k_enter: no rule for these arguments"); (case zzc5 => decide); (case zzkB => exact locs rfl); (case zzc2 => exact rfl); (case zzc3 => exact rfl); (case zzc4 => exact rfl)); k_whole; intro zzg' zzL' zzh' zzFG' zzF' zzN' zzB' zzX' zzT' zzS'; (try dsimp only); (try k_lift zzB'); (try k_fold)))
  k_with "exec Assign cons ListComp" => ((k_here; (with_reducible show wpAny _ _ (exec (Stmt.Assign [Expr.Name _ _] (Expr.ListComp _ [Comprehension.mk (Expr.Name _ _) _ [] _] _ _) _) _) _ _ _); k_dflt (refine assign_M (F₀ := by k_asm) (by rfl) (by with_unfolding_all rfl) (by with_unfolding_all rfl) (by decide) (by rfl) (by decide) (by rfl) (by rfl) (by rfl) ?_)))
  k_with "exec Assign cons ListComp" => ((k_here; (with_reducible show wpAny _ _ (exec (Stmt.Assign [Expr.Name _ _] (Expr.ListComp _ [Comprehension.mk (Expr.Name _ _) _ [_] _] _ _) _) _) _ _ _); k_dflt (refine assign_MT (F₀ := by k_asm) (by rfl) (by with_unfolding_all rfl) (by with_unfolding_all rfl) (by decide) (by rfl) (by decide) (by rfl) (by rfl) (by rfl) ?_)))
  k_with "eval ListComp" => ((k_here; (with_reducible show wpAny _ _ (eval (Expr.ListComp _ [Comprehension.mk (Expr.Name _ _) _ [] _] _ _) _) _ _ _); k_dflt (refine comp_M (F₀ := by k_asm) (by with_unfolding_all rfl) (by decide) (by rfl) (by decide) (by rfl) ?_)))
  k_with "eval ListComp" => ((k_here; (with_reducible show wpAny _ _ (eval (Expr.ListComp _ [Comprehension.mk (Expr.Name _ _) _ [_] _] _ _) _) _ _ _); k_dflt (refine comp_MT (F₀ := by k_asm) (by with_unfolding_all rfl) (by decide) (by rfl) (by decide) (by rfl) ?_)))
  k_with "k_mem" => (first | with_reducible assumption | exact List.Mem.head _ | (refine' List.Mem.tail _ ?_; k_mem) | assumption)
  k_with "k_all" => (case zzfresh => first | with_reducible assumption | exact List.forall_mem_nil _ | (refine' List.forall_mem_cons.mpr ⟨?zza, ?zzb⟩; (case zza => k_ne); (case zzb => k_all)))
  k_with "mine sub" => (case zzfresh => first | with_reducible assumption | (intro zzq zzhq; exact List.mem_cons_of_mem _ (by revert zzq zzhq; walk_at "mine sub")))
  k_with "call ref" => (refine stop_here ?_)
  k_with "call ref" => (case zzfresh => (k_here; k_dflt (refine' ConF.useE (by with_reducible assumption) ?zzB ?zzF ?zzX ?zzN ?zzT ?zzhk ?zzhh ?zzhd ?zzhf ?zzhg ?zzhu ?_; (case zzhf => exact rfl); (case zzhk => exact rfl); (case zzhh => exact rfl); (case zzhg => exact rfl); (case zzF => k_asm); (case zzN => k_asm); (case zzB => k_asm); (case zzX => k_in); (case zzT => k_asm); (case zzhd => exact Nat.le_of_ble_eq_true rfl); (case zzhu => exact Nat.le_of_ble_eq_true rfl)); intro zzv' zzh' zztk' zzhpost' zzF' zzN'; k_dflt (obtain ⟨zzu1', zze1'⟩ := zzhpost'); subst zze1'))
  k_with "call builtin:len" => ((k_here; (with_reducible show wpAny _ _ (call (Value.builtin _) [Value.ref _]) _ _ _); k_dflt (refine len_is (News.isList (by k_asm) (by k_mem)) (by with_reducible assumption) (by omega) ?_); intro _ _))
  k_with "mine tail" => (first | with_reducible assumption | (refine List.mem_cons_of_mem _ ?_; walk_at "mine tail"))
  k_with "compareOp NotEq ref ref" => ((k_here; k_dflt (first | refine ne_ints_t (News.isList (by k_asm) (by k_mem)) (by with_reducible assumption) (News.isList (by k_asm) (by k_mem)) (by first | exact IntsAre.nil | with_reducible assumption) (by units_room) (by with_reducible assumption) ?_ | refine ne_ints_f (News.isList (by k_asm) (by k_mem)) (by first | exact IntsAre.nil | with_reducible assumption) (News.isList (by k_asm) (by k_mem)) (by first | exact IntsAre.nil | with_reducible assumption) (by units_room) (by first | exact rfl | with_reducible assumption) ?_)))
  k_with "subscriptTail Name UnaryOp ref int" => ((k_here; k_dflt (refine item_last (News.isList (by k_asm) (by k_mem)) ?_)))
  k_with "binaryOp Mod int int" => ((k_here; k_dflt (refine mod_is (by decide) (by with_reducible assumption) ?_)))
  trivial
set_option maxRecDepth 100000 in
set_option maxHeartbeats 1000000 in
theorem seg3a {w : World} {h₀ : Heap} {L fa : Addr} {cd : Value} {p : Program} {loose : List Str} {mean : ExcName → Option Value} {mg mb : Str → Option Value} {sc : Scope} {m : Str → Option Value} {s : Shared}
    {Q : Flow → Shared → Prop} {E : Value → Shared → Prop} {a0 a1 a2 a3 : Stmt} {tl rest : List Stmt} (hat : turnAt w.params = some (a0 :: a1 :: a2 :: a3 :: tl, sc))
    (X : (Mine.hd.heap_39 w.params).In h₀) (B' : Below callerA h₀ [] h₀) (TT : Top p loose mean mg mb h₀)
    {oM : Obj} {Mv : Addr} {nm : Nat} {led : Led}
    (F : Fr h₀ L s.heap m) (N : News h₀ L s.heap led) (hoM : (L + 1 + 1 + 1 + 1 + 1 + 1, oM) ∈ led) (dM : oM.data = .cell (some (.ref Mv))) (hMv : (Mv, lstN [] nm) ∈ led)
    (k : ∀ h' tk', Fr h₀ L h' m → News h₀ L h' led →
      wpAny (model PySem.Challenge.rw_wy0034_01.row.prog w) (callerA.deeper (envOfC (Str.ofString "law") sc L fa cd)) (execs rest (envOfC (Str.ofString "law") sc L fa cd)) Q E { s with heap := h', toks := tk' }) :
    wpAny (model PySem.Challenge.rw_wy0034_01.row.prog w) (callerA.deeper (envOfC (Str.ofString "law") sc L fa cd)) (execs (a3 :: rest) (envOfC (Str.ofString "law") sc L fa cd)) Q E s := by
  have e : turnAt w.params = some (_ :: _ :: _ :: _ :: _, _) := rfl
  cases hat.symm.trans e
  clear hat e
  revert X
  k_fill
  intro X
  k_steps
  exact k _ _ (by assumption) (News.sub (by assumption) (fun q hq => .tail _ hq))
set_option maxRecDepth 100000 in
set_option maxHeartbeats 1000000 in
theorem seg3b {w : World} {h₀ : Heap} {L fa : Addr} {cd : Value} {p : Program} {loose : List Str} {mean : ExcName → Option Value} {mg mb : Str → Option Value} {sc : Scope} {m : Str → Option Value} {s : Shared}
    {Q : Flow → Shared → Prop} {E : Value → Shared → Prop} {a0 a1 a2 a3 : Stmt} {tl rest : List Stmt} (hat : turnAt w.params = some (a0 :: a1 :: a2 :: a3 :: tl, sc))
    (X : (Mine.hd.heap_39 w.params).In h₀) (B' : Below callerA h₀ [] h₀) (TT : Top p loose mean mg mb h₀)
    {oM oR : Obj} {vR : Option Value} {Mv M Bf : Addr} {nm nb : Nat} {pre ys vb : List Value} {nms ns nbs : List Int} {lq r : Int} {tl9 : Tok} {led : Led}
    (F : Fr h₀ L s.heap m) (N : News h₀ L s.heap ((L + 1 + 1 + 1 + 1 + 1 + 1 + 1, oR) :: led)) (hnR : ∀ q ∈ led, q.1 ≠ L + 1 + 1 + 1 + 1 + 1 + 1 + 1) (dR : oR.data = .cell vR)
    (hmay : m (Str.ofString "may") = some (.ref M)) (hbef : m (Str.ofString "before") = some (.ref Bf)) (hM : (M, lst ys) ∈ led) (hB : (Bf, lstN vb nb) ∈ led) (hI : IntsAre ys ns) (hIb : IntsAre vb nbs) (hns : ns.length ≤ 4) (hnbs : nbs.length ≤ 4)
    (hoM : (L + 1 + 1 + 1 + 1 + 1 + 1, oM) ∈ led) (dM : oM.data = .cell (some (.ref Mv))) (hMv : (Mv, lstN (pre ++ [.int lq tl9]) nm) ∈ led) (hIm : IntsAre (pre ++ [.int lq tl9]) nms) (hne : nms ≠ []) (hr : (lq + 1) % 4 = r)
    (heq : ns.filter (fun z => decide (z ≠ r)) = nbs.filter (fun z => decide (z ≠ lq) && decide (z ≠ r)))
    (k : ∀ h' tk' oR', Fr h₀ L h' m → News h₀ L h' ((L + 1 + 1 + 1 + 1 + 1 + 1 + 1, oR') :: led) → (∃ v, oR'.data = .cell v) →
      wpAny (model PySem.Challenge.rw_wy0034_01.row.prog w) (callerA.deeper (envOfC (Str.ofString "law") sc L fa cd)) (execs rest (envOfC (Str.ofString "law") sc L fa cd)) Q E { s with heap := h', toks := tk' }) :
    wpAny (model PySem.Challenge.rw_wy0034_01.row.prog w) (callerA.deeper (envOfC (Str.ofString "law") sc L fa cd)) (execs (a3 :: rest) (envOfC (Str.ofString "law") sc L fa cd)) Q E s := by
  have e : turnAt w.params = some (_ :: _ :: _ :: _ :: _, _) := rfl
  cases hat.symm.trans e
  clear hat e
  obtain ⟨m0, rfl⟩ : ∃ m0, m = fun y => if y = Str.ofString "before" then some (.ref Bf) else if y = Str.ofString "may" then some (.ref M) else m0 y := ⟨m, by funext y; (repeat' split) <;> simp_all⟩
  clear hmay hbef
  revert X
  k_fill
  intro X
  k_steps
  have sM : ys.toArray.size = ns.length := by simp [hI.length]
  have sB : vb.toArray.size = nbs.length := by simp [hIb.length]
  refine SrcMT.led rfl (by k_asm) (by k_asm) (by k_mem) (by rw [sizeLine_eq]; omega) fun g' => ?_
  refine rest_filter (p := fun j => decide (ns.getD j 0 ≠ r)) (R := fun j y => ∃ u, y = .int (ns.getD j 0) u) (.inr ⟨_, by k_mem, rfl, _, rfl⟩) ?_ ?_
  · intro i zs v I oI C oC D m₂ h tk E' hi hP hC hx F1 N1 off ne
    obtain ⟨u9, rfl⟩ := ints_at hI hP
    k_steps
    · show (ns.getD i 0 != r) = decide (ns.getD i 0 ≠ r)
      exact ne_dec _ _
    · exact ⟨_, _, rfl, by assumption, by assumption, _, rfl⟩
    · exact ⟨_, _, rfl, by assumption, by assumption, trivial⟩
  · intro zs ha
    rw [sM] at ha
    have hz := ints_filter (q := fun z => decide (z ≠ r)) ha
    clear ha
    k_steps
    refine SrcMT.led rfl (by k_asm) (by k_asm) (by k_mem) (by rw [sizeLine_eq]; omega) fun g' => ?_
    refine rest_filter (p := fun j => decide (nbs.getD j 0 ≠ lq) && decide (nbs.getD j 0 ≠ r)) (R := fun j y => ∃ u, y = .int (nbs.getD j 0) u) (.inr ⟨_, by k_mem, rfl, _, rfl⟩) ?_ ?_
    · intro i zs v I oI C oC D m₂ h tk E' hi hP hC hx F1 N1 off ne
      obtain ⟨u9, rfl⟩ := ints_at hIb hP
      k_steps
      · show (!([lq, r].any fun x => x == nbs.getD i 0)) = (decide (nbs.getD i 0 ≠ lq) && decide (nbs.getD i 0 ≠ r))
        exact nin_dec _ _ _
      · rename News _ _ _ (_ :: _) => N9
        exact ⟨_, _, rfl, by assumption, News.sub N9 (fun q hq => by walk_at "mine tail"), trivial⟩
      · rename News _ _ _ (_ :: _) => N9
        exact ⟨_, _, rfl, by assumption, News.sub N9 (fun q hq => by walk_at "mine tail"), _, rfl⟩
    · intro zs ha
      rw [sB] at ha
      have hz2 := ints_filter (q := fun z => decide (z ≠ lq) && decide (z ≠ r)) ha
      clear ha
      k_steps
      rename News _ _ _ ((_, lst _) :: _) => N9
      refine k _ _ _ (by assumption) (News.sub N9 (fun q hq => ?_)) ⟨_, by assumption⟩
      walk_at "mine tail"


end Mine.S3
end
section
open PySem PySem.W PyProof.Rows PySem.Builtin.Int
open PyProof.Rows.LCg Mine.LC Mine.Bk PySem.Calls
namespace Mine.S4
theorem lines45 : True := by
  k_with_none
  w_top off
  k_with "execs cons" => (((try dsimp only); refine toks_any ?_; intro _))
  k_with "k_enter" => (case zzfresh => (refine' code_def ?zzk1 ?zzk2 ?zzk3 ?zzk4 ?zzk5 ?zzkA ?zzkF ?zzkK ?zzk6 ?zzk7 ?zzk8 ?zzk9 ?zzkB ?_ ?zzc2 ?zzc3 ?zzc4 ?zzc5; (case zzkA => exact rfl); (case zzkF => exact rfl); (case zzkK => first | exact rfl | assumption); (case zzk1 => k_asm); (case zzk2 => k_asm); (case zzk3 => k_asm); (case zzk4 => k_asm); (case zzk5 => k_asm); (case zzk6 => k_is); (case zzk7 => k_is); (case zzk8 => k_room); (case zzk9 => first | exact BindsTo.of_eq rfl | exact binds_K (by k_in) rfl (by k_is) rfl rfl rfl | (refine kp_binds (by k_in) ?_; exact fun _ => rfl) | fail "k_enter: no rule for these arguments"); (case zzc5 => decide); (case zzkB => exact locs rfl); (case zzc2 => exact rfl); (case zzc3 => exact rfl); (case zzc4 => exact rfl); k_whole; intro zzg' zzL' zzh' zzFG' zzF' zzN' zzB' zzX' zzT'; (try dsimp only); (try k_lift zzB'); (try k_fold)))
  k_with "k_enter" => (case zzfresh => (refine' code_defC ?zzk1 ?zzk2 ?zzk3 ?zzk4 ?zzk5 ?zzkA ?zzkF ?zzkK ?zzk6 ?zzk7 ?zzk8 ?zzk9 ?zzkB ?zzkD ?_ ?zzc2 ?zzc3 ?zzc4; (case zzkA => exact rfl); (case zzkF => exact rfl); (case zzkK => first | exact rfl | assumption); (case zzk1 => k_asm); (case zzk2 => k_asm); (case zzk3 => k_asm); (case zzk4 => k_asm); (case zzk5 => k_asm); (case zzk6 => k_is); (case zzk7 => k_is); (case zzk8 => k_room); (case zzk9 => first | exact BindsTo.of_eq rfl | exact binds_K (by k_in) rfl (by k_is) rfl rfl rfl | (refine kp_binds (by k_in) ?_; exact fun _ => rfl) | fail "k_enter: no rule for these arguments"); (case zzkB => exact rfl); (case zzkD => decide +kernel); (case zzc2 => exact rfl); (case zzc3 => exact rfl); (case zzc4 => exact rfl); k_whole; intro zzg' zzL' zzh' zztk' zzcells' zzFG' zzF' zzN' zzY' zzB' zzX' zzT' zzl1; (try k_lt zzl1); k_cells zzY'; (try simp only [List.cons_append, List.nil_append] at zzN'); (try dsimp only); (try k_lift zzB'); (try k_fold)))
  k_with "mine open" => ((refine wpAny_call ?_; k_dflt (first | k_enter | kc_enter)))
  k_with "mine open R" => (case zzfresh => (refine wpAny_call ?_; k_dflt (refine' code_defR ?zzk1 ?zzk2 ?zzk3 ?zzk4 ?zzkD ?zzk5 ?zzkA ?zzkF ?zzkK ?zzk6 ?zzk7 ?zzk8 ?zzk9 ?zzkB ?_ ?zzc2 ?zzc3 ?zzc4 ?zzc5; (case zzkA => exact rfl); (case zzkF => exact rfl); (case zzkK => first | exact rfl | assumption); (case zzk1 => k_asm); (case zzk2 => k_asm); (case zzk3 => k_asm); (case zzk4 => with_reducible assumption); (case zzkD => with_reducible assumption); (case zzk5 => k_asm); (case zzk6 => k_is); (case zzk7 => k_is); (case zzk8 => k_room); (case zzk9 => first | exact BindsTo.of_eq rfl | exact binds_K (by k_in) rfl (by k_is) rfl rfl rfl | (refine kp_binds (by k_in) ?_; exact fun _ => rfl) | fail "k_enter: no rule for these arguments"); (case zzc5 => decide); (case zzkB => exact locs rfl); (case zzc2 => exact rfl); (case zzc3 => exact rfl); (case zzc4 => exact rfl)); k_whole; intro zzg' zzL' zzh' zzFG' zzF' zzN' zzB' zzX' zzT' zzS'; (try dsimp only); (try k_lift zzB'); (try k_fold)))
  k_with "mine open CR" => (case zzfresh => (refine wpAny_call ?_; k_dflt (refine' code_defCR ?zzk1 ?zzk2 ?zzk3 ?zzk4 ?zzkR ?zzk5 ?zzkA ?zzkF ?zzkK ?zzk6 ?zzk7 ?zzk8 ?zzk9 ?zzkB ?zzkD ?_ ?zzc2 ?zzc3 ?zzc4; (case zzkA => exact rfl); (case zzkF => exact rfl); (case zzkK => first | exact rfl | assumption); (case zzk1 => k_asm); (case zzk2 => k_asm); (case zzk3 => k_asm); (case zzk4 => with_reducible assumption); (case zzkR => with_reducible assumption); (case zzk5 => k_asm); (case zzk6 => k_is); (case zzk7 => k_is); (case zzk8 => k_room); (case zzk9 => first | exact BindsTo.of_eq rfl | exact binds_K (by k_in) rfl (by k_is) rfl rfl rfl | (refine kp_binds (by k_in) ?_; exact fun _ => rfl) | fail "k_enter: no rule for these arguments"); (case zzkB => exact rfl); (case zzkD => decide +kernel); (case zzc2 => exact rfl); (case zzc3 => exact rfl); (case zzc4 => exact rfl)); k_whole; intro zzg' zzL' zzh' zztk' zzcells' zzFG' zzF' zzN' zzY' zzB' zzX' zzT' zzl1 zzS'; (try k_lt zzl1); k_cells zzY'; (try simp only [List.cons_append, List.nil_append] at zzN'); (try dsimp only); (try k_lift zzB'); (try k_fold)))
  k_with "mine open CR0" => (case zzfresh => (refine wpAny_call ?_; k_dflt (refine' code_defCR (own := []) ?zzk1 ?zzk2 ?zzk3 ?zzk4 ?zzkR ?zzk5 ?zzkA ?zzkF ?zzkK ?zzk6 ?zzk7 ?zzk8 ?zzk9 ?zzkB ?zzkD ?_ ?zzc2 ?zzc3 ?zzc4; (case zzkA => exact rfl); (case zzkF => exact rfl); (case zzkK => first | exact rfl | assumption); (case zzk1 => k_asm); (case zzk2 => k_asm); (case zzk3 => k_asm); (case zzk4 => k_asm); (case zzkR => exact Apart.zero); (case zzk5 => k_asm); (case zzk6 => k_is); (case zzk7 => k_is); (case zzk8 => k_room); (case zzk9 => first | exact BindsTo.of_eq rfl | exact binds_K (by k_in) rfl (by k_is) rfl rfl rfl | (refine kp_binds (by k_in) ?_; exact fun _ => rfl) | fail "k_enter: no rule for these arguments"); (case zzkB => exact rfl); (case zzkD => decide +kernel); (case zzc2 => exact rfl); (case zzc3 => exact rfl); (case zzc4 => exact rfl)); k_whole; intro zzg' zzL' zzh' zztk' zzcells' zzFG' zzF' zzN' zzY' zzB' zzX' zzT' zzl1 zzS'; clear zzl1; k_cells zzY'; (try simp only [List.cons_append, List.nil_append, List.append_nil] at zzN'); (try dsimp only); (try k_lift zzB'); (try k_fold)))
  k_with "mine open R0" => (case zzfresh => (refine wpAny_call ?_; k_dflt (refine' code_defR (own := []) ?zzk1 ?zzk2 ?zzk3 ?zzk4 ?zzkD ?zzk5 ?zzkA ?zzkF ?zzkK ?zzk6 ?zzk7 ?zzk8 ?zzk9 ?zzkB ?_ ?zzc2 ?zzc3 ?zzc4 ?zzc5; (case zzkA => exact rfl); (case zzkF => exact rfl); (case zzkK => first | exact rfl | assumption); (case zzk1 => k_asm); (case zzk2 => k_asm); (case zzk3 => k_asm); (case zzk4 => k_asm); (case zzkD => exact Apart.zero); (case zzk5 => k_asm); (case zzk6 => k_is); (case zzk7 => k_is); (case zzk8 => k_room); (case zzk9 => first | exact BindsTo.of_eq rfl | exact binds_K (by k_in) rfl (by k_is) rfl rfl rfl | (refine kp_binds (by k_in) ?_; exact fun _ => rfl) | fail "k_enter: no rule for these arguments"); (case zzc5 => decide); (case zzkB => exact locs rfl); (case zzc2 => exact rfl); (case zzc3 => exact rfl); (case zzc4 => exact rfl)); k_whole; intro zzg' zzL' zzh' zzFG' zzF' zzN' zzB' zzX' zzT' zzS'; (try dsimp only); (try k_lift zzB'); (try k_fold)))
  k_with "exec Assign cons ListComp" => ((k_here; (with_reducible show wpAny _ _ (exec (Stmt.Assign [Expr.Name _ _] (Expr.ListComp _ [Comprehension.mk (Expr.Name _ _) _ [] _] _ _) _) _) _ _ _); k_dflt (refine assign_M (F₀ := by k_asm) (by rfl) (by with_unfolding_all rfl) (by with_unfolding_all rfl) (by decide) (by rfl) (by decide) (by rfl) (by rfl) (by rfl) ?_)))
  k_with "exec Assign cons ListComp" => ((k_here; (with_reducible show wpAny _ _ (exec (Stmt.Assign [Expr.Name _ _] (Expr.ListComp _ [Comprehension.mk (Expr.Name _ _) _ [_] _] _ _) _) _) _ _ _); k_dflt (refine assign_MT (F₀ := by k_asm) (by rfl) (by with_unfolding_all rfl) (by with_unfolding_all rfl) (by decide) (by rfl) (by decide) (by rfl) (by rfl) (by rfl) ?_)))
  k_with "eval ListComp" => ((k_here; (with_reducible show wpAny _ _ (eval (Expr.ListComp _ [Comprehension.mk (Expr.Name _ _) _ [] _] _ _) _) _ _ _); k_dflt (refine comp_M (F₀ := by k_asm) (by with_unfolding_all rfl) (by decide) (by rfl) (by decide) (by rfl) ?_)))
  k_with "eval ListComp" => ((k_here; (with_reducible show wpAny _ _ (eval (Expr.ListComp _ [Comprehension.mk (Expr.Name _ _) _ [_] _] _ _) _) _ _ _); k_dflt (refine comp_MT (F₀ := by k_asm) (by with_unfolding_all rfl) (by decide) (by rfl) (by decide) (by rfl) ?_)))
  k_with "k_mem" => (first | with_reducible assumption | exact List.Mem.head _ | (refine' List.Mem.tail _ ?_; k_mem) | assumption)
  k_with "k_all" => (case zzfresh => first | with_reducible assumption | exact List.forall_mem_nil _ | (refine' List.forall_mem_cons.mpr ⟨?zza, ?zzb⟩; (case zza => k_ne); (case zzb => k_all)))
  k_with "mine sub" => (case zzfresh => first | with_reducible assumption | (intro zzq zzhq; exact List.mem_cons_of_mem _ (by revert zzq zzhq; walk_at "mine sub")))
  k_with "call ref" => (refine stop_here ?_)
  k_with "call ref" => (case zzfresh => (k_here; k_dflt (refine' ConF.useE (by with_reducible assumption) ?zzB ?zzF ?zzX ?zzN ?zzT ?zzhk ?zzhh ?zzhd ?zzhf ?zzhg ?zzhu ?_; (case zzhf => exact rfl); (case zzhk => exact rfl); (case zzhh => exact rfl); (case zzhg => exact rfl); (case zzF => k_asm); (case zzN => k_asm); (case zzB => k_asm); (case zzX => k_in); (case zzT => k_asm); (case zzhd => exact Nat.le_of_ble_eq_true rfl); (case zzhu => exact Nat.le_of_ble_eq_true rfl)); intro zzv' zzh' zztk' zzhpost' zzF' zzN'; k_dflt (obtain ⟨zzu1', zze1'⟩ := zzhpost'); subst zze1'))
  k_with "call builtin:len" => ((k_here; (with_reducible show wpAny _ _ (call (Value.builtin _) [Value.ref _]) _ _ _); k_dflt (refine len_is (News.isList (by k_asm) (by k_mem)) (by with_reducible assumption) (by omega) ?_); intro _ _))
  k_with "mine tail" => (first | with_reducible assumption | (refine List.mem_cons_of_mem _ ?_; walk_at "mine tail"))
  k_with "call ref" => (case zzfresh => (k_here; (with_reducible show wpAny _ _ (call (Value.ref 154) _) _ _ _); k_dflt ((rename (∀ _ : Tok, ConF _ _ _ _ _) => zzc9); refine' ConF.useN (zzc9 _) ?zzsub ?zzB ?zzF ?zzX ?zzN ?zzT ?zzhk ?zzhh ?zzhd ?zzhf ?zzhg ?zzhu ?_; (case zzN => k_asm); (case zzsub => walk_at "mine sub"); (case zzhf => exact rfl); (case zzhk => exact rfl); (case zzhh => exact rfl); (case zzhg => exact rfl); (case zzF => k_asm); (case zzB => k_asm); (case zzX => k_in); (case zzT => k_asm); (case zzhd => exact Nat.le_of_ble_eq_true rfl); (case zzhu => exact Nat.le_of_ble_eq_true rfl)); intro zzv' zzh' zztk' zzadd' zzhpost' zzoff' zzF' zzN'; k_dflt (obtain ⟨zze1', zzu0', zze2'⟩ := zzhpost'); subst zze1'; subst zze2'; (try simp only [List.nil_append] at zzN')))
  k_with "subscriptTail" => ((k_here; (with_reducible show wpAny _ _ (subscriptTail _ _ (Value.str _ _) (Value.int _ _)) _ _ _); k_dflt (refine ABCD_left (by with_reducible assumption) ?_); intro _ _))
  k_with "subscriptTail Name BinOp ref int" => ((k_here; k_dflt (refine item_left (News.isList (by k_asm) (by k_mem)) (by with_reducible assumption) ?_); intro _))
  k_with "compareOp NotEq str str" => ((k_here; k_dflt (refine ne_same ?_)))
  k_with "subscriptTail Name Constant ref int" => ((k_here; (with_reducible show wpAny _ _ (subscriptTail _ _ (Value.ref _) (Value.int _ _)) _ _ _); k_dflt (refine item_listL (News.isList (by k_asm) (by k_mem)) (by decide) (by decide) (by rfl) ?_)))
  k_with "subscriptTail Name BinOp ref int" => (case zzfresh => (k_here; k_dflt (refine item_in (News.isList (by k_asm) (by k_mem)) (by with_reducible assumption) (by with_reducible assumption) (by with_reducible assumption) (by with_reducible assumption) (by with_reducible assumption) ?_); intro zzsN' zzhs9 zztm'))
  k_with "binaryOp Pow int int" => ((k_here; k_dflt (refine pow_is (by with_reducible assumption) (by omega) (by decide) (by with_reducible assumption) ?_)))
  k_with "binaryOp FloorDiv int int" => ((k_here; k_dflt (refine fdiv_e (by with_reducible assumption) (PyProof.noPylong_of_log2 (by with_reducible assumption)) ?_)))
  k_with "binaryOp Mod int int" => ((k_here; k_dflt (refine mod_is (by with_reducible assumption) (by with_reducible assumption) ?_)))
  trivial
set_option maxRecDepth 100000 in
set_option maxHeartbeats 1000000 in
theorem seg4a {w : World} {h₀ : Heap} {L fa : Addr} {cd : Value} {p : Program} {loose : List Str} {mean : ExcName → Option Value} {mg mb : Str → Option Value} {sc : Scope} {m : Str → Option Value} {s : Shared}
    {Q : Flow → Shared → Prop} {E : Value → Shared → Prop} {a0 a1 a2 a3 a4 : Stmt} {tl rest : List Stmt} (hat : turnAt w.params = some (a0 :: a1 :: a2 :: a3 :: a4 :: tl, sc))
    (X : (Mine.hd.heap_39 w.params).In h₀) (B' : Below callerA h₀ [] h₀) (TT : Top p loose mean mg mb h₀)
    {oC : Obj} {Ce M : Addr} {nc : Nat} {ys : List Value} {ms : List Nat} {i ln c0 c1 c2 c3 c4 c5 c6 : Int} {ti v0 v1 v2 v3 v4 v5 v6 : Tok} {led : Led}
    (F : Fr h₀ L s.heap m) (N : News h₀ L s.heap led) (hturn : m (Str.ofString "turn") = some (.int i ti)) (hmay : m (Str.ofString "may") = some (.ref M)) (hM : (M, lst ys) ∈ led)
    (hoC : (L + 1 + 1, oC) ∈ led) (dC : oC.data = .cell (some (.ref Ce))) (hCe : (Ce, lstN [.int c0 v0, .int c1 v1, .int c2 v2, .int c3 v3, .int c4 v4, .int c5 v5, .int c6 v6] nc) ∈ led)
    (hi : IntsAre ys (ms.map fun j : Nat => (j : Int))) (hln : (ys.length : Int) = ln) (hl0 : 0 < ln) (hl4 : ln ≤ 4) (i0 : 0 ≤ i) (i16 : i ≤ 16)
    (k : ∀ h' tk' sN tm, sN ∈ ms → Fr h₀ L h' (fun y => if y = Str.ofString "mover" then some (.int ((sN : Nat) : Int) tm) else m y) → News h₀ L h' led →
      wpAny (model PySem.Challenge.rw_wy0034_01.row.prog w) (callerA.deeper (envOfC (Str.ofString "law") sc L fa cd)) (execs rest (envOfC (Str.ofString "law") sc L fa cd)) Q E { s with heap := h', toks := tk' }) :
    wpAny (model PySem.Challenge.rw_wy0034_01.row.prog w) (callerA.deeper (envOfC (Str.ofString "law") sc L fa cd)) (execs (a4 :: rest) (envOfC (Str.ofString "law") sc L fa cd)) Q E s := by
  have e : turnAt w.params = some (_ :: _ :: _ :: _ :: _ :: _, _) := rfl
  cases hat.symm.trans e
  clear hat e
  obtain ⟨m0, rfl⟩ : ∃ m0, m = fun y => if y = Str.ofString "turn" then some (.int i ti) else if y = Str.ofString "may" then some (.ref M) else m0 y := ⟨m, by funext y; (repeat' split) <;> simp_all⟩
  clear hturn hmay
  obtain ⟨p6, hp6⟩ : ∃ p : Int, 6 ^ i.toNat = p := ⟨_, rfl⟩
  have hp0 : 0 < p6 := by rw [← hp6]; exact pow_pos_of (by decide) _
  have hpl : p6.natAbs.log2 < 9000 := by
    refine Nx.log_lt (k := 9000) hp0 ?_
    have h0 : (6 : Nat) ^ i.toNat ≤ 6 ^ 16 := Nat.pow_le_pow_right (by decide) (by omega)
    have h1 : ((6 ^ i.toNat : Nat) : Int) = 6 ^ i.toNat := by simp
    have h2 : (6 : Nat) ^ 16 ≤ 2 ^ 48 := by decide
    have h4 := kbt_cast 48
    have h3 := Div.p2_le (show 48 ≤ 9000 by decide)
    omega
  obtain ⟨ix, hix⟩ : ∃ x : Int, c6 / p6 % ln = x := ⟨_, rfl⟩
  have ix0 : 0 ≤ ix := by rw [← hix]; exact Int.emod_nonneg _ (by omega)
  have ix1 : ix < ln := by rw [← hix]; exact Int.emod_lt_of_pos _ hl0
  revert X
  k_fill
  intro X
  k_steps
  exact k _ _ _ _ (by assumption) (by assumption) (by assumption)
set_option maxRecDepth 100000 in
set_option maxHeartbeats 1000000 in
theorem seg4b {w : World} {h₀ : Heap} {L fa : Addr} {cd : Value} {p : Program} {loose : List Str} {mean : ExcName → Option Value} {mg mb : Str → Option Value} {sc : Scope} {m : Str → Option Value} {s : Shared}
    {Q : Flow → Shared → Prop} {E : Value → Shared → Prop} {a0 a1 a2 a3 a4 a5 a6 : Stmt} {tl rest : List Stmt} (hat : turnAt w.params = some (a0 :: a1 :: a2 :: a3 :: a4 :: a5 :: a6 :: tl, sc))
    (X : (Mine.hd.heap_39 w.params).In h₀) (B' : Below callerA h₀ [] h₀) (TT : Top p loose mean mg mb h₀)
    {B D G R : Addr} {T : Nat → Addr} {c : Nat → Nat} {x : Nat → List Nat} {a b : Nat → Tok} {tD : Tok} {n : Nat} {σ τ : Nat → Nat} {f : Nat → List Nat} {sN : Nat} {tm u0 u1 u2 u3 : Tok} {led : Led}
    (F : Fr h₀ L s.heap m) (N : News h₀ L s.heap led) (hbook : m (Str.ofString "book") = some (.ref B)) (hmover : m (Str.ofString "mover") = some (.int (sN : Int) tm)) (htexts : m (Str.ofString "texts") = some (.ref R))
    (hsub : ∀ q ∈ book w B D G T c x a b tD n, q ∈ led) (hp : Per σ τ) (hc : ∀ j, j < 4 → Tit (c j) (σ j)) (hx : ∀ i, i < 4 → x (τ i) = f i) (h4 : sN < 4)
    (hR : (R, lst [Value.str (S (f 0)) u0, .str (S (f 1)) u1, .str (S (f 2)) u2, .str (S (f 3)) u3]) ∈ led)
    (k : ∀ h' tk' tt, Fr h₀ L h' (fun y => if y = Str.ofString "told" then some (.str (S (f ((sN + 3) % 4))) tt) else m y) → News h₀ L h' led →
      wpAny (model PySem.Challenge.rw_wy0034_01.row.prog w) (callerA.deeper (envOfC (Str.ofString "law") sc L fa cd)) (execs rest (envOfC (Str.ofString "law") sc L fa cd)) Q E { s with heap := h', toks := tk' }) :
    wpAny (model PySem.Challenge.rw_wy0034_01.row.prog w) (callerA.deeper (envOfC (Str.ofString "law") sc L fa cd)) (execs (a5 :: a6 :: rest) (envOfC (Str.ofString "law") sc L fa cd)) Q E s := by
  have e : turnAt w.params = some (_ :: _ :: _ :: _ :: _ :: _ :: _ :: _, _) := rfl
  cases hat.symm.trans e
  clear hat e
  obtain ⟨m0, rfl⟩ : ∃ m0, m = fun y => if y = Str.ofString "book" then some (.ref B) else if y = Str.ofString "mover" then some (.int (sN : Int) tm) else if y = Str.ofString "texts" then some (.ref R) else m0 y := ⟨m, by funext y; (repeat' split) <;> simp_all⟩
  clear hbook hmover htexts
  have hT : Tit (65 + (sN + 3) % 4) ((sN + 3) % 4) := ⟨Nat.mod_lt _ (by decide), .inr rfl⟩
  have cG : ∀ t9 : Tok, ConF w 1 (call (.ref 154) [.ref B, .str (S [65 + (sN + 3) % 4]) t9]) (book w B D G T c x a b tD n) (fun v own' => ∃ add, own' = add ++ book w B D G T c x a b tD n ∧ add = [] ∧ ∃ u, v = .str (S (f ((sN + 3) % 4))) u) := fun t9 => by
    rw [← hx _ (Nat.mod_lt _ (by decide))]
    exact get' (w := w) (B := B) (D := D) (G := G) (T := T) (c := c) (x := x) (a := a) (b := b) (tD := tD) (n := n) hp hc hT
  have hB := hsub (B, instObj 207 D) (.head _)
  have hD := hsub (D, hdO w G tD) (.tail _ (.head _))
  revert X
  k_fill
  intro X
  k_steps
  exact k _ _ _ (by assumption) (by assumption)

end Mine.S4
end
section
open PySem PySem.W PyProof.Rows PySem.Builtin.Int
open PyProof.Rows.LCg Mine.LC Mine.Bk PySem.Calls
namespace Mine.S5
theorem lines46 : True := by
  k_with_none
  w_top off
  k_with "execs cons" => (((try dsimp only); refine toks_any ?_; intro _))
  k_with "k_enter" => (case zzfresh => (refine' code_def ?zzk1 ?zzk2 ?zzk3 ?zzk4 ?zzk5 ?zzkA ?zzkF ?zzkK ?zzk6 ?zzk7 ?zzk8 ?zzk9 ?zzkB ?_ ?zzc2 ?zzc3 ?zzc4 ?zzc5; (case zzkA => exact rfl); (case zzkF => exact rfl); (case zzkK => first | exact rfl | assumption); (case zzk1 => k_asm); (case zzk2 => k_asm); (case zzk3 => k_asm); (case zzk4 => k_asm); (case zzk5 => k_asm); (case zzk6 => k_is); (case zzk7 => k_is); (case zzk8 => k_room); (case zzk9 => first | exact BindsTo.of_eq rfl | exact binds_K (by k_in) rfl (by k_is) rfl rfl rfl | (refine kp_binds (by k_in) ?_; exact fun _ => rfl) | fail "k_enter: no rule for these arguments"); (case zzc5 => decide); (case zzkB => exact locs rfl); (case zzc2 => exact rfl); (case zzc3 => exact rfl); (case zzc4 => exact rfl); k_whole; intro zzg' zzL' zzh' zzFG' zzF' zzN' zzB' zzX' zzT'; (try dsimp only); (try k_lift zzB'); (try k_fold)))
  k_with "k_enter" => (case zzfresh => (refine' code_defC ?zzk1 ?zzk2 ?zzk3 ?zzk4 ?zzk5 ?zzkA ?zzkF ?zzkK ?zzk6 ?zzk7 ?zzk8 ?zzk9 ?zzkB ?zzkD ?_ ?zzc2 ?zzc3 ?zzc4; (case zzkA => exact rfl); (case zzkF => exact rfl); (case zzkK => first | exact rfl | assumption); (case zzk1 => k_asm); (case zzk2 => k_asm); (case zzk3 => k_asm); (case zzk4 => k_asm); (case zzk5 => k_asm); (case zzk6 => k_is); (case zzk7 => k_is); (case zzk8 => k_room); (case zzk9 => first | exact BindsTo.of_eq rfl | exact binds_K (by k_in) rfl (by k_is) rfl rfl rfl | (refine kp_binds (by k_in) ?_; exact fun _ => rfl) | fail "k_enter: no rule for these arguments"); (case zzkB => exact rfl); (case zzkD => decide +kernel); (case zzc2 => exact rfl); (case zzc3 => exact rfl); (case zzc4 => exact rfl); k_whole; intro zzg' zzL' zzh' zztk' zzcells' zzFG' zzF' zzN' zzY' zzB' zzX' zzT' zzl1; (try k_lt zzl1); k_cells zzY'; (try simp only [List.cons_append, List.nil_append] at zzN'); (try dsimp only); (try k_lift zzB'); (try k_fold)))
  k_with "mine open" => ((refine wpAny_call ?_; k_dflt (first | k_enter | kc_enter)))
  k_with "mine open R" => (case zzfresh => (refine wpAny_call ?_; k_dflt (refine' code_defR ?zzk1 ?zzk2 ?zzk3 ?zzk4 ?zzkD ?zzk5 ?zzkA ?zzkF ?zzkK ?zzk6 ?zzk7 ?zzk8 ?zzk9 ?zzkB ?_ ?zzc2 ?zzc3 ?zzc4 ?zzc5; (case zzkA => exact rfl); (case zzkF => exact rfl); (case zzkK => first | exact rfl | assumption); (case zzk1 => k_asm); (case zzk2 => k_asm); (case zzk3 => k_asm); (case zzk4 => with_reducible assumption); (case zzkD => with_reducible assumption); (case zzk5 => k_asm); (case zzk6 => k_is); (case zzk7 => k_is); (case zzk8 => k_room); (case zzk9 => first | exact BindsTo.of_eq rfl | exact binds_K (by k_in) rfl (by k_is) rfl rfl rfl | (refine kp_binds (by k_in) ?_; exact fun _ => rfl) | fail "k_enter: no rule for these arguments"); (case zzc5 => decide); (case zzkB => exact locs rfl); (case zzc2 => exact rfl); (case zzc3 => exact rfl); (case zzc4 => exact rfl)); k_whole; intro zzg' zzL' zzh' zzFG' zzF' zzN' zzB' zzX' zzT' zzS'; (try dsimp only); (try k_lift zzB'); (try k_fold)))
  k_with "mine open CR" => (case zzfresh => (refine wpAny_call ?_; k_dflt (refine' code_defCR ?zzk1 ?zzk2 ?zzk3 ?zzk4 ?zzkR ?zzk5 ?zzkA ?zzkF ?zzkK ?zzk6 ?zzk7 ?zzk8 ?zzk9 ?zzkB ?zzkD ?_ ?zzc2 ?zzc3 ?zzc4; (case zzkA => exact rfl); (case zzkF => exact rfl); (case zzkK => first | exact rfl | assumption); (case zzk1 => k_asm); (case zzk2 => k_asm); (case zzk3 => k_asm); (case zzk4 => with_reducible assumption); (case zzkR => with_reducible assumption); (case zzk5 => k_asm); (case zzk6 => k_is); (case zzk7 => k_is); (case zzk8 => k_room); (case zzk9 => first | exact BindsTo.of_eq rfl | exact binds_K (by k_in) rfl (by k_is) rfl rfl rfl | (refine kp_binds (by k_in) ?_; exact fun _ => rfl) | fail "k_enter: no rule for these arguments"); (case zzkB => exact rfl); (case zzkD => decide +kernel); (case zzc2 => exact rfl); (case zzc3 => exact rfl); (case zzc4 => exact rfl)); k_whole; intro zzg' zzL' zzh' zztk' zzcells' zzFG' zzF' zzN' zzY' zzB' zzX' zzT' zzl1 zzS'; (try k_lt zzl1); k_cells zzY'; (try simp only [List.cons_append, List.nil_append] at zzN'); (try dsimp only); (try k_lift zzB'); (try k_fold)))
  k_with "mine open CR0" => (case zzfresh => (refine wpAny_call ?_; k_dflt (refine' code_defCR (own := []) ?zzk1 ?zzk2 ?zzk3 ?zzk4 ?zzkR ?zzk5 ?zzkA ?zzkF ?zzkK ?zzk6 ?zzk7 ?zzk8 ?zzk9 ?zzkB ?zzkD ?_ ?zzc2 ?zzc3 ?zzc4; (case zzkA => exact rfl); (case zzkF => exact rfl); (case zzkK => first | exact rfl | assumption); (case zzk1 => k_asm); (case zzk2 => k_asm); (case zzk3 => k_asm); (case zzk4 => k_asm); (case zzkR => exact Apart.zero); (case zzk5 => k_asm); (case zzk6 => k_is); (case zzk7 => k_is); (case zzk8 => k_room); (case zzk9 => first | exact BindsTo.of_eq rfl | exact binds_K (by k_in) rfl (by k_is) rfl rfl rfl | (refine kp_binds (by k_in) ?_; exact fun _ => rfl) | fail "k_enter: no rule for these arguments"); (case zzkB => exact rfl); (case zzkD => decide +kernel); (case zzc2 => exact rfl); (case zzc3 => exact rfl); (case zzc4 => exact rfl)); k_whole; intro zzg' zzL' zzh' zztk' zzcells' zzFG' zzF' zzN' zzY' zzB' zzX' zzT' zzl1 zzS'; clear zzl1; k_cells zzY'; (try simp only [List.cons_append, List.nil_append, List.append_nil] at zzN'); (try dsimp only); (try k_lift zzB'); (try k_fold)))
  k_with "mine open R0" => (case zzfresh => (refine wpAny_call ?_; k_dflt (refine' code_defR (own := []) ?zzk1 ?zzk2 ?zzk3 ?zzk4 ?zzkD ?zzk5 ?zzkA ?zzkF ?zzkK ?zzk6 ?zzk7 ?zzk8 ?zzk9 ?zzkB ?_ ?zzc2 ?zzc3 ?zzc4 ?zzc5; (case zzkA => exact rfl); (case zzkF => exact rfl); (case zzkK => first | exact rfl | assumption); (case zzk1 => k_asm); (case zzk2 => k_asm); (case zzk3 => k_asm); (case zzk4 => k_asm); (case zzkD => exact Apart.zero); (case zzk5 => k_asm); (case zzk6 => k_is); (case zzk7 => k_is); (case zzk8 => k_room); (case zzk9 => first | exact BindsTo.of_eq rfl | exact binds_K (by k_in) rfl (by k_is) rfl rfl rfl | (refine kp_binds (by k_in) ?_; exact fun _ => rfl) | fail "k_enter: no rule for these arguments"); (case zzc5 => decide); (case zzkB => exact locs rfl); (case zzc2 => exact rfl); (case zzc3 => exact rfl); (case zzc4 => exact rfl)); k_whole; intro zzg' zzL' zzh' zzFG' zzF' zzN' zzB' zzX' zzT' zzS'; (try dsimp only); (try k_lift zzB'); (try k_fold)))
  k_with "exec Assign cons ListComp" => ((k_here; (with_reducible show wpAny _ _ (exec (Stmt.Assign [Expr.Name _ _] (Expr.ListComp _ [Comprehension.mk (Expr.Name _ _) _ [] _] _ _) _) _) _ _ _); k_dflt (refine assign_M (F₀ := by k_asm) (by rfl) (by with_unfolding_all rfl) (by with_unfolding_all rfl) (by decide) (by rfl) (by decide) (by rfl) (by rfl) (by rfl) ?_)))
  k_with "exec Assign cons ListComp" => ((k_here; (with_reducible show wpAny _ _ (exec (Stmt.Assign [Expr.Name _ _] (Expr.ListComp _ [Comprehension.mk (Expr.Name _ _) _ [_] _] _ _) _) _) _ _ _); k_dflt (refine assign_MT (F₀ := by k_asm) (by rfl) (by with_unfolding_all rfl) (by with_unfolding_all rfl) (by decide) (by rfl) (by decide) (by rfl) (by rfl) (by rfl) ?_)))
  k_with "eval ListComp" => ((k_here; (with_reducible show wpAny _ _ (eval (Expr.ListComp _ [Comprehension.mk (Expr.Name _ _) _ [] _] _ _) _) _ _ _); k_dflt (refine comp_M (F₀ := by k_asm) (by with_unfolding_all rfl) (by decide) (by rfl) (by decide) (by rfl) ?_)))
  k_with "eval ListComp" => ((k_here; (with_reducible show wpAny _ _ (eval (Expr.ListComp _ [Comprehension.mk (Expr.Name _ _) _ [_] _] _ _) _) _ _ _); k_dflt (refine comp_MT (F₀ := by k_asm) (by with_unfolding_all rfl) (by decide) (by rfl) (by decide) (by rfl) ?_)))
  k_with "k_mem" => (first | with_reducible assumption | exact List.Mem.head _ | (refine' List.Mem.tail _ ?_; k_mem) | assumption)
  k_with "k_all" => (case zzfresh => first | with_reducible assumption | exact List.forall_mem_nil _ | (refine' List.forall_mem_cons.mpr ⟨?zza, ?zzb⟩; (case zza => k_ne); (case zzb => k_all)))
  k_with "mine sub" => (case zzfresh => first | with_reducible assumption | (intro zzq zzhq; exact List.mem_cons_of_mem _ (by revert zzq zzhq; walk_at "mine sub")))
  k_with "call ref" => (refine stop_here ?_)
  k_with "call ref" => (case zzfresh => (k_here; k_dflt (refine' ConF.useE (by with_reducible assumption) ?zzB ?zzF ?zzX ?zzN ?zzT ?zzhk ?zzhh ?zzhd ?zzhf ?zzhg ?zzhu ?_; (case zzhf => exact rfl); (case zzhk => exact rfl); (case zzhh => exact rfl); (case zzhg => exact rfl); (case zzF => k_asm); (case zzN => k_asm); (case zzB => k_asm); (case zzX => k_in); (case zzT => k_asm); (case zzhd => exact Nat.le_of_ble_eq_true rfl); (case zzhu => exact Nat.le_of_ble_eq_true rfl)); intro zzv' zzh' zztk' zzhpost' zzF' zzN'; k_dflt (obtain ⟨zzu1', zze1'⟩ := zzhpost'); subst zze1'))
  k_with "call builtin:len" => ((k_here; (with_reducible show wpAny _ _ (call (Value.builtin _) [Value.ref _]) _ _ _); k_dflt (refine len_is (News.isList (by k_asm) (by k_mem)) (by with_reducible assumption) (by omega) ?_); intro _ _))
  k_with "mine tail" => (first | with_reducible assumption | (refine List.mem_cons_of_mem _ ?_; walk_at "mine tail"))
  trivial
open Mine.Cap PySem.Builtin PySem.Builtin.Str PySem.Spec in
set_option maxRecDepth 100000 in
theorem words_sp {ds : List Nat} (hd : Ok ds) : Txt.words (S (sp ds)) = ds.map fun d => S [65 + d, 97 + d] := by
  have s1 : ∀ d, d < 16 → Unicode.isSpace (97 + d) = false := fun d h => (sp_all ⟨d, h⟩).1
  have s2 : ∀ d, d < 16 → Unicode.isSpace (65 + d) = false := fun d h => (sp_all ⟨d, h⟩).2
  have s3 : Unicode.isSpace 97 = false := by decide +kernel
  have s4 : Unicode.isSpace 65 = false := by decide +kernel
  have key : ∀ (ds : List Nat) (ws : List (Nat × Nat)), spaceWords (S (sp (ds.map fun _ => 0))) ((S (sp ds)).length + 1) = ws → (if (ws == [(0, (S (sp ds)).length)]) = true then [S (sp ds)] else (ws.map fun (i, j) => strSub (S (sp ds)) i j)) = (ds.map fun d => S [65 + d, 97 + d]) →
      (sp ds).map Unicode.isSpace = (sp (ds.map fun _ => 0)).map Unicode.isSpace → Txt.words (S (sp ds)) = ds.map fun d => S [65 + d, 97 + d] := by
    intro ds ws h1 h4 h5
    unfold Txt.words
    rw [sw_S h5, h1]
    unfold PySem.wordsOf
    rw [sw_S h5, h1]
    exact h4
  refine Ok.fall (P := fun ds => Txt.words (S (sp ds)) = ds.map fun d => S [65 + d, 97 + d]) ?_ ?_ ?_ ?_ hd
  · exact key [] [] (by decide +kernel) rfl rfl
  · intro a ha
    exact key [a] [(0, 2)] (show spaceWords (S (sp [0])) 3 = _ by decide +kernel) rfl (by simp [sp, inter, s1 a ha, s2 a ha, s3, s4])
  · intro a b ha hb
    exact key [a, b] [(0, 2), (3, 5)] (show spaceWords (S (sp [0, 0])) 6 = _ by decide +kernel) rfl (by simp [sp, inter, s1 a ha, s2 a ha, s1 b hb, s2 b hb, s3, s4])
  · intro a b c ha hb hc
    exact key [a, b, c] [(0, 2), (3, 5), (6, 8)] (show spaceWords (S (sp [0, 0, 0])) 9 = _ by decide +kernel) rfl (by simp [sp, inter, s1 a ha, s2 a ha, s1 b hb, s2 b hb, s1 c hc, s2 c hc, s3, s4])
section
variable {prog : Program} {w : World} {A : Around} {E : Value → Shared → Prop} {s : Shared} {Q : Value → Shared → Prop}
theorem first_sign {c d : Nat} {t u : Tok} (h : ∀ t' k, Q (.str (S [c]) t') { s with toks := k }) {value slice : Expr}
    (hs : subscripted slice false (.str (S [c, d]) t) (.int 0 u) = operate [.str (S [c, d]) t, .int 0 u] (getItem (.str (S [c, d]) t) (.int 0 u)) := by with_unfolding_all rfl) :
    wpAny (model prog w) A (subscriptTail value slice (.str (S [c, d]) t) (.int 0 u)) Q E s := by
  refine tail_any (typeIs_str _ _ _) F.slot_str_getitem.lookup (getItem_str (by decide) ?_ (h _ _)) hs
  rfl
end
theorem join_SE {prog : Program} {w : World} {A : Around} {E : Value → Shared → Prop} {s : Shared} {Q : Value → Shared → Prop} {x : Str} {t : Tok} {D : Addr} {ys : List Value} {sep l : List Nat} {ls : List (List Nat)} (hl : s.heap.IsList D ys.toArray) (hi : StrsAre ys (ls.map S)) (hx : x = S sep)
    (hs : sep.length ≤ 16) (hw : (ls.map List.length).sum + ls.length ≤ 1048576) (e : inter sep ls = l) (h : ∀ t' k, Q (.str (S l) t') { s with toks := k }) :
    wpAny (model prog w) A (call (.builtin "str.join") [.str x t, .ref D]) Q E s := join_SS hl hi hx hs hw (by rw [e]; exact h)
theorem strs_get {ys : List Value} {ls : List Str} (h : StrsAre ys ls) {i : Nat} {v : Value} (e : ys.toArray[i]? = some v) : ∃ y t, v = .str y t ∧ ls[i]? = some y :=
  (Cap.sa_get h).2 i v (by simpa using e)
theorem sp_len {ds : List Nat} (hd : Ok ds) : (sp ds).length ≤ 1000 := by
  have h1 := hd.len
  have h2 := inter_len [32] (ds.map fun d => [65 + d, 97 + d])
  rw [two_sum _ (fun _ => rfl), List.length_map] at h2
  simp only [List.length_cons, List.length_nil] at h2
  show (inter [32] (ds.map fun d => [65 + d, 97 + d])).length ≤ 1000
  omega
theorem two_weight {ds : List Nat} (hd : Ok ds) : ((ds.map fun d => [65 + d, 97 + d]).map List.length).sum + (ds.map fun d => [65 + d, 97 + d]).length ≤ 1048576 := by
  have := hd.len
  rw [two_sum _ (fun _ => rfl), List.length_map]; omega
theorem lines47 : True := by
  k_with "call builtin:str.split" => (case zzfresh => (k_here; k_dflt (refine Cap.split_K (by k_asm) (by k_asm) (by with_reducible assumption) (by with_reducible assumption) ?_); intro zzD' zzys' zzh' _ zza' zzF' zzN' zzl1))
  k_with "subscriptTail" => ((k_here; (with_reducible show wpAny _ _ (subscriptTail _ _ (Value.str _ _) (Value.int _ _)) _ _ _); k_dflt (refine first_sign ?_); intro _ _))
  k_with "call builtin:str.lower" => ((k_here; k_dflt (refine lower_letter (by with_reducible assumption) ?_); intro _ _))
  k_with "binaryOp Add str str" => ((k_here; k_dflt (refine add_S (a := [_]) (b := [_]) (by exact rfl) (by exact rfl) (by exact Nat.le_of_ble_eq_true rfl) (by exact Nat.le_of_ble_eq_true rfl) ?_); intro _ _))
  k_with "call builtin:str.join" => ((k_here; k_dflt (refine join_SE (News.isList (by k_asm) (by k_mem)) (by with_reducible assumption) (by with_reducible assumption) (by decide) (by with_reducible assumption) (by with_reducible assumption) ?_); intro _ _))
  k_with "compareOp NotEq str str" => ((k_here; k_dflt (refine ne_same ?_)))
  trivial
set_option maxRecDepth 100000 in
set_option maxHeartbeats 2000000 in
theorem seg5 {w : World} {h₀ : Heap} {L fa : Addr} {cd : Value} {p : Program} {loose : List Str} {mean : ExcName → Option Value} {mg mb : Str → Option Value} {sc : Scope} {m : Str → Option Value} {s : Shared}
    {Q : Flow → Shared → Prop} {E : Value → Shared → Prop} {a0 a1 a2 a3 a4 a5 a6 a7 a8 a9 : Stmt} {tl rest : List Stmt} (hat : turnAt w.params = some (a0 :: a1 :: a2 :: a3 :: a4 :: a5 :: a6 :: a7 :: a8 :: a9 :: tl, sc))
    (X : (Mine.hd.heap_39 w.params).In h₀) (B' : Below callerA h₀ [] h₀) (TT : Top p loose mean mg mb h₀)
    {ds : List Nat} {kd : Nat} {tt : Tok} {led : Led}
    (F : Fr h₀ L s.heap m) (N : News h₀ L s.heap led) (htold : m (Str.ofString "told") = some (.str (S (tx ds kd)) tt)) (hd : Ok ds) (hk : kd < 3)
    (k : ∀ h' tk' tw ts, Fr h₀ L h' (fun y => if y = Str.ofString "word" then some (.str (S (wd ds)) tw) else if y = Str.ofString "spelled" then some (.str (S (sp ds)) ts) else m y) → News h₀ L h' led →
      wpAny (model PySem.Challenge.rw_wy0034_01.row.prog w) (callerA.deeper (envOfC (Str.ofString "law") sc L fa cd)) (execs rest (envOfC (Str.ofString "law") sc L fa cd)) Q E { s with heap := h', toks := tk' }) :
    wpAny (model PySem.Challenge.rw_wy0034_01.row.prog w) (callerA.deeper (envOfC (Str.ofString "law") sc L fa cd)) (execs (a7 :: a8 :: a9 :: rest) (envOfC (Str.ofString "law") sc L fa cd)) Q E s := by
  have e : turnAt w.params = some (_ :: _ :: _ :: _ :: _ :: _ :: _ :: _ :: _ :: _ :: _, _) := rfl
  cases hat.symm.trans e
  clear hat e
  obtain ⟨m0, rfl⟩ : ∃ m0, m = fun y => if y = Str.ofString "told" then some (.str (S (tx ds kd)) tt) else m0 y := ⟨m, by funext y; (repeat' split) <;> simp_all⟩
  clear htold
  have cC : ConF w 0 (call (.ref 74) [.str (S (tx ds kd)) tt]) [] (fun r own' => own' = [] ∧ ∃ t, r = .str (S (sp ds)) t) := Capw.cap hd hk
  have hw := words_sp hd
  have hsz : (S (sp ds)).length + 2 ≤ 16777216 := by rw [S_len]; have := sp_len hd; omega
  have hbl : Str.ofString " " = S [32] := by decide +kernel
  have hbe : Str.ofString "" = S [] := by decide +kernel
  have hw1 := Let.lets_weight ds hd.len
  have hw2 := two_weight hd
  have hin := Let.inter_nil1 ds
  have hsp : inter [32] (ds.map fun d => [65 + d, 97 + d]) = sp ds := rfl
  revert X
  k_fill
  intro X
  k_steps
  refine SrcM.led rfl (by k_asm) (by k_asm) (by k_mem) ?_ fun g' => ?_
  · have h1 := (Cap.sa_get (by assumption)).1
    rw [List.length_map] at h1
    have := hd.len
    rw [sizeLine_eq, List.size_toArray]; omega
  rename StrsAre _ _ => hS
  rename List Value => ys0
  have hy := (Cap.sa_get hS).1
  rw [List.length_map] at hy
  have hy2 : ys0.toArray.size = ds.length := by rw [List.size_toArray, hy]
  refine rest_map (R := fun i y => ∃ u, y = .str (S [65 + ds.getD i 0]) u) (.inr ⟨_, by k_mem, rfl, _, rfl⟩) ?_ ?_
  · intro i zs v I oI C oC D m₂ h tk E' hi hP hC hx F1 N1 off ne
    obtain ⟨y, u9, rfl, ey⟩ := strs_get hS hP
    have hi' : i < ds.length := by rw [← hy2]; exact hi
    have eg : ds[i] = ds.getD i 0 := by simp [hi']
    rw [List.getElem?_map, List.getElem?_eq_getElem hi', eg] at ey
    obtain rfl := Option.some.inj ey
    k_steps
    exact ⟨_, _, rfl, by assumption, by assumption, _, rfl⟩
  · intro zs ha
    rw [hy2] at ha
    have hsa : StrsAre zs ((ds.map fun d => [65 + d]).map S) := by
      have h1 := strsAre_of (f := fun i => S [65 + ds.getD i 0]) ha
      rw [map_range_get (fun d => S [65 + d])] at h1
      rw [List.map_map]; exact h1
    clear ha
    k_steps
    refine SrcM.str rfl (by k_asm) (by k_asm) (by rw [sizeLine_eq]; have := hd.len; simp [wd]; omega) fun g' => ?_
    refine rest_map (R := fun i y => ∃ u, y = .str (S [65 + ds.getD i 0, 97 + ds.getD i 0]) u) trivial ?_ ?_
    · intro i zs v I oI C oC D m₂ h tk E' hi hP hC hx F1 N1 off ne
      obtain ⟨c, u, hc, rfl⟩ := hP
      have hi' : i < ds.length := by simpa [wd] using hi
      rw [wd_get ds i hi'] at hc
      cases hc
      have hlt : ds.getD i 0 < 16 := hd.lt _ (by simp [hi'])
      k_steps
      exact ⟨_, _, rfl, by assumption, by assumption, _, rfl⟩
    · intro zs ha
      have hsb : StrsAre zs ((ds.map fun d => [65 + d, 97 + d]).map S) := by
        have h1 := strsAre_of (f := fun i => S [65 + ds.getD i 0, 97 + ds.getD i 0]) ha
        have e : (S (wd ds)).cps.size = ds.length := by simp [wd]
        rw [e, map_range_get (fun d => S [65 + d, 97 + d])] at h1
        rw [List.map_map]; exact h1
      clear ha
      k_steps
      rename News _ _ _ (_ :: _) => N9
      refine k _ _ _ _ (by assumption) (News.sub N9 (fun q hq => ?_))
      walk_at "mine tail"

end Mine.S5
end
section
open PySem PySem.W PyProof.Rows PySem.Builtin.Int
open PyProof.Rows.LCg Mine.LC Mine.Bk PySem.Calls
namespace Mine.S6
theorem lines48 : True := by
  k_with_none
  w_top off
  k_with "execs cons" => (((try dsimp only); refine toks_any ?_; intro _))
  k_with "k_enter" => (case zzfresh => (refine' code_def ?zzk1 ?zzk2 ?zzk3 ?zzk4 ?zzk5 ?zzkA ?zzkF ?zzkK ?zzk6 ?zzk7 ?zzk8 ?zzk9 ?zzkB ?_ ?zzc2 ?zzc3 ?zzc4 ?zzc5; (case zzkA => exact rfl); (case zzkF => exact rfl); (case zzkK => first | exact rfl | assumption); (case zzk1 => k_asm); (case zzk2 => k_asm); (case zzk3 => k_asm); (case zzk4 => k_asm); (case zzk5 => k_asm); (case zzk6 => k_is); (case zzk7 => k_is); (case zzk8 => k_room); (case zzk9 => first | exact BindsTo.of_eq rfl | exact binds_K (by k_in) rfl (by k_is) rfl rfl rfl | (refine kp_binds (by k_in) ?_; exact fun _ => rfl) | fail "k_enter: no rule for these arguments"); (case zzc5 => decide); (case zzkB => exact locs rfl); (case zzc2 => exact rfl); (case zzc3 => exact rfl); (case zzc4 => exact rfl); k_whole; intro zzg' zzL' zzh' zzFG' zzF' zzN' zzB' zzX' zzT'; (try dsimp only); (try k_lift zzB'); (try k_fold)))
  k_with "k_enter" => (case zzfresh => (refine' code_defC ?zzk1 ?zzk2 ?zzk3 ?zzk4 ?zzk5 ?zzkA ?zzkF ?zzkK ?zzk6 ?zzk7 ?zzk8 ?zzk9 ?zzkB ?zzkD ?_ ?zzc2 ?zzc3 ?zzc4; (case zzkA => exact rfl); (case zzkF => exact rfl); (case zzkK => first | exact rfl | assumption); (case zzk1 => k_asm); (case zzk2 => k_asm); (case zzk3 => k_asm); (case zzk4 => k_asm); (case zzk5 => k_asm); (case zzk6 => k_is); (case zzk7 => k_is); (case zzk8 => k_room); (case zzk9 => first | exact BindsTo.of_eq rfl | exact binds_K (by k_in) rfl (by k_is) rfl rfl rfl | (refine kp_binds (by k_in) ?_; exact fun _ => rfl) | fail "k_enter: no rule for these arguments"); (case zzkB => exact rfl); (case zzkD => decide +kernel); (case zzc2 => exact rfl); (case zzc3 => exact rfl); (case zzc4 => exact rfl); k_whole; intro zzg' zzL' zzh' zztk' zzcells' zzFG' zzF' zzN' zzY' zzB' zzX' zzT' zzl1; (try k_lt zzl1); k_cells zzY'; (try simp only [List.cons_append, List.nil_append] at zzN'); (try dsimp only); (try k_lift zzB'); (try k_fold)))
  k_with "mine open" => ((refine wpAny_call ?_; k_dflt (first | k_enter | kc_enter)))
  k_with "mine open R" => (case zzfresh => (refine wpAny_call ?_; k_dflt (refine' code_defR ?zzk1 ?zzk2 ?zzk3 ?zzk4 ?zzkD ?zzk5 ?zzkA ?zzkF ?zzkK ?zzk6 ?zzk7 ?zzk8 ?zzk9 ?zzkB ?_ ?zzc2 ?zzc3 ?zzc4 ?zzc5; (case zzkA => exact rfl); (case zzkF => exact rfl); (case zzkK => first | exact rfl | assumption); (case zzk1 => k_asm); (case zzk2 => k_asm); (case zzk3 => k_asm); (case zzk4 => with_reducible assumption); (case zzkD => with_reducible assumption); (case zzk5 => k_asm); (case zzk6 => k_is); (case zzk7 => k_is); (case zzk8 => k_room); (case zzk9 => first | exact BindsTo.of_eq rfl | exact binds_K (by k_in) rfl (by k_is) rfl rfl rfl | (refine kp_binds (by k_in) ?_; exact fun _ => rfl) | fail "k_enter: no rule for these arguments"); (case zzc5 => decide); (case zzkB => exact locs rfl); (case zzc2 => exact rfl); (case zzc3 => exact rfl); (case zzc4 => exact rfl)); k_whole; intro zzg' zzL' zzh' zzFG' zzF' zzN' zzB' zzX' zzT' zzS'; (try dsimp only); (try k_lift zzB'); (try k_fold)))
  k_with "mine open CR" => (case zzfresh => (refine wpAny_call ?_; k_dflt (refine' code_defCR ?zzk1 ?zzk2 ?zzk3 ?zzk4 ?zzkR ?zzk5 ?zzkA ?zzkF ?zzkK ?zzk6 ?zzk7 ?zzk8 ?zzk9 ?zzkB ?zzkD ?_ ?zzc2 ?zzc3 ?zzc4; (case zzkA => exact rfl); (case zzkF => exact rfl); (case zzkK => first | exact rfl | assumption); (case zzk1 => k_asm); (case zzk2 => k_asm); (case zzk3 => k_asm); (case zzk4 => with_reducible assumption); (case zzkR => with_reducible assumption); (case zzk5 => k_asm); (case zzk6 => k_is); (case zzk7 => k_is); (case zzk8 => k_room); (case zzk9 => first | exact BindsTo.of_eq rfl | exact binds_K (by k_in) rfl (by k_is) rfl rfl rfl | (refine kp_binds (by k_in) ?_; exact fun _ => rfl) | fail "k_enter: no rule for these arguments"); (case zzkB => exact rfl); (case zzkD => decide +kernel); (case zzc2 => exact rfl); (case zzc3 => exact rfl); (case zzc4 => exact rfl)); k_whole; intro zzg' zzL' zzh' zztk' zzcells' zzFG' zzF' zzN' zzY' zzB' zzX' zzT' zzl1 zzS'; (try k_lt zzl1); k_cells zzY'; (try simp only [List.cons_append, List.nil_append] at zzN'); (try dsimp only); (try k_lift zzB'); (try k_fold)))
  k_with "mine open CR0" => (case zzfresh => (refine wpAny_call ?_; k_dflt (refine' code_defCR (own := []) ?zzk1 ?zzk2 ?zzk3 ?zzk4 ?zzkR ?zzk5 ?zzkA ?zzkF ?zzkK ?zzk6 ?zzk7 ?zzk8 ?zzk9 ?zzkB ?zzkD ?_ ?zzc2 ?zzc3 ?zzc4; (case zzkA => exact rfl); (case zzkF => exact rfl); (case zzkK => first | exact rfl | assumption); (case zzk1 => k_asm); (case zzk2 => k_asm); (case zzk3 => k_asm); (case zzk4 => k_asm); (case zzkR => exact Apart.zero); (case zzk5 => k_asm); (case zzk6 => k_is); (case zzk7 => k_is); (case zzk8 => k_room); (case zzk9 => first | exact BindsTo.of_eq rfl | exact binds_K (by k_in) rfl (by k_is) rfl rfl rfl | (refine kp_binds (by k_in) ?_; exact fun _ => rfl) | fail "k_enter: no rule for these arguments"); (case zzkB => exact rfl); (case zzkD => decide +kernel); (case zzc2 => exact rfl); (case zzc3 => exact rfl); (case zzc4 => exact rfl)); k_whole; intro zzg' zzL' zzh' zztk' zzcells' zzFG' zzF' zzN' zzY' zzB' zzX' zzT' zzl1 zzS'; clear zzl1; k_cells zzY'; (try simp only [List.cons_append, List.nil_append, List.append_nil] at zzN'); (try dsimp only); (try k_lift zzB'); (try k_fold)))
  k_with "mine open R0" => (case zzfresh => (refine wpAny_call ?_; k_dflt (refine' code_defR (own := []) ?zzk1 ?zzk2 ?zzk3 ?zzk4 ?zzkD ?zzk5 ?zzkA ?zzkF ?zzkK ?zzk6 ?zzk7 ?zzk8 ?zzk9 ?zzkB ?_ ?zzc2 ?zzc3 ?zzc4 ?zzc5; (case zzkA => exact rfl); (case zzkF => exact rfl); (case zzkK => first | exact rfl | assumption); (case zzk1 => k_asm); (case zzk2 => k_asm); (case zzk3 => k_asm); (case zzk4 => k_asm); (case zzkD => exact Apart.zero); (case zzk5 => k_asm); (case zzk6 => k_is); (case zzk7 => k_is); (case zzk8 => k_room); (case zzk9 => first | exact BindsTo.of_eq rfl | exact binds_K (by k_in) rfl (by k_is) rfl rfl rfl | (refine kp_binds (by k_in) ?_; exact fun _ => rfl) | fail "k_enter: no rule for these arguments"); (case zzc5 => decide); (case zzkB => exact locs rfl); (case zzc2 => exact rfl); (case zzc3 => exact rfl); (case zzc4 => exact rfl)); k_whole; intro zzg' zzL' zzh' zzFG' zzF' zzN' zzB' zzX' zzT' zzS'; (try dsimp only); (try k_lift zzB'); (try k_fold)))
  k_with "exec Assign cons ListComp" => ((k_here; (with_reducible show wpAny _ _ (exec (Stmt.Assign [Expr.Name _ _] (Expr.ListComp _ [Comprehension.mk (Expr.Name _ _) _ [] _] _ _) _) _) _ _ _); k_dflt (refine assign_M (F₀ := by k_asm) (by rfl) (by with_unfolding_all rfl) (by with_unfolding_all rfl) (by decide) (by rfl) (by decide) (by rfl) (by rfl) (by rfl) ?_)))
  k_with "exec Assign cons ListComp" => ((k_here; (with_reducible show wpAny _ _ (exec (Stmt.Assign [Expr.Name _ _] (Expr.ListComp _ [Comprehension.mk (Expr.Name _ _) _ [_] _] _ _) _) _) _ _ _); k_dflt (refine assign_MT (F₀ := by k_asm) (by rfl) (by with_unfolding_all rfl) (by with_unfolding_all rfl) (by decide) (by rfl) (by decide) (by rfl) (by rfl) (by rfl) ?_)))
  k_with "eval ListComp" => ((k_here; (with_reducible show wpAny _ _ (eval (Expr.ListComp _ [Comprehension.mk (Expr.Name _ _) _ [] _] _ _) _) _ _ _); k_dflt (refine comp_M (F₀ := by k_asm) (by with_unfolding_all rfl) (by decide) (by rfl) (by decide) (by rfl) ?_)))
  k_with "eval ListComp" => ((k_here; (with_reducible show wpAny _ _ (eval (Expr.ListComp _ [Comprehension.mk (Expr.Name _ _) _ [_] _] _ _) _) _ _ _); k_dflt (refine comp_MT (F₀ := by k_asm) (by with_unfolding_all rfl) (by decide) (by rfl) (by decide) (by rfl) ?_)))
  k_with "k_mem" => (first | with_reducible assumption | exact List.Mem.head _ | (refine' List.Mem.tail _ ?_; k_mem) | assumption)
  k_with "k_all" => (case zzfresh => first | with_reducible assumption | exact List.forall_mem_nil _ | (refine' List.forall_mem_cons.mpr ⟨?zza, ?zzb⟩; (case zza => k_ne); (case zzb => k_all)))
  k_with "mine sub" => (case zzfresh => first | with_reducible assumption | (intro zzq zzhq; exact List.mem_cons_of_mem _ (by revert zzq zzhq; walk_at "mine sub")))
  k_with "call ref" => (refine stop_here ?_)
  k_with "call ref" => (case zzfresh => (k_here; k_dflt (refine' ConF.useE (by with_reducible assumption) ?zzB ?zzF ?zzX ?zzN ?zzT ?zzhk ?zzhh ?zzhd ?zzhf ?zzhg ?zzhu ?_; (case zzhf => exact rfl); (case zzhk => exact rfl); (case zzhh => exact rfl); (case zzhg => exact rfl); (case zzF => k_asm); (case zzN => k_asm); (case zzB => k_asm); (case zzX => k_in); (case zzT => k_asm); (case zzhd => exact Nat.le_of_ble_eq_true rfl); (case zzhu => exact Nat.le_of_ble_eq_true rfl)); intro zzv' zzh' zztk' zzhpost' zzF' zzN'; k_dflt (obtain ⟨zzu1', zze1'⟩ := zzhpost'); subst zze1'))
  k_with "call builtin:len" => ((k_here; (with_reducible show wpAny _ _ (call (Value.builtin _) [Value.ref _]) _ _ _); k_dflt (refine len_is (News.isList (by k_asm) (by k_mem)) (by with_reducible assumption) (by omega) ?_); intro _ _))
  k_with "mine tail" => (first | with_reducible assumption | (refine List.mem_cons_of_mem _ ?_; walk_at "mine tail"))
  k_with "k_mem" => (first | with_reducible assumption | exact List.Mem.head _ | exact List.mem_append_right _ (by with_reducible assumption) | (refine' List.Mem.tail _ ?_; k_mem) | assumption)
  k_with "binaryOp FloorDiv int int" => ((k_here; k_dflt (refine fdiv_e (by decide) (PyProof.noPylong_of_log2 (by decide)) ?_)))
  k_with "binaryOp Mod int int" => ((k_here; k_dflt (refine mod_is (by decide) (by with_reducible assumption) ?_)))
  k_with "subscriptTail Name BinOp ref int" => ((k_here; k_dflt (refine item2_is (News.isList (by k_asm) (by k_mem)) (by with_reducible assumption) (by with_reducible assumption) (by with_reducible assumption) ?_); intro _))
  k_with "call ref" => (case zzfresh => (k_here; (with_reducible show wpAny _ _ (call (Value.ref 233) _) _ _ _); k_dflt ((rename (∀ _ _ _ _ _ _ : Tok, ConF _ _ _ _ _) => zzc9); refine' ConF.useP (zzc9 _ _ _ _ _ _) ?zzB ?zzF ?zzX ?zzN ?zzD ?zzT ?zzhk ?zzhh ?zzhd ?zzhf ?zzhg ?zzhu ?_; (case zzN => k_asm); (case zzD => with_reducible assumption); (case zzhf => exact rfl); (case zzhk => exact rfl); (case zzhh => exact rfl); (case zzhg => exact rfl); (case zzF => k_asm); (case zzB => k_asm); (case zzX => k_in); (case zzT => k_asm); (case zzhd => exact Nat.le_of_ble_eq_true rfl); (case zzhu => exact Nat.le_of_ble_eq_true rfl)); intro zzv' zzh' zztk' zzown' zzhpost' zzD' zzF' zzN'; k_dflt (obtain ⟨zzt9', zzu1', zze1'⟩ := zzhpost'); subst zze1'))
  trivial
theorem eq_f {prog : Program} {w : World} {A : Around} {E : Value → Shared → Prop} {s : Shared} {Q : Value → Shared → Prop} {a b : Int} {t u : Tok} (h : a ≠ b) (hQ : Q (.bool false) s) : wpAny (model prog w) A (compareOp .Eq (.int a t) (.int b u)) Q E s := by
  refine eq_int ?_
  rw [beq_eq_false_iff_ne.mpr h]; exact hQ
theorem lines49 : True := by
  k_with "compareOp Eq int int" => ((k_here; k_dflt (refine eq_f (by with_reducible assumption) ?_)))
  trivial
set_option maxRecDepth 100000 in
set_option maxHeartbeats 1000000 in
theorem seg6a {w : World} {h₀ : Heap} {L fa : Addr} {cd : Value} {p : Program} {loose : List Str} {mean : ExcName → Option Value} {mg mb : Str → Option Value} {sc : Scope} {m : Str → Option Value} {s : Shared}
    {Q : Flow → Shared → Prop} {E : Value → Shared → Prop} {a0 a1 a2 a3 a4 a5 a6 a7 a8 a9 a10 : Stmt} {tl rest : List Stmt} (hat : turnAt w.params = some (a0 :: a1 :: a2 :: a3 :: a4 :: a5 :: a6 :: a7 :: a8 :: a9 :: a10 :: tl, sc))
    (X : (Mine.hd.heap_39 w.params).In h₀) (B' : Below callerA h₀ [] h₀) (TT : Top p loose mean mg mb h₀)
    {z : Int} {tm : Tok} {led : Led}
    (F : Fr h₀ L s.heap m) (N : News h₀ L s.heap led) (hmover : m (Str.ofString "mover") = some (.int z tm)) (hz : z ≠ 0)
    (k : ∀ h' tk', Fr h₀ L h' m → News h₀ L h' led →
      wpAny (model PySem.Challenge.rw_wy0034_01.row.prog w) (callerA.deeper (envOfC (Str.ofString "law") sc L fa cd)) (execs rest (envOfC (Str.ofString "law") sc L fa cd)) Q E { s with heap := h', toks := tk' }) :
    wpAny (model PySem.Challenge.rw_wy0034_01.row.prog w) (callerA.deeper (envOfC (Str.ofString "law") sc L fa cd)) (execs (a10 :: rest) (envOfC (Str.ofString "law") sc L fa cd)) Q E s := by
  have e : turnAt w.params = some (_ :: _ :: _ :: _ :: _ :: _ :: _ :: _ :: _ :: _ :: _ :: _, _) := rfl
  cases hat.symm.trans e
  clear hat e
  obtain ⟨m0, rfl⟩ : ∃ m0, m = fun y => if y = Str.ofString "mover" then some (.int z tm) else m0 y := ⟨m, by funext y; (repeat' split) <;> simp_all⟩
  clear hmover
  revert X
  k_fill
  intro X
  k_steps
  exact k _ _ (by assumption) (by assumption)
set_option maxRecDepth 100000 in
set_option maxHeartbeats 1000000 in
theorem seg6b {w : World} {h₀ : Heap} {L fa : Addr} {cd : Value} {p : Program} {loose : List Str} {mean : ExcName → Option Value} {mg mb : Str → Option Value} {sc : Scope} {m : Str → Option Value} {s : Shared}
    {Q : Flow → Shared → Prop} {E : Value → Shared → Prop} {a0 a1 a2 a3 a4 a5 a6 a7 a8 a9 a10 : Stmt} {tl rest : List Stmt} (hat : turnAt w.params = some (a0 :: a1 :: a2 :: a3 :: a4 :: a5 :: a6 :: a7 :: a8 :: a9 :: a10 :: tl, sc))
    (X : (Mine.hd.heap_39 w.params).In h₀) (B' : Below callerA h₀ [] h₀) (TT : Top p loose mean mg mb h₀)
    {ds : List Nat} {i step base unit far0 gr far below num z : Int} {ti tw tu tb tm w0 w1 ts1 tb1 : Tok} {e : Nat} {oS oB : Obj} {Fa : Addr} {nf : Nat} {tabs led : Led}
    (F : Fr h₀ L s.heap m) (N : News h₀ L s.heap (tabs ++ led)) (D : Apart tabs led) (T9 : Dig.Tab tabs) (hmover : m (Str.ofString "mover") = some (.int z tm)) (hz : z = 0)
    (hword : m (Str.ofString "word") = some (.str (S (wd ds)) tw)) (hunit : m (Str.ofString "unit") = some (.int unit tu)) (hfars : m (Str.ofString "fars") = some (.ref Fa)) (hbelow : m (Str.ofString "below") = some (.int below tb)) (hturn : m (Str.ofString "turn") = some (.int i ti))
    (hoS : (L + 1 + 1 + 1 + 1, oS) ∈ led) (dS : oS.data = .cell (some (.int step ts1))) (hoB : (L + 1 + 1 + 1, oB) ∈ led) (dB : oB.data = .cell (some (.int base tb1))) (hFa : (Fa, lstN [.int far0 w0, .int gr w1] nf) ∈ led)
    (hfar : (if i / 4 % 2 = 0 then far0 else gr) = far) (hd : Ok ds) (hnum : Dig.dval ((ds.map fun d : Nat => (d : Int)).reverse) = num) (hb : 5 ≤ base) (hb' : base ≤ 1801) (hu : unit = 3 ^ e) (he : 2600 ≤ e) (he' : e ≤ 2899)
    (n0 : 0 ≤ num) (n1 : num < base) (s0 : 1 ≤ step) (s1 : step < base) (b0 : 0 ≤ below) (b1 : below < unit) (f0 : 0 ≤ far) (f1 : far ≤ 2 ^ (Builtin.Int.intBits (base * unit)) - 2)
    (k : ∀ h' tk' tabs' tw', Dig.Tab tabs' → Apart tabs' led → Fr h₀ L h' (fun y => if y = Str.ofString "word" then some (.str (S (wd (dg ((num + step) % base).toNat))) tw') else m y) → News h₀ L h' (tabs' ++ led) →
      wpAny (model PySem.Challenge.rw_wy0034_01.row.prog w) (callerA.deeper (envOfC (Str.ofString "law") sc L fa cd)) (execs rest (envOfC (Str.ofString "law") sc L fa cd)) Q E { s with heap := h', toks := tk' }) :
    wpAny (model PySem.Challenge.rw_wy0034_01.row.prog w) (callerA.deeper (envOfC (Str.ofString "law") sc L fa cd)) (execs (a10 :: rest) (envOfC (Str.ofString "law") sc L fa cd)) Q E s := by
  have e' : turnAt w.params = some (_ :: _ :: _ :: _ :: _ :: _ :: _ :: _ :: _ :: _ :: _ :: _, _) := rfl
  cases hat.symm.trans e'
  clear hat e'
  subst hz
  obtain ⟨m0, rfl⟩ : ∃ m0, m = fun y => if y = Str.ofString "mover" then some (.int 0 tm) else if y = Str.ofString "word" then some (.str (S (wd ds)) tw) else if y = Str.ofString "unit" then some (.int unit tu) else if y = Str.ofString "fars" then some (.ref Fa) else if y = Str.ofString "below" then some (.int below tb) else if y = Str.ofString "turn" then some (.int i ti) else m0 y := ⟨m, by funext y; (repeat' split) <;> simp_all⟩
  clear hmover hword hunit hfars hbelow hturn
  have cN : ∀ t1 t2 t3 t4 t5 t6 : Tok, ConF w 3 (call (.ref 233) [.str (S (wd ds)) t1, .int step t2, .int base t3, .int unit t4, .int far t5, .int below t6]) tabs
      (fun v own' => Dig.Tab own' ∧ ∃ t, v = .str (S (wd (dg ((num + step) % base).toNat))) t) := fun t1 t2 t3 t4 t5 t6 => Nx.next hd T9 hnum hb hb' hu he he' n0 n1 s0 s1 b0 b1 f0 f1
  obtain ⟨ix, hix⟩ : ∃ x : Int, i / 4 % 2 = x := ⟨_, rfl⟩
  rw [hix] at hfar
  have ix0 : 0 ≤ ix := by omega
  have ix1 : ix < 2 := by omega
  clear hu
  revert X
  k_fill
  intro X
  k_steps
  rename Dig.Tab _ => T8
  exact k _ _ _ _ T8 (by assumption) (by assumption) (by assumption)

end Mine.S6
end
section
open PySem PySem.W PyProof.Rows PySem.Builtin.Int
open PyProof.Rows.LCg Mine.LC Mine.Bk PySem.Calls
namespace Mine.S7
theorem lines50 : True := by
  k_with_none
  w_top off
  k_with "execs cons" => (((try dsimp only); refine toks_any ?_; intro _))
  k_with "k_enter" => (case zzfresh => (refine' code_def ?zzk1 ?zzk2 ?zzk3 ?zzk4 ?zzk5 ?zzkA ?zzkF ?zzkK ?zzk6 ?zzk7 ?zzk8 ?zzk9 ?zzkB ?_ ?zzc2 ?zzc3 ?zzc4 ?zzc5; (case zzkA => exact rfl); (case zzkF => exact rfl); (case zzkK => first | exact rfl | assumption); (case zzk1 => k_asm); (case zzk2 => k_asm); (case zzk3 => k_asm); (case zzk4 => k_asm); (case zzk5 => k_asm); (case zzk6 => k_is); (case zzk7 => k_is); (case zzk8 => k_room); (case zzk9 => first | exact BindsTo.of_eq rfl | exact binds_K (by k_in) rfl (by k_is) rfl rfl rfl | (refine kp_binds (by k_in) ?_; exact fun _ => rfl) | fail "k_enter: no rule for these arguments"); (case zzc5 => decide); (case zzkB => exact locs rfl); (case zzc2 => exact rfl); (case zzc3 => exact rfl); (case zzc4 => exact rfl); k_whole; intro zzg' zzL' zzh' zzFG' zzF' zzN' zzB' zzX' zzT'; (try dsimp only); (try k_lift zzB'); (try k_fold)))
  k_with "k_enter" => (case zzfresh => (refine' code_defC ?zzk1 ?zzk2 ?zzk3 ?zzk4 ?zzk5 ?zzkA ?zzkF ?zzkK ?zzk6 ?zzk7 ?zzk8 ?zzk9 ?zzkB ?zzkD ?_ ?zzc2 ?zzc3 ?zzc4; (case zzkA => exact rfl); (case zzkF => exact rfl); (case zzkK => first | exact rfl | assumption); (case zzk1 => k_asm); (case zzk2 => k_asm); (case zzk3 => k_asm); (case zzk4 => k_asm); (case zzk5 => k_asm); (case zzk6 => k_is); (case zzk7 => k_is); (case zzk8 => k_room); (case zzk9 => first | exact BindsTo.of_eq rfl | exact binds_K (by k_in) rfl (by k_is) rfl rfl rfl | (refine kp_binds (by k_in) ?_; exact fun _ => rfl) | fail "k_enter: no rule for these arguments"); (case zzkB => exact rfl); (case zzkD => decide +kernel); (case zzc2 => exact rfl); (case zzc3 => exact rfl); (case zzc4 => exact rfl); k_whole; intro zzg' zzL' zzh' zztk' zzcells' zzFG' zzF' zzN' zzY' zzB' zzX' zzT' zzl1; (try k_lt zzl1); k_cells zzY'; (try simp only [List.cons_append, List.nil_append] at zzN'); (try dsimp only); (try k_lift zzB'); (try k_fold)))
  k_with "mine open" => ((refine wpAny_call ?_; k_dflt (first | k_enter | kc_enter)))
  k_with "mine open R" => (case zzfresh => (refine wpAny_call ?_; k_dflt (refine' code_defR ?zzk1 ?zzk2 ?zzk3 ?zzk4 ?zzkD ?zzk5 ?zzkA ?zzkF ?zzkK ?zzk6 ?zzk7 ?zzk8 ?zzk9 ?zzkB ?_ ?zzc2 ?zzc3 ?zzc4 ?zzc5; (case zzkA => exact rfl); (case zzkF => exact rfl); (case zzkK => first | exact rfl | assumption); (case zzk1 => k_asm); (case zzk2 => k_asm); (case zzk3 => k_asm); (case zzk4 => with_reducible assumption); (case zzkD => with_reducible assumption); (case zzk5 => k_asm); (case zzk6 => k_is); (case zzk7 => k_is); (case zzk8 => k_room); (case zzk9 => first | exact BindsTo.of_eq rfl | exact binds_K (by k_in) rfl (by k_is) rfl rfl rfl | (refine kp_binds (by k_in) ?_; exact fun _ => rfl) | fail "k_enter: no rule for these arguments"); (case zzc5 => decide); (case zzkB => exact locs rfl); (case zzc2 => exact rfl); (case zzc3 => exact rfl); (case zzc4 => exact rfl)); k_whole; intro zzg' zzL' zzh' zzFG' zzF' zzN' zzB' zzX' zzT' zzS'; (try dsimp only); (try k_lift zzB'); (try k_fold)))
  k_with "mine open CR" => (case zzfresh => (refine wpAny_call ?_; k_dflt (refine' code_defCR ?zzk1 ?zzk2 ?zzk3 ?zzk4 ?zzkR ?zzk5 ?zzkA ?zzkF ?zzkK ?zzk6 ?zzk7 ?zzk8 ?zzk9 ?zzkB ?zzkD ?_ ?zzc2 ?zzc3 ?zzc4; (case zzkA => exact rfl); (case zzkF => exact rfl); (case zzkK => first | exact rfl | assumption); (case zzk1 => k_asm); (case zzk2 => k_asm); (case zzk3 => k_asm); (case zzk4 => with_reducible assumption); (case zzkR => with_reducible assumption); (case zzk5 => k_asm); (case zzk6 => k_is); (case zzk7 => k_is); (case zzk8 => k_room); (case zzk9 => first | exact BindsTo.of_eq rfl | exact binds_K (by k_in) rfl (by k_is) rfl rfl rfl | (refine kp_binds (by k_in) ?_; exact fun _ => rfl) | fail "k_enter: no rule for these arguments"); (case zzkB => exact rfl); (case zzkD => decide +kernel); (case zzc2 => exact rfl); (case zzc3 => exact rfl); (case zzc4 => exact rfl)); k_whole; intro zzg' zzL' zzh' zztk' zzcells' zzFG' zzF' zzN' zzY' zzB' zzX' zzT' zzl1 zzS'; (try k_lt zzl1); k_cells zzY'; (try simp only [List.cons_append, List.nil_append] at zzN'); (try dsimp only); (try k_lift zzB'); (try k_fold)))
  k_with "mine open CR0" => (case zzfresh => (refine wpAny_call ?_; k_dflt (refine' code_defCR (own := []) ?zzk1 ?zzk2 ?zzk3 ?zzk4 ?zzkR ?zzk5 ?zzkA ?zzkF ?zzkK ?zzk6 ?zzk7 ?zzk8 ?zzk9 ?zzkB ?zzkD ?_ ?zzc2 ?zzc3 ?zzc4; (case zzkA => exact rfl); (case zzkF => exact rfl); (case zzkK => first | exact rfl | assumption); (case zzk1 => k_asm); (case zzk2 => k_asm); (case zzk3 => k_asm); (case zzk4 => k_asm); (case zzkR => exact Apart.zero); (case zzk5 => k_asm); (case zzk6 => k_is); (case zzk7 => k_is); (case zzk8 => k_room); (case zzk9 => first | exact BindsTo.of_eq rfl | exact binds_K (by k_in) rfl (by k_is) rfl rfl rfl | (refine kp_binds (by k_in) ?_; exact fun _ => rfl) | fail "k_enter: no rule for these arguments"); (case zzkB => exact rfl); (case zzkD => decide +kernel); (case zzc2 => exact rfl); (case zzc3 => exact rfl); (case zzc4 => exact rfl)); k_whole; intro zzg' zzL' zzh' zztk' zzcells' zzFG' zzF' zzN' zzY' zzB' zzX' zzT' zzl1 zzS'; clear zzl1; k_cells zzY'; (try simp only [List.cons_append, List.nil_append, List.append_nil] at zzN'); (try dsimp only); (try k_lift zzB'); (try k_fold)))
  k_with "mine open R0" => (case zzfresh => (refine wpAny_call ?_; k_dflt (refine' code_defR (own := []) ?zzk1 ?zzk2 ?zzk3 ?zzk4 ?zzkD ?zzk5 ?zzkA ?zzkF ?zzkK ?zzk6 ?zzk7 ?zzk8 ?zzk9 ?zzkB ?_ ?zzc2 ?zzc3 ?zzc4 ?zzc5; (case zzkA => exact rfl); (case zzkF => exact rfl); (case zzkK => first | exact rfl | assumption); (case zzk1 => k_asm); (case zzk2 => k_asm); (case zzk3 => k_asm); (case zzk4 => k_asm); (case zzkD => exact Apart.zero); (case zzk5 => k_asm); (case zzk6 => k_is); (case zzk7 => k_is); (case zzk8 => k_room); (case zzk9 => first | exact BindsTo.of_eq rfl | exact binds_K (by k_in) rfl (by k_is) rfl rfl rfl | (refine kp_binds (by k_in) ?_; exact fun _ => rfl) | fail "k_enter: no rule for these arguments"); (case zzc5 => decide); (case zzkB => exact locs rfl); (case zzc2 => exact rfl); (case zzc3 => exact rfl); (case zzc4 => exact rfl)); k_whole; intro zzg' zzL' zzh' zzFG' zzF' zzN' zzB' zzX' zzT' zzS'; (try dsimp only); (try k_lift zzB'); (try k_fold)))
  k_with "exec Assign cons ListComp" => ((k_here; (with_reducible show wpAny _ _ (exec (Stmt.Assign [Expr.Name _ _] (Expr.ListComp _ [Comprehension.mk (Expr.Name _ _) _ [] _] _ _) _) _) _ _ _); k_dflt (refine assign_M (F₀ := by k_asm) (by rfl) (by with_unfolding_all rfl) (by with_unfolding_all rfl) (by decide) (by rfl) (by decide) (by rfl) (by rfl) (by rfl) ?_)))
  k_with "exec Assign cons ListComp" => ((k_here; (with_reducible show wpAny _ _ (exec (Stmt.Assign [Expr.Name _ _] (Expr.ListComp _ [Comprehension.mk (Expr.Name _ _) _ [_] _] _ _) _) _) _ _ _); k_dflt (refine assign_MT (F₀ := by k_asm) (by rfl) (by with_unfolding_all rfl) (by with_unfolding_all rfl) (by decide) (by rfl) (by decide) (by rfl) (by rfl) (by rfl) ?_)))
  k_with "eval ListComp" => ((k_here; (with_reducible show wpAny _ _ (eval (Expr.ListComp _ [Comprehension.mk (Expr.Name _ _) _ [] _] _ _) _) _ _ _); k_dflt (refine comp_M (F₀ := by k_asm) (by with_unfolding_all rfl) (by decide) (by rfl) (by decide) (by rfl) ?_)))
  k_with "eval ListComp" => ((k_here; (with_reducible show wpAny _ _ (eval (Expr.ListComp _ [Comprehension.mk (Expr.Name _ _) _ [_] _] _ _) _) _ _ _); k_dflt (refine comp_MT (F₀ := by k_asm) (by with_unfolding_all rfl) (by decide) (by rfl) (by decide) (by rfl) ?_)))
  k_with "k_mem" => (first | with_reducible assumption | exact List.Mem.head _ | (refine' List.Mem.tail _ ?_; k_mem) | assumption)
  k_with "k_all" => (case zzfresh => first | with_reducible assumption | exact List.forall_mem_nil _ | (refine' List.forall_mem_cons.mpr ⟨?zza, ?zzb⟩; (case zza => k_ne); (case zzb => k_all)))
  k_with "mine sub" => (case zzfresh => first | with_reducible assumption | (intro zzq zzhq; exact List.mem_cons_of_mem _ (by revert zzq zzhq; walk_at "mine sub")))
  k_with "call ref" => (refine stop_here ?_)
  k_with "call ref" => (case zzfresh => (k_here; k_dflt (refine' ConF.useE (by with_reducible assumption) ?zzB ?zzF ?zzX ?zzN ?zzT ?zzhk ?zzhh ?zzhd ?zzhf ?zzhg ?zzhu ?_; (case zzhf => exact rfl); (case zzhk => exact rfl); (case zzhh => exact rfl); (case zzhg => exact rfl); (case zzF => k_asm); (case zzN => k_asm); (case zzB => k_asm); (case zzX => k_in); (case zzT => k_asm); (case zzhd => exact Nat.le_of_ble_eq_true rfl); (case zzhu => exact Nat.le_of_ble_eq_true rfl)); intro zzv' zzh' zztk' zzhpost' zzF' zzN'; k_dflt (obtain ⟨zzu1', zze1'⟩ := zzhpost'); subst zze1'))
  k_with "call builtin:len" => ((k_here; (with_reducible show wpAny _ _ (call (Value.builtin _) [Value.ref _]) _ _ _); k_dflt (refine len_is (News.isList (by k_asm) (by k_mem)) (by with_reducible assumption) (by omega) ?_); intro _ _))
  k_with "mine tail" => (first | with_reducible assumption | (refine List.mem_cons_of_mem _ ?_; walk_at "mine tail"))
  trivial
theorem inter_mem {sep : List Nat} {x : Nat} : ∀ {ls : List (List Nat)}, x ∈ inter sep ls → x ∈ sep ∨ ∃ l ∈ ls, x ∈ l
  | [], h => nomatch h
  | [l], h => .inr ⟨l, .head _, h⟩
  | l :: l' :: r, h => by
    have h' : x ∈ l ++ sep ++ inter sep (l' :: r) := h
    rcases List.mem_append.mp h' with h1 | h1
    · rcases List.mem_append.mp h1 with h2 | h2
      · exact .inr ⟨l, .head _, h2⟩
      · exact .inl h2
    · rcases inter_mem h1 with h2 | ⟨l9, h2, h3⟩
      · exact .inl h2
      · exact .inr ⟨l9, .tail _ h2, h3⟩
theorem bl_fine {k x : Nat} (h : x ∈ bl k) : Re.FineV x := by
  unfold bl at h
  unfold Re.FineV
  split at h <;> simp at h <;> omega
theorem tx_fineV {ds : List Nat} (hd : Ok ds) (k : Nat) : ∀ x ∈ tx ds k, Re.FineV x := fun x hx => by
  have hx' : x ∈ bl k ++ inter (bl k) (ds.map (pr k)) ++ bl k := hx
  rcases List.mem_append.mp hx' with h | h
  · rcases List.mem_append.mp h with h | h
    · exact bl_fine h
    · rcases inter_mem h with h | ⟨l, hl, h⟩
      · exact bl_fine h
      · obtain ⟨d, hdm, rfl⟩ := List.mem_map.mp hl
        have := hd.lt d hdm
        unfold pr at h
        unfold Re.FineV
        split at h <;> simp at h <;> omega
  · exact bl_fine h
theorem tx_len' {ds : List Nat} (hd : Ok ds) (k : Nat) : (tx ds k).length ≤ 1000 := by
  have := Cap.tx_len hd k
  rw [S_len] at this; exact this
theorem lines51 : True := by
  k_with "k_mem" => (first | with_reducible assumption | exact List.Mem.head _ | exact List.mem_append_right _ (by with_reducible assumption) | (refine' List.Mem.tail _ ?_; k_mem) | assumption)
  k_with "binaryOp Mod int int" => ((k_here; k_dflt (refine mod_is (by decide) (by with_reducible assumption) ?_)))
  k_with "subscriptTail" => ((k_here; (with_reducible show wpAny _ _ (subscriptTail _ _ (Value.str (Str.ofString "abcd") _) (Value.int _ _)) _ _ _); k_dflt (refine seat_low (by with_reducible assumption) ?_); intro _ _))
  k_with "subscriptTail" => ((k_here; (with_reducible show wpAny _ _ (subscriptTail _ _ (Value.str (Str.ofString "ABCD") _) (Value.int _ _)) _ _ _); k_dflt (refine seat_up (by with_reducible assumption) ?_); intro _ _))
  k_with "subscriptTail" => ((k_here; (with_reducible show wpAny _ _ (subscriptTail _ _ (Value.ref _) (Value.int _ _)) _ _ _); k_dflt (refine item_listL (News.isList (by k_asm) (by k_mem)) (by decide) (by decide) (by rfl) ?_)))
  k_with "call ref" => (case zzfresh => (k_here; (with_reducible show wpAny _ _ (call (Value.ref 216) _) _ _ _); k_dflt ((rename (∀ _ _ : Tok, ConF _ 0 _ _ _) => zzc9); refine' ConF.useE (zzc9 _ _) ?zzB ?zzF ?zzX ?zzN ?zzT ?zzhk ?zzhh ?zzhd ?zzhf ?zzhg ?zzhu ?_; (case zzhf => exact rfl); (case zzhk => exact rfl); (case zzhh => exact rfl); (case zzhg => exact rfl); (case zzF => k_asm); (case zzN => k_asm); (case zzB => k_asm); (case zzX => k_in); (case zzT => k_asm); (case zzhd => exact Nat.le_of_ble_eq_true rfl); (case zzhu => exact Nat.le_of_ble_eq_true rfl)); intro zzv' zzh' zztk' zzhpost' zzF' zzN'; k_dflt (obtain ⟨zzu1', zze1'⟩ := zzhpost'); subst zze1'))
  k_with "call ref" => (case zzfresh => (k_here; (with_reducible show wpAny _ _ (call (Value.ref 228) _) _ _ _); k_dflt ((rename (∀ _ _ : Tok, ConF _ 2 _ _ _) => zzc9); (rename News _ _ _ (_ :: (_ ++ _)) => zzn9); (replace n9 := News.sub zzn9 (fun q hq => List.mem_cons_of_mem _ hq)); refine' ConF.useP (zzc9 _ _) ?zzB ?zzF ?zzX ?zzN ?zzD ?zzT ?zzhk ?zzhh ?zzhd ?zzhf ?zzhg ?zzhu ?_; (case zzN => k_asm); (case zzD => with_reducible assumption); (case zzhf => exact rfl); (case zzhk => exact rfl); (case zzhh => exact rfl); (case zzhg => exact rfl); (case zzF => k_asm); (case zzB => k_asm); (case zzX => k_in); (case zzT => k_asm); (case zzhd => exact Nat.le_of_ble_eq_true rfl); (case zzhu => exact Nat.le_of_ble_eq_true rfl)); intro zzv' zzh' zztk' zzown' zzhpost' zzD' zzF' zzN'; k_dflt (obtain ⟨zze1', zzTn', zzn', zze2'⟩ := zzhpost'); subst zze1'; subst zze2'))
  trivial
set_option maxRecDepth 100000 in
set_option maxHeartbeats 1000000 in
theorem seg7 {w : World} {h₀ : Heap} {L fa : Addr} {cd : Value} {p : Program} {loose : List Str} {mean : ExcName → Option Value} {mg mb : Str → Option Value} {sc : Scope} {m : Str → Option Value} {s : Shared}
    {Q : Flow → Shared → Prop} {E : Value → Shared → Prop} {a0 a1 a2 a3 a4 a5 a6 a7 a8 a9 a10 a11 : Stmt} {tl rest : List Stmt} (hat : turnAt w.params = some (a0 :: a1 :: a2 :: a3 :: a4 :: a5 :: a6 :: a7 :: a8 :: a9 :: a10 :: a11 :: tl, sc))
    (X : (Mine.hd.heap_39 w.params).In h₀) (B' : Below callerA h₀ [] h₀) (TT : Top p loose mean mg mb h₀)
    {B D G : Addr} {T : Nat → Addr} {c : Nat → Nat} {x : Nat → List Nat} {a b : Nat → Tok} {tD : Tok} {n : Nat} {σ τ : Nat → Nat} {i : Int} {sN : Nat} {ti tm tw : Tok} {ds : List Nat} {led : Led}
    (F : Fr h₀ L s.heap m) (N : News h₀ L s.heap (book w B D G T c x a b tD n ++ led)) (ap : Apart (book w B D G T c x a b tD n) led)
    (hmover : m (Str.ofString "mover") = some (.int (sN : Int) tm)) (hword : m (Str.ofString "word") = some (.str (S (wd ds)) tw)) (hbook : m (Str.ofString "book") = some (.ref B)) (hturn : m (Str.ofString "turn") = some (.int i ti))
    (hp : Per σ τ) (hc : ∀ j, j < 4 → Tit (c j) (σ j)) (h4 : sN < 4) (hd : Ok ds)
    (k : ∀ h' tk' T' a' b' n', Fr h₀ L h' m → Apart (book w B D G T' (upd3 c (τ sN) ((if i % 2 = 0 then 97 else 65) + sN)) (upd3 x (τ sN) (tx ds (i % 3).toNat)) a' b' tD n') led →
      News h₀ L h' (book w B D G T' (upd3 c (τ sN) ((if i % 2 = 0 then 97 else 65) + sN)) (upd3 x (τ sN) (tx ds (i % 3).toNat)) a' b' tD n' ++ led) →
      wpAny (model PySem.Challenge.rw_wy0034_01.row.prog w) (callerA.deeper (envOfC (Str.ofString "law") sc L fa cd)) (execs rest (envOfC (Str.ofString "law") sc L fa cd)) Q E { s with heap := h', toks := tk' }) :
    wpAny (model PySem.Challenge.rw_wy0034_01.row.prog w) (callerA.deeper (envOfC (Str.ofString "law") sc L fa cd)) (execs (a11 :: rest) (envOfC (Str.ofString "law") sc L fa cd)) Q E s := by
  have e : turnAt w.params = some (_ :: _ :: _ :: _ :: _ :: _ :: _ :: _ :: _ :: _ :: _ :: _ :: _, _) := rfl
  cases hat.symm.trans e
  clear hat e
  obtain ⟨m0, rfl⟩ : ∃ m0, m = fun y => if y = Str.ofString "mover" then some (.int (sN : Int) tm) else if y = Str.ofString "word" then some (.str (S (wd ds)) tw) else if y = Str.ofString "book" then some (.ref B) else if y = Str.ofString "turn" then some (.int i ti) else m0 y := ⟨m, by funext y; (repeat' split) <;> simp_all⟩
  clear hmover hword hbook hturn
  have k3 : (i % 3).toNat < 3 := by omega
  have hv := tx_fineV hd (i % 3).toNat
  have hl := tx_len' hd (i % 3).toNat
  have cW : ∀ t1 t2 : Tok, ConF w 0 (call (.ref 216) [.str (S (wd ds)) t1, .int i t2]) [] (fun v own' => own' = [] ∧ ∃ t, v = .str (S (tx ds (i % 3).toNat)) t) := fun _ _ => Wr.wr hd
  rcases (show i % 2 = 0 ∨ i % 2 = 1 by omega) with hi | hi
  · rw [if_pos hi] at k
    have cS : ∀ t9 u9 : Tok, ConF w 2 (call (.ref 228) [.ref B, .str (S [97 + sN]) t9, .str (S (tx ds (i % 3).toNat)) u9]) (book w B D G T c x a b tD n)
      (fun v own' => v = .none ∧ ∃ Tn n', own' = book w B D G (upd3 T (τ sN) Tn) (upd3 c (τ sN) (97 + sN)) (upd3 x (τ sN) (tx ds (i % 3).toNat)) (upd3 a (τ sN) t9) (upd3 b (τ sN) u9) tD n') :=
      fun t9 u9 => St.store (w := w) (B := B) (D := D) (G := G) (T := T) (c := c) (x := x) (a := a) (b := b) (tD := tD) (n := n) hp hc ⟨h4, .inl rfl⟩ hv hl
    revert X
    k_fill
    intro X
    k_steps
    rename Apart _ led => D9
    rename News _ _ _ (_ ++ led) => N9
    rename Fr _ _ _ _ => F9
    exact k _ _ _ _ _ _ F9 D9 N9
  · rw [if_neg (by omega)] at k
    have cS : ∀ t9 u9 : Tok, ConF w 2 (call (.ref 228) [.ref B, .str (S [65 + sN]) t9, .str (S (tx ds (i % 3).toNat)) u9]) (book w B D G T c x a b tD n)
      (fun v own' => v = .none ∧ ∃ Tn n', own' = book w B D G (upd3 T (τ sN) Tn) (upd3 c (τ sN) (65 + sN)) (upd3 x (τ sN) (tx ds (i % 3).toNat)) (upd3 a (τ sN) t9) (upd3 b (τ sN) u9) tD n') :=
      fun t9 u9 => St.store (w := w) (B := B) (D := D) (G := G) (T := T) (c := c) (x := x) (a := a) (b := b) (tD := tD) (n := n) hp hc ⟨h4, .inr rfl⟩ hv hl
    revert X
    k_fill
    intro X
    k_steps
    rename Apart _ led => D9
    rename News _ _ _ (_ ++ led) => N9
    rename Fr _ _ _ _ => F9
    exact k _ _ _ _ _ _ F9 D9 N9

end Mine.S7
end
section
open PySem PySem.W PyProof.Rows PySem.Builtin.Int
open PyProof.Rows.LCg Mine.LC Mine.Bk PySem.Calls
namespace Mine.S8
theorem lines52 : True := by
  k_with_none
  w_top off
  k_with "execs cons" => (((try dsimp only); refine toks_any ?_; intro _))
  k_with "k_enter" => (case zzfresh => (refine' code_def ?zzk1 ?zzk2 ?zzk3 ?zzk4 ?zzk5 ?zzkA ?zzkF ?zzkK ?zzk6 ?zzk7 ?zzk8 ?zzk9 ?zzkB ?_ ?zzc2 ?zzc3 ?zzc4 ?zzc5; (case zzkA => exact rfl); (case zzkF => exact rfl); (case zzkK => first | exact rfl | assumption); (case zzk1 => k_asm); (case zzk2 => k_asm); (case zzk3 => k_asm); (case zzk4 => k_asm); (case zzk5 => k_asm); (case zzk6 => k_is); (case zzk7 => k_is); (case zzk8 => k_room); (case zzk9 => first | exact BindsTo.of_eq rfl | exact binds_K (by k_in) rfl (by k_is) rfl rfl rfl | (refine kp_binds (by k_in) ?_; exact fun _ => rfl) | fail "k_enter: no rule for these arguments"); (case zzc5 => decide); (case zzkB => exact locs rfl); (case zzc2 => exact rfl); (case zzc3 => exact rfl); (case zzc4 => exact rfl); k_whole; intro zzg' zzL' zzh' zzFG' zzF' zzN' zzB' zzX' zzT'; (try dsimp only); (try k_lift zzB'); (try k_fold)))
  k_with "k_enter" => (case zzfresh => (refine' code_defC ?zzk1 ?zzk2 ?zzk3 ?zzk4 ?zzk5 ?zzkA ?zzkF ?zzkK ?zzk6 ?zzk7 ?zzk8 ?zzk9 ?zzkB ?zzkD ?_ ?zzc2 ?zzc3 ?zzc4; (case zzkA => exact rfl); (case zzkF => exact rfl); (case zzkK => first | exact rfl | assumption); (case zzk1 => k_asm); (case zzk2 => k_asm); (case zzk3 => k_asm); (case zzk4 => k_asm); (case zzk5 => k_asm); (case zzk6 => k_is); (case zzk7 => k_is); (case zzk8 => k_room); (case zzk9 => first | exact BindsTo.of_eq rfl | exact binds_K (by k_in) rfl (by k_is) rfl rfl rfl | (refine kp_binds (by k_in) ?_; exact fun _ => rfl) | fail "k_enter: no rule for these arguments"); (case zzkB => exact rfl); (case zzkD => decide +kernel); (case zzc2 => exact rfl); (case zzc3 => exact rfl); (case zzc4 => exact rfl); k_whole; intro zzg' zzL' zzh' zztk' zzcells' zzFG' zzF' zzN' zzY' zzB' zzX' zzT' zzl1; (try k_lt zzl1); k_cells zzY'; (try simp only [List.cons_append, List.nil_append] at zzN'); (try dsimp only); (try k_lift zzB'); (try k_fold)))
  k_with "mine open" => ((refine wpAny_call ?_; k_dflt (first | k_enter | kc_enter)))
  k_with "mine open R" => (case zzfresh => (refine wpAny_call ?_; k_dflt (refine' code_defR ?zzk1 ?zzk2 ?zzk3 ?zzk4 ?zzkD ?zzk5 ?zzkA ?zzkF ?zzkK ?zzk6 ?zzk7 ?zzk8 ?zzk9 ?zzkB ?_ ?zzc2 ?zzc3 ?zzc4 ?zzc5; (case zzkA => exact rfl); (case zzkF => exact rfl); (case zzkK => first | exact rfl | assumption); (case zzk1 => k_asm); (case zzk2 => k_asm); (case zzk3 => k_asm); (case zzk4 => with_reducible assumption); (case zzkD => with_reducible assumption); (case zzk5 => k_asm); (case zzk6 => k_is); (case zzk7 => k_is); (case zzk8 => k_room); (case zzk9 => first | exact BindsTo.of_eq rfl | exact binds_K (by k_in) rfl (by k_is) rfl rfl rfl | (refine kp_binds (by k_in) ?_; exact fun _ => rfl) | fail "k_enter: no rule for these arguments"); (case zzc5 => decide); (case zzkB => exact locs rfl); (case zzc2 => exact rfl); (case zzc3 => exact rfl); (case zzc4 => exact rfl)); k_whole; intro zzg' zzL' zzh' zzFG' zzF' zzN' zzB' zzX' zzT' zzS'; (try dsimp only); (try k_lift zzB'); (try k_fold)))
  k_with "mine open CR" => (case zzfresh => (refine wpAny_call ?_; k_dflt (refine' code_defCR ?zzk1 ?zzk2 ?zzk3 ?zzk4 ?zzkR ?zzk5 ?zzkA ?zzkF ?zzkK ?zzk6 ?zzk7 ?zzk8 ?zzk9 ?zzkB ?zzkD ?_ ?zzc2 ?zzc3 ?zzc4; (case zzkA => exact rfl); (case zzkF => exact rfl); (case zzkK => first | exact rfl | assumption); (case zzk1 => k_asm); (case zzk2 => k_asm); (case zzk3 => k_asm); (case zzk4 => with_reducible assumption); (case zzkR => with_reducible assumption); (case zzk5 => k_asm); (case zzk6 => k_is); (case zzk7 => k_is); (case zzk8 => k_room); (case zzk9 => first | exact BindsTo.of_eq rfl | exact binds_K (by k_in) rfl (by k_is) rfl rfl rfl | (refine kp_binds (by k_in) ?_; exact fun _ => rfl) | fail "k_enter: no rule for these arguments"); (case zzkB => exact rfl); (case zzkD => decide +kernel); (case zzc2 => exact rfl); (case zzc3 => exact rfl); (case zzc4 => exact rfl)); k_whole; intro zzg' zzL' zzh' zztk' zzcells' zzFG' zzF' zzN' zzY' zzB' zzX' zzT' zzl1 zzS'; (try k_lt zzl1); k_cells zzY'; (try simp only [List.cons_append, List.nil_append] at zzN'); (try dsimp only); (try k_lift zzB'); (try k_fold)))
  k_with "mine open CR0" => (case zzfresh => (refine wpAny_call ?_; k_dflt (refine' code_defCR (own := []) ?zzk1 ?zzk2 ?zzk3 ?zzk4 ?zzkR ?zzk5 ?zzkA ?zzkF ?zzkK ?zzk6 ?zzk7 ?zzk8 ?zzk9 ?zzkB ?zzkD ?_ ?zzc2 ?zzc3 ?zzc4; (case zzkA => exact rfl); (case zzkF => exact rfl); (case zzkK => first | exact rfl | assumption); (case zzk1 => k_asm); (case zzk2 => k_asm); (case zzk3 => k_asm); (case zzk4 => k_asm); (case zzkR => exact Apart.zero); (case zzk5 => k_asm); (case zzk6 => k_is); (case zzk7 => k_is); (case zzk8 => k_room); (case zzk9 => first | exact BindsTo.of_eq rfl | exact binds_K (by k_in) rfl (by k_is) rfl rfl rfl | (refine kp_binds (by k_in) ?_; exact fun _ => rfl) | fail "k_enter: no rule for these arguments"); (case zzkB => exact rfl); (case zzkD => decide +kernel); (case zzc2 => exact rfl); (case zzc3 => exact rfl); (case zzc4 => exact rfl)); k_whole; intro zzg' zzL' zzh' zztk' zzcells' zzFG' zzF' zzN' zzY' zzB' zzX' zzT' zzl1 zzS'; clear zzl1; k_cells zzY'; (try simp only [List.cons_append, List.nil_append, List.append_nil] at zzN'); (try dsimp only); (try k_lift zzB'); (try k_fold)))
  k_with "mine open R0" => (case zzfresh => (refine wpAny_call ?_; k_dflt (refine' code_defR (own := []) ?zzk1 ?zzk2 ?zzk3 ?zzk4 ?zzkD ?zzk5 ?zzkA ?zzkF ?zzkK ?zzk6 ?zzk7 ?zzk8 ?zzk9 ?zzkB ?_ ?zzc2 ?zzc3 ?zzc4 ?zzc5; (case zzkA => exact rfl); (case zzkF => exact rfl); (case zzkK => first | exact rfl | assumption); (case zzk1 => k_asm); (case zzk2 => k_asm); (case zzk3 => k_asm); (case zzk4 => k_asm); (case zzkD => exact Apart.zero); (case zzk5 => k_asm); (case zzk6 => k_is); (case zzk7 => k_is); (case zzk8 => k_room); (case zzk9 => first | exact BindsTo.of_eq rfl | exact binds_K (by k_in) rfl (by k_is) rfl rfl rfl | (refine kp_binds (by k_in) ?_; exact fun _ => rfl) | fail "k_enter: no rule for these arguments"); (case zzc5 => decide); (case zzkB => exact locs rfl); (case zzc2 => exact rfl); (case zzc3 => exact rfl); (case zzc4 => exact rfl)); k_whole; intro zzg' zzL' zzh' zzFG' zzF' zzN' zzB' zzX' zzT' zzS'; (try dsimp only); (try k_lift zzB'); (try k_fold)))
  k_with "exec Assign cons ListComp" => ((k_here; (with_reducible show wpAny _ _ (exec (Stmt.Assign [Expr.Name _ _] (Expr.ListComp _ [Comprehension.mk (Expr.Name _ _) _ [] _] _ _) _) _) _ _ _); k_dflt (refine assign_M (F₀ := by k_asm) (by rfl) (by with_unfolding_all rfl) (by with_unfolding_all rfl) (by decide) (by rfl) (by decide) (by rfl) (by rfl) (by rfl) ?_)))
  k_with "exec Assign cons ListComp" => ((k_here; (with_reducible show wpAny _ _ (exec (Stmt.Assign [Expr.Name _ _] (Expr.ListComp _ [Comprehension.mk (Expr.Name _ _) _ [_] _] _ _) _) _) _ _ _); k_dflt (refine assign_MT (F₀ := by k_asm) (by rfl) (by with_unfolding_all rfl) (by with_unfolding_all rfl) (by decide) (by rfl) (by decide) (by rfl) (by rfl) (by rfl) ?_)))
  k_with "eval ListComp" => ((k_here; (with_reducible show wpAny _ _ (eval (Expr.ListComp _ [Comprehension.mk (Expr.Name _ _) _ [] _] _ _) _) _ _ _); k_dflt (refine comp_M (F₀ := by k_asm) (by with_unfolding_all rfl) (by decide) (by rfl) (by decide) (by rfl) ?_)))
  k_with "eval ListComp" => ((k_here; (with_reducible show wpAny _ _ (eval (Expr.ListComp _ [Comprehension.mk (Expr.Name _ _) _ [_] _] _ _) _) _ _ _); k_dflt (refine comp_MT (F₀ := by k_asm) (by with_unfolding_all rfl) (by decide) (by rfl) (by decide) (by rfl) ?_)))
  k_with "k_mem" => (first | with_reducible assumption | exact List.Mem.head _ | (refine' List.Mem.tail _ ?_; k_mem) | assumption)
  k_with "k_all" => (case zzfresh => first | with_reducible assumption | exact List.forall_mem_nil _ | (refine' List.forall_mem_cons.mpr ⟨?zza, ?zzb⟩; (case zza => k_ne); (case zzb => k_all)))
  k_with "mine sub" => (case zzfresh => first | with_reducible assumption | (intro zzq zzhq; exact List.mem_cons_of_mem _ (by revert zzq zzhq; walk_at "mine sub")))
  k_with "call ref" => (refine stop_here ?_)
  k_with "call ref" => (case zzfresh => (k_here; k_dflt (refine' ConF.useE (by with_reducible assumption) ?zzB ?zzF ?zzX ?zzN ?zzT ?zzhk ?zzhh ?zzhd ?zzhf ?zzhg ?zzhu ?_; (case zzhf => exact rfl); (case zzhk => exact rfl); (case zzhh => exact rfl); (case zzhg => exact rfl); (case zzF => k_asm); (case zzN => k_asm); (case zzB => k_asm); (case zzX => k_in); (case zzT => k_asm); (case zzhd => exact Nat.le_of_ble_eq_true rfl); (case zzhu => exact Nat.le_of_ble_eq_true rfl)); intro zzv' zzh' zztk' zzhpost' zzF' zzN'; k_dflt (obtain ⟨zzu1', zze1'⟩ := zzhpost'); subst zze1'))
  k_with "call builtin:len" => ((k_here; (with_reducible show wpAny _ _ (call (Value.builtin _) [Value.ref _]) _ _ _); k_dflt (refine len_is (News.isList (by k_asm) (by k_mem)) (by with_reducible assumption) (by omega) ?_); intro _ _))
  k_with "mine tail" => (first | with_reducible assumption | (refine List.mem_cons_of_mem _ ?_; walk_at "mine tail"))
  trivial
set_option maxRecDepth 100000 in
set_option maxHeartbeats 1000000 in
theorem seg8 {w : World} {h₀ : Heap} {L fa : Addr} {cd : Value} {p : Program} {loose : List Str} {mean : ExcName → Option Value} {mg mb : Str → Option Value} {sc : Scope} {m : Str → Option Value} {s : Shared}
    {Q : Flow → Shared → Prop} {E : Value → Shared → Prop} {a0 a1 a2 a3 a4 a5 a6 a7 a8 a9 a10 a11 a12 a13 : Stmt} (hat : turnAt w.params = some ([a0, a1, a2, a3, a4, a5, a6, a7, a8, a9, a10, a11, a12, a13], sc))
    (X : (Mine.hd.heap_39 w.params).In h₀) (B' : Below callerA h₀ [] h₀) (TT : Top p loose mean mg mb h₀)
    {Mv M : Addr} {vm : List Value} {nm : Nat} {z : Int} {tm : Tok} {oM : Obj} {led : Led}
    (F : Fr h₀ L s.heap m) (N : News h₀ L s.heap ((Mv, lstN vm nm) :: led)) (hn : ∀ q ∈ led, q.1 ≠ Mv)
    (hmover : m (Str.ofString "mover") = some (.int z tm)) (hmay : m (Str.ofString "may") = some (.ref M))
    (hoM : (L + 1 + 1 + 1 + 1 + 1 + 1, oM) ∈ led) (dM : oM.data = .cell (some (.ref Mv))) (hl : vm.length ≤ 100)
    (k : ∀ h' tk' nm', Fr h₀ L h' (fun y => if y = Str.ofString "before" then some (.ref M) else m y) → News h₀ L h' ((Mv, lstN (vm ++ [.int z tm]) nm') :: led) → Q .next { s with heap := h', toks := tk' }) :
    wpAny (model PySem.Challenge.rw_wy0034_01.row.prog w) (callerA.deeper (envOfC (Str.ofString "law") sc L fa cd)) (execs [a12, a13] (envOfC (Str.ofString "law") sc L fa cd)) Q E s := by
  have e : turnAt w.params = some ([_, _, _, _, _, _, _, _, _, _, _, _, _, _], _) := rfl
  cases hat.symm.trans e
  clear hat e
  obtain ⟨m0, rfl⟩ : ∃ m0, m = fun y => if y = Str.ofString "mover" then some (.int z tm) else if y = Str.ofString "may" then some (.ref M) else m0 y := ⟨m, by funext y; (repeat' split) <;> simp_all⟩
  clear hmover hmay
  revert X
  k_fill
  intro X
  k_steps
  rename News _ _ _ _ => N9
  have e9 : vm.toArray.push (Value.int z tm) = (vm ++ [Value.int z tm]).toArray := by simp
  rw [e9] at N9
  exact k _ _ _ (by assumption) N9

end Mine.S8
end
section
theorem Mine.resetPl2 : True := by
  k_with_none
  w_top off
  trivial
open PySem PySem.W
namespace Mine.Pl
open Mine.Bk Mine.My
def sgn (i s : Nat) : Nat := (if ((i : Nat) : Int) % 2 = 0 then 97 else 65) + s
def kdn (i : Nat) : Nat := (((i : Nat) : Int) % 3).toNat
theorem sgn_tit (i : Nat) {s : Nat} (h : s < 4) : Tit (sgn i s) s := ⟨h, by unfold sgn; split <;> lia⟩
theorem kdn_lt (i : Nat) : kdn i < 3 := by unfold kdn; lia
/-- what stands ahead of the turn `i` -/
structure St (base step c2 : Int) (i : Nat) (t : Tg) (σ τ c k : Nat → Nat) (ms bef : List Nat) : Prop where
  per : Per σ τ
  rng : Rng base t
  conv : conv base step (13 - i) t
  tit : ∀ j, j < 4 → Tit (c j) (σ j)
  k3 : ∀ j, j < 4 → k j < 3
  len : ms.length = i
  seats : ∀ q ∈ ms, q < 4
  last : ∀ pre q, ms = pre ++ [q] → (mayT t).filter (fun z => decide (z ≠ (q + 1) % 4)) = bef.filter (fun z => decide (z ≠ q) && decide (z ≠ (q + 1) % 4))
  befl : bef.length ≤ 4
  cnt : t 0 = (c2 + ((ms.count 0 : Nat) : Int) * step) % base
  nextp : 14 ≤ i → ∀ pre q, ms = pre ++ [q] → mayT t = [(q + 1) % 4]
  t3 : 14 ≤ i → ∀ pre q, ms = pre ++ [q] → q ≤ 2 → q + 14 ≤ i → t 3 = (c2 + (((ms.count 0 : Nat) : Int) - 1) * step) % base
  round : ∀ a, 13 ≤ a → a + 1 < i → ms.getD (a + 1) 0 = (ms.getD a 0 + 1) % 4
  order : ∀ b p, 13 + b < i → p + i = 17 + b → σ p = ms.getD (13 + b) 0 ∧ c p = sgn (13 + b) (ms.getD (13 + b) 0) ∧ k p = kdn (13 + b)
theorem snoc_inj {α : Type} {a b : List α} {x y : α} (h : a ++ [x] = b ++ [y]) : a = b ∧ x = y := by
  have := List.append_inj' h rfl
  exact ⟨this.1, by simpa using this.2⟩
theorem may_len (t : Tg) : (mayT t).length ≤ 4 := Nat.le_trans (List.length_filter_le ..) (by simp)
theorem may_nodup_filter {base step : Int} {t : Tg} (C : Cfg base step) (R : Rng base t) {s : Nat} (h : s ∈ mayT t) :
    (mayT (nxt base step t s)).filter (fun z => decide (z ≠ (s + 1) % 4)) = (mayT t).filter (fun z => decide (z ≠ s) && decide (z ≠ (s + 1) % 4)) := by
  have hs := seat_lt h
  have hm := C.move (R 3 (by decide)).1 (R 3 (by decide)).2
  unfold mayT
  rw [List.filter_filter, List.filter_filter]
  refine List.filter_congr fun j hj => ?_
  have hj4 : j < 4 := List.mem_range.mp hj
  have key : j ≠ (s + 1) % 4 → ((j ∈ mayT (nxt base step t s)) ↔ (j ∈ mayT t ∧ j ≠ s)) := by
    intro hne
    rcases cases4 hs with rfl | rfl | rfl | rfl
    · obtain ⟨e0, e1, e2, e3⟩ := nxt0 base step t
      rcases cases4 hj4 with rfl | rfl | rfl | rfl
      · rw [mem0, mem0, e0, e3]; simp; exact hm
      · exact absurd rfl hne
      · rw [mem2, mem2, e1, e2]; simp
      · rw [mem3, mem3, e2, e3]; simp
    · obtain ⟨e0, e1, e2, e3⟩ := nxt1 base step t
      rcases cases4 hj4 with rfl | rfl | rfl | rfl
      · rw [mem0, mem0, e0, e3]; simp
      · rw [mem1, mem1, e0, e1]; simp
      · exact absurd rfl hne
      · rw [mem3, mem3, e2, e3]; simp
    · obtain ⟨e0, e1, e2, e3⟩ := nxt2 base step t
      rcases cases4 hj4 with rfl | rfl | rfl | rfl
      · rw [mem0, mem0, e0, e3]; simp
      · rw [mem1, mem1, e0, e1]; simp
      · rw [mem2, mem2, e1, e2]; simp
      · exact absurd rfl hne
    · obtain ⟨e0, e1, e2, e3⟩ := nxt3 base step t
      rcases cases4 hj4 with rfl | rfl | rfl | rfl
      · exact absurd rfl hne
      · rw [mem1, mem1, e0, e1]; simp
      · rw [mem2, mem2, e1, e2]; simp
      · rw [mem3, mem3, e2, e3]; simp
  by_cases hne : j = (s + 1) % 4
  · simp [hne]
  · have k := key hne
    rw [mem_may, mem_may] at k
    rw [Bool.eq_iff_iff]
    simp only [Bool.and_eq_true, decide_eq_true_eq, beq_iff_eq, decide_eq_decide, ne_eq, hne, not_false_eq_true, and_true, true_and, hj4] at k ⊢
    rw [k]; exact and_comm
theorem getD_snoc {ms : List Nat} {s a : Nat} (h : a < ms.length) : (ms ++ [s]).getD a 0 = ms.getD a 0 := by
  simp [List.getD_eq_getElem?_getD, List.getElem?_append_left h]
theorem getD_last (ms : List Nat) (s : Nat) : (ms ++ [s]).getD ms.length 0 = s := by simp
theorem snoc_of {ms : List Nat} (h : 0 < ms.length) : ∃ pre q, ms = pre ++ [q] := by
  rcases List.eq_nil_or_concat ms with e | ⟨pre, q, e⟩
  · rw [e] at h; exact absurd h (by simp)
  · exact ⟨pre, q, by simpa using e⟩
theorem seat_of {ms : List Nat} (hs : ∀ q ∈ ms, q < 4) {j : Nat} (h : j < ms.length) : ms.getD j 0 < 4 := by
  have : ms.getD j 0 ∈ ms := by
    rw [List.getD_eq_getElem?_getD, List.getElem?_eq_getElem h]; simp
  exact hs _ this
theorem St.cyc {base step c2 : Int} {i : Nat} {t : Tg} {σ τ c k : Nat → Nat} {ms bef : List Nat} (H : St base step c2 i t σ τ c k ms bef) {b : Nat} (h : 13 + b < i) :
    ∀ d, 13 + b + d < i → ms.getD (13 + b + d) 0 = (ms.getD (13 + b) 0 + d) % 4 := by
  intro d
  induction d with
  | zero =>
    intro _
    rw [Nat.add_zero, Nat.add_zero]
    exact (Nat.mod_eq_of_lt (seat_of H.seats (by rw [H.len]; exact h))).symm
  | succ d ih =>
    intro hd
    have hd' : 13 + b + d < i := Nat.lt_of_succ_lt hd
    have h1 := H.round (13 + b + d) (Nat.le_trans (Nat.le_add_right 13 b) (Nat.le_add_right _ d)) hd
    rw [← Nat.add_assoc, h1, ih hd', Nat.mod_add_mod, Nat.add_assoc]
theorem St.behind {base step c2 : Int} {i : Nat} {t : Tg} {σ τ c k : Nat → Nat} {ms bef : List Nat} (H : St base step c2 i t σ τ c k ms bef) {s : Nat} (hl : mayT t = [s]) {b : Nat} (h : 13 + b < i) :
    s = (ms.getD (13 + b) 0 + (i - (13 + b))) % 4 := by
  have hlen := H.len
  obtain ⟨pre', q', e'⟩ := snoc_of (ms := ms) (by omega)
  have hn := H.nextp (by omega) pre' q' e'
  rw [hl] at hn
  have hs' : s = (q' + 1) % 4 := by simpa using hn
  have hq' : ms.getD (i - 1) 0 = q' := by
    have : pre'.length = i - 1 := by rw [e'] at hlen; simp at hlen; omega
    rw [← this, e']; exact getD_last _ _
  have hc := H.cyc h (i - 1 - (13 + b)) (by omega)
  rw [show 13 + b + (i - 1 - (13 + b)) = i - 1 by omega, hq'] at hc
  rw [hs', hc, Nat.mod_add_mod, Nat.add_assoc, show i - 1 - (13 + b) + 1 = i - (13 + b) by omega]
theorem off_by {q s d : Nat} (hq : q < 4) (d1 : 1 ≤ d) (d3 : d ≤ 3) (e : s = (q + d) % 4) : q ≠ s := by omega
theorem St.step {base step c2 : Int} {i : Nat} {t : Tg} {σ τ c k : Nat → Nat} {ms bef : List Nat} (C : Cfg base step) (H : St base step c2 i t σ τ c k ms bef) (hi : i < 17) {s : Nat} (hs : s ∈ mayT t) :
    St base step c2 (i + 1) (nxt base step t s) (upd3 σ (τ s) s) (fun s' => if s' = s then 3 else if τ s' < τ s then τ s' else τ s' - 1) (upd3 c (τ s) (sgn i s)) (upd3 k (τ s) (kdn i)) (ms ++ [s]) (mayT t) := by
  have h4 := seat_lt hs
  have hτ := H.per.t4 s h4
  have hsk : ∀ j, j < 3 → skip (τ s) j < 4 := fun j hj => by unfold skip; split <;> lia
  have hcnt : nxt base step t s 0 = (c2 + (((ms ++ [s]).count 0 : Nat) : Int) * step) % base := by
    rw [List.count_append]
    rcases Nat.eq_zero_or_pos s with rfl | h0
    · rw [(nxt0 base step t).1, ← mem0.mp hs, H.cnt]
      have e : (([0] : List Nat).count 0) = 1 := rfl
      rw [e, Int.emod_add_emod]
      congr 1
      push_cast
      rw [Int.add_mul]; lia
    · have e : ([s] : List Nat).count 0 = 0 := by
        rw [List.count_eq_zero]; simp; lia
      have : nxt base step t s 0 = t 0 := by unfold nxt; rw [if_neg (by lia)]
      rw [this, H.cnt, e]; rfl
  have legit : 13 ≤ i → mayT t = [s] := fun h => by
    have hc := H.conv
    rw [show 13 - i = 0 by lia] at hc
    exact one_of hc hs
  refine ⟨H.per.upd h4, H.rng.nxt C h4, ?_, ?_, ?_, by simp [H.len], ?_, ?_, may_len t, hcnt, ?_, ?_, ?_, ?_⟩
  · rcases Nat.lt_or_ge i 13 with h | h
    · have hc := H.conv
      rw [show 13 - i = (13 - (i + 1)) + 1 by lia] at hc
      exact hc s hs
    · rw [show 13 - (i + 1) = 0 by lia]
      show (mayT (nxt base step t s)).length ≤ 1
      rw [legit_next C H.rng (legit h)]; exact Nat.le_refl _
  · intro j hj
    unfold upd3
    split
    · exact H.tit _ (hsk j (by assumption))
    · exact sgn_tit i h4
  · intro j hj
    unfold upd3
    split
    · exact H.k3 _ (hsk j (by assumption))
    · exact kdn_lt i
  · intro q hq
    rcases List.mem_append.mp hq with h | h
    · exact H.seats q h
    · rw [List.mem_singleton.mp h]; exact h4
  · intro pre q e
    obtain ⟨_, rfl⟩ := snoc_inj e
    exact may_nodup_filter C H.rng hs
  · intro h14 pre q e
    obtain ⟨_, rfl⟩ := snoc_inj e
    exact legit_next C H.rng (legit (by lia))
  · intro h14 pre q e hq hqi
    obtain ⟨_, rfl⟩ := snoc_inj e
    have hl := legit (by lia)
    obtain ⟨k0, k1, k2, k3⟩ := only hl
    rcases Nat.eq_zero_or_pos s with rfl | h0
    · rw [(nxt0 base step t).2.2.2]
      have e3 : t 3 = t 0 := (k0.mpr rfl).symm
      rw [e3, H.cnt, List.count_append]
      congr 2
      have e : (([0] : List Nat).count 0) = 1 := rfl
      rw [e]; push_cast; congr 1; lia
    · have e3 : nxt base step t s 3 = t 3 := by unfold nxt; rw [if_neg (by lia)]
      have ec : (ms ++ [s]).count 0 = ms.count 0 := by
        rw [List.count_append]
        have : ([s] : List Nat).count 0 = 0 := by rw [List.count_eq_zero]; simp; lia
        lia
      rw [e3, ec]
      obtain ⟨pre', q', rfl⟩ := snoc_of (ms := ms) (by rw [H.len]; lia)
      have hn := H.nextp (by lia) pre' q' rfl
      rw [hl] at hn
      have hq4 := H.seats q' (by simp)
      have : s = (q' + 1) % 4 := by simpa using hn
      exact H.t3 (by lia) pre' q' rfl (by lia) (by lia)
  · intro a ha hai
    rcases Nat.lt_or_ge (a + 1) i with h | h
    · rw [getD_snoc (by rw [H.len]; exact h), getD_snoc (by rw [H.len]; lia)]
      exact H.round a ha h
    · have e : a + 1 = i := by lia
      have hl := legit (by lia)
      obtain ⟨pre', q', rfl⟩ := snoc_of (ms := ms) (by rw [H.len]; lia)
      have hn := H.nextp (by lia) pre' q' rfl
      rw [hl] at hn
      have hs' : s = (q' + 1) % 4 := by simpa using hn
      have hlen := H.len
      have e1 : ((pre' ++ [q']) ++ [s]).getD (a + 1) 0 = s := by
        rw [e, ← hlen]; exact getD_last _ _
      have e2 : ((pre' ++ [q']) ++ [s]).getD a 0 = q' := by
        rw [getD_snoc (by lia)]
        have : a = pre'.length := by simp at hlen; lia
        rw [this]; exact getD_last _ _
      rw [e1, e2, hs']
  · intro b p hb hp
    have hlen := H.len
    rcases Nat.lt_or_ge (13 + b) i with h | h
    · have hgt : (ms ++ [s]).getD (13 + b) 0 = ms.getD (13 + b) 0 := getD_snoc (by rw [hlen]; exact h)
      obtain ⟨o1, o2, o3⟩ := H.order b (p + 1) h (by lia)
      -- the mover's place lies ahead of the last places
      have hl := legit (by lia)
      have hne : σ (p + 1) ≠ s := by
        rw [o1]
        exact off_by (seat_of H.seats (by omega)) (by omega) (by omega) (H.behind hl h)
      have hτp : τ s < p + 1 := by
        -- places behind are the last movers'; the mover is none of them
        rcases Nat.lt_or_ge (τ s) (p + 1) with h' | h'
        · exact h'
        · exfalso
          have hplace : τ s ≠ p + 1 := fun e => hne (by rw [← e]; exact H.per.st s h4)
          have hτ4 : τ s < 4 := hτ
          have hb' : 13 + (b + (τ s - (p + 1))) < i := by omega
          obtain ⟨q1, _, _⟩ := H.order (b + (τ s - (p + 1))) (τ s) hb' (by omega)
          rw [H.per.st s h4] at q1
          have hc := H.behind hl hb'
          rw [← q1] at hc
          exact off_by h4 (by omega) (by omega) hc rfl
      have hsk1 : skip (τ s) p = p + 1 := by unfold skip; rw [if_neg (by lia)]
      have hp3 : p < 3 := by lia
      rw [hgt]
      unfold upd3
      rw [if_pos hp3, if_pos hp3, if_pos hp3, hsk1]
      exact ⟨o1, o2, o3⟩
    · have e : 13 + b = i := by lia
      have hp3 : p = 3 := by lia
      rw [e, ← hlen, getD_last, hlen]
      unfold upd3
      rw [if_neg (by lia), if_neg (by lia), if_neg (by lia)]
      exact ⟨rfl, rfl, rfl⟩
/-- the end: what the last four turns have left -/
theorem St.fin {base step c2 : Int} {t : Tg} {σ τ c k : Nat → Nat} {ms bef : List Nat} (H : St base step c2 17 t σ τ c k ms bef) {b : Nat} (hb : b < 4) :
    σ b = ms.getD (13 + b) 0 ∧ c b = sgn (13 + b) (ms.getD (13 + b) 0) ∧ k b = kdn (13 + b) ∧ ms.getD (13 + b) 0 < 4 ∧
      t (ms.getD (13 + b) 0) = (c2 + (if ms.getD (13 + b) 0 ≤ ms.getD 16 0 then ((ms.count 0 : Nat) : Int) else ((ms.count 0 : Nat) : Int) - 1) * step) % base := by
  obtain ⟨o1, o2, o3⟩ := H.order b b (by lia) (by lia)
  have hlen := H.len
  have h4 : ∀ a, a < 17 → ms.getD a 0 < 4 := fun a ha => by
    have : ms.getD a 0 ∈ ms := by
      rw [List.getD_eq_getElem?_getD, List.getElem?_eq_getElem (by rw [hlen]; exact ha)]; simp
    exact H.seats _ this
  refine ⟨o1, o2, o3, h4 _ (by lia), ?_⟩
  obtain ⟨pre', q', e'⟩ := snoc_of (ms := ms) (by rw [hlen]; lia)
  have hq' : ms.getD 16 0 = q' := by
    have : pre'.length = 16 := by rw [e'] at hlen; simp at hlen; lia
    rw [← this, e']; exact getD_last _ _
  have hn := H.nextp (by lia) pre' q' e'
  have hq4 : q' < 4 := by rw [← hq']; exact h4 16 (by lia)
  obtain ⟨k0, k1, k2, k3⟩ := only hn
  rw [hq']
  have hj := h4 (13 + b) (by lia)
  generalize ms.getD (13 + b) 0 = j at hj
  have hc := H.cnt
  by_cases hle : j ≤ q'
  · rw [if_pos hle]
    rw [← hc]
    rcases cases4 hj with rfl | rfl | rfl | rfl <;> lia
  · rw [if_neg hle]
    rw [← H.t3 (by lia) pre' q' e' (by lia) (by lia)]
    rcases cases4 hj with rfl | rfl | rfl | rfl <;> lia
end Mine.Pl
end
section
theorem Mine.resetTu : True := by
  k_with_none
  w_top off
  trivial
open PySem PySem.Spec PySem.Calls PySem.W PyProof.Rows PyProof.Rows.LCg
namespace Mine
open Mine.Bk Mine.Pl
/-- kinds of objects: cells, tables, lists, the rest -/
def ty (o : Obj) : Nat := match o.data with
  | .cell _ => 1
  | .fields _ => 2
  | .seq _ _ => (match o.cls with | .type c => (if c = "list" then 3 else 5) | _ => 6)
  | _ => 7
theorem ne_ty {g h : Heap} {L : Addr} {l : Led} {p q : Addr × Obj} (N : News g L h l) (h1 : p ∈ l) (h2 : q ∈ l) (hk : ty p.2 ≠ ty q.2) : p.1 ≠ q.1 := fun e => by
  have := (N p h1).1
  rw [e, (N q h2).1] at this
  exact hk (by rw [Option.some.inj this])
theorem ty_list (vs : List Value) (n : Nat) : ty (lstN vs n) = 3 := rfl
theorem ty_book {w : World} {B D G : Addr} {T : Nat → Addr} {c : Nat → Nat} {x : Nat → List Nat} {a b : Nat → Tok} {tD : Tok} {n : Nat} : ∀ q ∈ book w B D G T c x a b tD n, q.1 = G ∨ 4 ≤ ty q.2 := by
  intro q hq
  rcases List.mem_cons.mp hq with e | hq
  · rw [e]; exact .inr (by show 4 ≤ 7; decide)
  rcases List.mem_cons.mp hq with e | hq
  · rw [e]; exact .inr (by show 4 ≤ 7; decide)
  rcases List.mem_cons.mp hq with e | hq
  · rw [e]; exact .inl rfl
  rcases List.mem_cons.mp hq with e | hq
  · rw [e]; exact .inr (by show 4 ≤ 5; decide)
  rcases List.mem_cons.mp hq with e | hq
  · rw [e]; exact .inr (by show 4 ≤ 5; decide)
  rcases List.mem_cons.mp hq with e | hq
  · rw [e]; exact .inr (by show 4 ≤ 5; decide)
  rcases List.mem_cons.mp hq with e | hq
  · rw [e]; exact .inr (by show 4 ≤ 5; decide)
  · cases hq
theorem ty_tabs {tabs : Led} (T : Dig.Tab tabs) : ∀ q ∈ tabs, ty q.2 = 2 := by
  intro q hq
  cases T with
  | empty => rw [List.mem_singleton.mp hq]; rfl
  | full d1 d2 he =>
    rcases List.mem_cons.mp hq with e | hq
    · rw [e]; rfl
    · rw [List.mem_singleton.mp hq]; unfold ty; rw [d1]
theorem ty_cell {o : Obj} {v : Option Value} (h : o.data = .cell v) : ty o = 1 := by unfold ty; rw [h]
theorem dval_dg {v : Int} (h0 : 0 ≤ v) (h1 : v < 4096) : Dig.dval (((dg v.toNat).map fun d : Nat => (d : Int)).reverse) = v := by
  have e : v = ((v.toNat : Nat) : Int) := (Int.toNat_of_nonneg h0).symm
  generalize v.toNat = n at e
  subst e
  have hn : n < 4096 := by lia
  unfold dg
  by_cases h2 : 256 ≤ n
  · rw [if_pos h2, if_pos (by lia), if_pos (by lia)]; simp [Dig.dval]; lia
  · by_cases h3 : 16 ≤ n
    · rw [if_neg h2, if_pos h3, if_pos (by lia)]; simp [Dig.dval]; lia
    · by_cases h4 : 1 ≤ n
      · rw [if_neg h2, if_neg h3, if_pos h4]; simp [Dig.dval]; lia
      · rw [if_neg h2, if_neg h3, if_neg h4]; simp [Dig.dval]; lia
theorem dg_inj {a b : Int} (a0 : 0 ≤ a) (a1 : a < 4096) (b0 : 0 ≤ b) (b1 : b < 4096) (h : dg a.toNat = dg b.toNat) : a = b := by
  rw [← dval_dg a0 a1, ← dval_dg b0 b1, h]
theorem may_dg {base : Int} {t : Tg} (R : Rng base t) (hb : base ≤ 1801) : My.mayN (fun j => dg (t j).toNat) = mayT t := by
  unfold My.mayN mayT
  refine List.filter_congr fun j hj => ?_
  have h1 := R j (List.mem_range.mp hj)
  have h2 := R ((j + 3) % 4) (Nat.mod_lt _ (by decide))
  congr 1
  refine decide_eq_decide.mpr ⟨fun e => dg_inj h1.1 (by lia) h2.1 (by lia) e, fun e => congrArg (fun z : Int => dg z.toNat) e⟩
theorem ints_snoc {vs : List Value} {ns : List Int} {n : Int} (h : IntsAre vs (ns ++ [n])) : ∃ pre t, vs = pre ++ [.int n t] ∧ IntsAre pre ns := by
  induction ns generalizing vs with
  | nil => cases h with | cons _ t r => cases r; exact ⟨[], t, rfl, .nil⟩
  | cons m ns ih =>
    cases h with
    | cons _ t r =>
      obtain ⟨pre, t', e, h⟩ := ih r
      exact ⟨.int m t :: pre, t', by rw [e]; rfl, .cons m t h⟩
theorem ints_push {vs : List Value} {ns : List Int} (h : IntsAre vs ns) (n : Int) (t : Tok) : IntsAre (vs ++ [.int n t]) (ns ++ [n]) := by
  induction h with
  | nil => exact .cons n t .nil
  | cons m u _ ih => exact .cons m u ih
theorem map_snoc (ms : List Nat) (q : Nat) : (ms ++ [q]).map (fun j : Nat => (j : Int)) = ms.map (fun j : Nat => (j : Int)) ++ [(q : Int)] := by simp
theorem filt1 (l : List Nat) (q : Nat) : (l.map fun j : Nat => (j : Int)).filter (fun z : Int => decide (z ≠ (((q + 1) % 4 : Nat) : Int))) = (l.filter fun z => decide (z ≠ (q + 1) % 4)).map fun j : Nat => (j : Int) := by
  rw [List.filter_map]
  congr 1
  refine List.filter_congr fun j _ => ?_
  exact decide_eq_decide.mpr (by simp only [ne_eq]; lia)
theorem filt2 (l : List Nat) (q : Nat) : (l.map fun j : Nat => (j : Int)).filter (fun z : Int => decide (z ≠ (q : Int)) && decide (z ≠ (((q + 1) % 4 : Nat) : Int))) = (l.filter fun z => decide (z ≠ q) && decide (z ≠ (q + 1) % 4)).map fun j : Nat => (j : Int) := by
  rw [List.filter_map]
  congr 1
  refine List.filter_congr fun j _ => ?_
  show (decide ((j : Int) ≠ (q : Int)) && decide ((j : Int) ≠ (((q + 1) % 4 : Nat) : Int))) = _
  congr 1
  · exact decide_eq_decide.mpr (by simp only [ne_eq]; lia)
  · exact decide_eq_decide.mpr (by simp only [ne_eq]; lia)
/-- names that stay through the loop -/
structure FrmOk (unit below : Int) (Fa G B Bf : Addr) (m : Str → Option Value) : Prop where
  un : ∃ t, m (Str.ofString "unit") = some (.int unit t)
  be : ∃ t, m (Str.ofString "below") = some (.int below t)
  fa : m (Str.ofString "fars") = some (.ref Fa)
  gi : m (Str.ofString "given") = some (.ref G)
  bo : m (Str.ofString "book") = some (.ref B)
  bf : m (Str.ofString "before") = some (.ref Bf)
/-- what stays through the loop -/
inductive Vc (c2 : Int) (vc : List Value) : Prop
  | mk (c0 c1 c3 c4 c5 c6 : Int) (v0 v1 v2 v3 v4 v5 v6 : Tok) (e : vc = [.int c0 v0, .int c1 v1, .int c2 v2, .int c3 v3, .int c4 v4, .int c5 v5, .int c6 v6]) : Vc c2 vc
structure Cst (oM oS oB oC : Obj) (base step unit far0 gr below c2 : Int) (G Mv Ce Fa : Addr) (vc vf : List Value) : Prop where
  dM : oM.data = .cell (some (.ref Mv))
  dS : ∃ t, oS.data = .cell (some (.int step t))
  dB : ∃ t, oB.data = .cell (some (.int base t))
  dC : oC.data = .cell (some (.ref Ce))
  vc : Vc c2 vc
  vf : ∃ w0 w1, vf = [.int far0 w0, .int gr w1]
  cfg : Cfg base step
  ex : ∃ x : Nat, unit = 3 ^ x ∧ 2600 ≤ x ∧ x ≤ 2899
  b0 : 0 ≤ below
  b1 : below < unit
  f0 : 0 ≤ far0
  f1 : far0 ≤ gr
  g1 : gr = 2 ^ (Builtin.Int.intBits (base * unit)) - 2
  nGM : G ≠ Mv
  nGC : G ≠ Ce
  nGF : G ≠ Fa
  nMC : Mv ≠ Ce
  nMF : Mv ≠ Fa
abbrev oth (L : Addr) (oM oS oB oC : Obj) (Bf Ce Fa : Addr) (vb vc vf : List Value) (nb nc nf : Nat) : Led :=
  [(L + 1 + 1 + 1 + 1 + 1 + 1, oM), (L + 1 + 1 + 1 + 1, oS), (L + 1 + 1 + 1, oB), (L + 1 + 1, oC), (Bf, lstN vb nb), (Ce, lstN vc nc), (Fa, lstN vf nf)]
/-- the ledger between the turns -/
def ledT (w : World) (L : Addr) (B D G Mv Bf Ce Fa : Addr) (oR oM oS oB oC : Obj) (vm vb vc vf : List Value) (nm nb nc nf : Nat) (T : Nat → Addr) (c : Nat → Nat) (x : Nat → List Nat) (a b : Nat → Tok) (tD : Tok) (n : Nat) (tabs : Led) : Led :=
  (L + 1 + 1 + 1 + 1 + 1 + 1 + 1, oR) :: (Mv, lstN vm nm) :: (oth L oM oS oB oC Bf Ce Fa vb vc vf nb nc nf ++ (book w B D G T c x a b tD n ++ tabs))
inductive J (w : World) (L B D G Mv Ce Fa : Addr) (oM oS oB oC : Obj) (base step unit below c2 : Int) (vc vf : List Value) (nc nf : Nat) (tD : Tok) (i : Nat) (m : Str → Option Value) (led : Led) : Prop
  | mk (T : Nat → Addr) (c : Nat → Nat) (x : Nat → List Nat) (a b : Nat → Tok) (n : Nat) (oR : Obj) (vR : Option Value) (vm : List Value) (nm : Nat) (Bf : Addr) (vb : List Value) (nb : Nat) (tabs : Led) (t : Tg) (σ τ k : Nat → Nat) (ms bef : List Nat)
    (e : led = ledT w L B D G Mv Bf Ce Fa oR oM oS oB oC vm vb vc vf nm nb nc nf T c x a b tD n tabs) (FO : FrmOk unit below Fa G B Bf m) (dR : oR.data = .cell vR)
    (hvm : IntsAre vm (ms.map fun j : Nat => (j : Int))) (hvb : IntsAre vb (bef.map fun j : Nat => (j : Int))) (hT : Dig.Tab tabs) (nGB : G ≠ Bf) (nMB : Mv ≠ Bf) (hS : St base step c2 i t σ τ c k ms bef) (hx : ∀ j, j < 4 → x j = tx (dg (t (σ j)).toNat) (k j)) :
    J w L B D G Mv Ce Fa oM oS oB oC base step unit below c2 vc vf nc nf tD i m led
theorem x_step {base step : Int} {t : Tg} {σ τ k : Nat → Nat} {x : Nat → List Nat} {s kd : Nat} (P : Per σ τ) (h4 : s < 4) (hx : ∀ j, j < 4 → x j = tx (dg (t (σ j)).toNat) (k j)) :
    ∀ j, j < 4 → upd3 x (τ s) (tx (dg (nxt base step t s s).toNat) kd) j = tx (dg (nxt base step t s (upd3 σ (τ s) s j)).toNat) (upd3 k (τ s) kd j) := by
  intro j hj
  unfold upd3
  by_cases h : j < 3
  · rw [if_pos h, if_pos h, if_pos h]
    have hk : skip (τ s) j < 4 := by unfold skip; split <;> lia
    have ne : skip (τ s) j ≠ τ s := by unfold skip; split <;> lia
    have hσ : σ (skip (τ s) j) ≠ s := fun q => ne ((P.ts _ hk).symm.trans (congrArg τ q))
    have e : nxt base step t s (σ (skip (τ s) j)) = t (σ (skip (τ s) j)) := by unfold nxt; rw [if_neg hσ]
    rw [e, hx _ hk]
  · rw [if_neg h, if_neg h, if_neg h]
end Mine
end
section
theorem Mine.resetTu2 : True := by
  k_with_none
  w_top off
  trivial
open PySem PySem.Spec PySem.Calls PySem.W PyProof.Rows PyProof.Rows.LCg
namespace Mine
open Mine.Bk Mine.Pl
theorem ty_book' {w : World} {B D G : Addr} {T : Nat → Addr} {c : Nat → Nat} {x : Nat → List Nat} {a b : Nat → Tok} {tD : Tok} {n : Nat} : ∀ q ∈ book w B D G T c x a b tD n, (q.1 = G ∧ ty q.2 = 3) ∨ 4 ≤ ty q.2 := by
  intro q hq
  rcases List.mem_cons.mp hq with e | hq
  · rw [e]; exact .inr (by show 4 ≤ 7; decide)
  rcases List.mem_cons.mp hq with e | hq
  · rw [e]; exact .inr (by show 4 ≤ 7; decide)
  rcases List.mem_cons.mp hq with e | hq
  · rw [e]; exact .inl ⟨rfl, rfl⟩
  rcases List.mem_cons.mp hq with e | hq
  · rw [e]; exact .inr (by show 4 ≤ 5; decide)
  rcases List.mem_cons.mp hq with e | hq
  · rw [e]; exact .inr (by show 4 ≤ 5; decide)
  rcases List.mem_cons.mp hq with e | hq
  · rw [e]; exact .inr (by show 4 ≤ 5; decide)
  rcases List.mem_cons.mp hq with e | hq
  · rw [e]; exact .inr (by show 4 ≤ 5; decide)
  · cases hq
theorem ty_oth {L : Addr} {oM oS oB oC : Obj} {Bf Ce Fa : Addr} {vb vc vf : List Value} {nb nc nf : Nat} (tM : ty oM = 1) (tS : ty oS = 1) (tB : ty oB = 1) (tC : ty oC = 1) :
    ∀ q ∈ oth L oM oS oB oC Bf Ce Fa vb vc vf nb nc nf, (ty q.2 = 1 ∧ q.1 ≠ L + 1 + 1 + 1 + 1 + 1 + 1 + 1) ∨ (ty q.2 = 3 ∧ (q.1 = Bf ∨ q.1 = Ce ∨ q.1 = Fa)) := by
  intro q hq
  rcases List.mem_cons.mp hq with e | hq
  · rw [e]; exact .inl ⟨tM, Nat.ne_of_lt (by lia)⟩
  rcases List.mem_cons.mp hq with e | hq
  · rw [e]; exact .inl ⟨tS, Nat.ne_of_lt (by lia)⟩
  rcases List.mem_cons.mp hq with e | hq
  · rw [e]; exact .inl ⟨tB, Nat.ne_of_lt (by lia)⟩
  rcases List.mem_cons.mp hq with e | hq
  · rw [e]; exact .inl ⟨tC, Nat.ne_of_lt (by lia)⟩
  rcases List.mem_cons.mp hq with e | hq
  · rw [e]; exact .inr ⟨rfl, .inl rfl⟩
  rcases List.mem_cons.mp hq with e | hq
  · rw [e]; exact .inr ⟨rfl, .inr (.inl rfl)⟩
  rcases List.mem_cons.mp hq with e | hq
  · rw [e]; exact .inr ⟨rfl, .inr (.inr rfl)⟩
  · cases hq
theorem FrmOk.skip {unit below : Int} {Fa G B Bf : Addr} {m : Str → Option Value} (H : FrmOk unit below Fa G B Bf m) {y : Str} {v : Option Value}
    (h1 : Str.ofString "unit" ≠ y) (h2 : Str.ofString "below" ≠ y) (h3 : Str.ofString "fars" ≠ y) (h4 : Str.ofString "given" ≠ y) (h5 : Str.ofString "book" ≠ y) (h6 : Str.ofString "before" ≠ y) :
    FrmOk unit below Fa G B Bf (fun z => if z = y then v else m z) := by
  obtain ⟨⟨t1, e1⟩, ⟨t2, e2⟩, e3, e4, e5, e6⟩ := H
  exact ⟨⟨t1, by rw [if_neg h1]; exact e1⟩, ⟨t2, by rw [if_neg h2]; exact e2⟩, by rw [if_neg h3]; exact e3, by rw [if_neg h4]; exact e4, by rw [if_neg h5]; exact e5, by rw [if_neg h6]; exact e6⟩
theorem FrmOk.before {unit below : Int} {Fa G B Bf M : Addr} {m : Str → Option Value} (H : FrmOk unit below Fa G B Bf m) :
    FrmOk unit below Fa G B M (fun z => if z = Str.ofString "before" then some (.ref M) else m z) := by
  obtain ⟨⟨t1, e1⟩, ⟨t2, e2⟩, e3, e4, e5, e6⟩ := H
  exact ⟨⟨t1, by rw [if_neg (by decide)]; exact e1⟩, ⟨t2, by rw [if_neg (by decide)]; exact e2⟩, by rw [if_neg (by decide)]; exact e3, by rw [if_neg (by decide)]; exact e4, by rw [if_neg (by decide)]; exact e5, by rw [if_pos rfl]⟩
theorem at_skip {m : Str → Option Value} {x y : Str} {v r : Option Value} (h : x ≠ y) (hm : m x = r) : (fun z => if z = y then v else m z) x = r := by
  show (if x = y then v else m x) = r
  rw [if_neg h]; exact hm
theorem at_hit {m : Str → Option Value} {y : Str} {v : Option Value} : (fun z => if z = y then v else m z) y = v := if_pos rfl
set_option maxHeartbeats 4000000 in
set_option maxRecDepth 100000 in
theorem turn {w : World} {h₀ : Heap} {L fa : Addr} {cd : Value} {p : Program} {loose : List Str} {mean : ExcName → Option Value} {mg mb : Str → Option Value} {sc : Scope} {m : Str → Option Value} {s : Shared}
    {Q : Flow → Shared → Prop} {E : Value → Shared → Prop} {a0 a1 a2 a3 a4 a5 a6 a7 a8 a9 a10 a11 a12 a13 : Stmt} (hat : turnAt w.params = some ([a0, a1, a2, a3, a4, a5, a6, a7, a8, a9, a10, a11, a12, a13], sc))
    (X : (Mine.hd.heap_39 w.params).In h₀) (B' : Below callerA h₀ [] h₀) (TT : Top p loose mean mg mb h₀)
    {B D G Mv Ce Fa I : Addr} {oM oS oB oC it : Obj} {base step unit far0 gr below c2 : Int} {vc vf : List Value} {nc nf : Nat} {tD ti : Tok} {i : Nat} {led : Led}
    (cst : Cst oM oS oB oC base step unit far0 gr below c2 G Mv Ce Fa vc vf) (hi : i < 17) (hJ : J w L B D G Mv Ce Fa oM oS oB oC base step unit below c2 vc vf nc nf tD i m led)
    (hty : ty it = 2) (hI : ∀ q ∈ led, q.1 ≠ I)
    (F : Fr h₀ L s.heap (fun y => if y = Str.ofString "turn" then some (.int ((i : Nat) : Int) ti) else m y)) (N : News h₀ L s.heap ((I, it) :: led))
    (k : ∀ h' tk' m' led', Fr h₀ L h' m' → News h₀ L h' ((I, it) :: led') → (∀ q ∈ led', q.1 ≠ I) → J w L B D G Mv Ce Fa oM oS oB oC base step unit below c2 vc vf nc nf tD (i + 1) m' led' → Q .next { s with heap := h', toks := tk' }) :
    wpAny (model PySem.Challenge.rw_wy0034_01.row.prog w) (callerA.deeper (envOfC (Str.ofString "law") sc L fa cd)) (execs [a0, a1, a2, a3, a4, a5, a6, a7, a8, a9, a10, a11, a12, a13] (envOfC (Str.ofString "law") sc L fa cd)) Q E s := by
  obtain ⟨T, c, x, a, b, n, oR, vR, vm, nm, Bf, vb, nb, tabs, t, σ, τ, kk, ms, bef, rfl, FO, dR, hvm, hvb, hT, nGB, nMB, hS, hx⟩ := hJ
  obtain ⟨c0, c1, c3, c4, c5, c6, v0, v1, v2, v3, v4, v5, v6, rfl⟩ := cst.vc
  obtain ⟨w0, w1, rfl⟩ := cst.vf
  have C := cst.cfg
  have R := hS.rng
  have hb' := C.b1801
  have tM := ty_cell cst.dM
  have tS := (by obtain ⟨_, e⟩ := cst.dS; exact ty_cell e : ty oS = 1)
  have tB := (by obtain ⟨_, e⟩ := cst.dB; exact ty_cell e : ty oB = 1)
  have tC := ty_cell cst.dC
  unfold ledT at N hI
  -- pieces of the ledger by their names
  have tyO := ty_oth (L := L) (Bf := Bf) (Ce := Ce) (Fa := Fa) (vb := vb) (vc := [.int c0 v0, .int c1 v1, .int c2 v2, .int c3 v3, .int c4 v4, .int c5 v5, .int c6 v6]) (vf := [.int far0 w0, .int gr w1]) (nb := nb) (nc := nc) (nf := nf) tM tS tB tC
  obtain ⟨O, hO⟩ : ∃ O, O = oth L oM oS oB oC Bf Ce Fa vb [.int c0 v0, .int c1 v1, .int c2 v2, .int c3 v3, .int c4 v4, .int c5 v5, .int c6 v6] [.int far0 w0, .int gr w1] nb nc nf := ⟨_, rfl⟩
  rw [← hO] at N hI tyO
  have oMm : (L + 1 + 1 + 1 + 1 + 1 + 1, oM) ∈ O := by rw [hO]; exact .head _
  have oSm : (L + 1 + 1 + 1 + 1, oS) ∈ O := by rw [hO]; exact .tail _ (.head _)
  have oBm : (L + 1 + 1 + 1, oB) ∈ O := by rw [hO]; exact .tail _ (.tail _ (.head _))
  have oCm : (L + 1 + 1, oC) ∈ O := by rw [hO]; exact .tail _ (.tail _ (.tail _ (.head _)))
  have Bfm : (Bf, lstN vb nb) ∈ O := by rw [hO]; exact .tail _ (.tail _ (.tail _ (.tail _ (.head _))))
  have Cem : (Ce, lstN [.int c0 v0, .int c1 v1, .int c2 v2, .int c3 v3, .int c4 v4, .int c5 v5, .int c6 v6] nc) ∈ O := by rw [hO]; exact .tail _ (.tail _ (.tail _ (.tail _ (.tail _ (.head _)))))
  have Fam : (Fa, lstN [.int far0 w0, .int gr w1] nf) ∈ O := by rw [hO]; exact .tail _ (.tail _ (.tail _ (.tail _ (.tail _ (.tail _ (.head _))))))
  clear hO
  have tyB := ty_book' (w := w) (B := B) (D := D) (G := G) (T := T) (c := c) (x := x) (a := a) (b := b) (tD := tD) (n := n)
  have Gm : (G, lstN [.ref (T 0), .ref (T 1), .ref (T 2), .ref (T 3)] n) ∈ book w B D G T c x a b tD n := .tail _ (.tail _ (.head _))
  obtain ⟨Bk, hBk⟩ : ∃ l, l = book w B D G T c x a b tD n := ⟨_, rfl⟩
  rw [← hBk] at N hI tyB Gm
  have hx' : ∀ i, i < 4 → x (τ i) = tx (dg (t i).toNat) (kk (τ i)) := fun i hi => by rw [hx _ (hS.per.t4 i hi), hS.per.st i hi]
  refine S1.seg1 (w := w) (B := B) (D := D) (G := G) (T := T) (c := c) (x := x) (a := a) (b := b) (tD := tD) (n := n) (σ := σ) (τ := τ) (d := fun j => dg (t j).toNat) (kk := fun j => kk (τ j)) hat X B' TT F N (at_skip (by decide) FO.bo)
    (fun q hq => by rw [← hBk] at hq; exact .tail _ (.tail _ (.tail _ (List.mem_append_right _ (List.mem_append_left _ hq))))) hS.per hS.tit hx' (fun j _ => dg_ok _) (fun j hj => hS.k3 _ (hS.per.t4 j hj)) ?_
  intro h1 tk1 Rr M ys u0 u1 u2 u3 F1 N1 hM1 hI1
  rw [may_dg R hb'] at hI1
  have hyl : ys.length = (mayT t).length := by simpa using hI1.length
  have hml := may_len t
  have hmp : 0 < (mayT t).length := List.length_pos_iff.mpr (may_ne t)
  refine S2.seg2 (ln := ((mayT t).length : Int)) hat X B' TT F1 N1 rfl rfl (.head _) (by lia) (fun h => ?_) (by lia) ?_
  · have hc := hS.conv
    rw [show 13 - i = 0 by lia] at hc
    have : (mayT t).length ≤ 1 := hc
    lia
  intro h2 tk2 F2 N2
  have nGM : G ≠ M := hM1 _ (.tail _ (.tail _ (.tail _ (List.mem_append_right _ (List.mem_append_left _ Gm)))))
  have nMM : Mv ≠ M := hM1 (Mv, _) (.tail _ (.tail _ (.head _)))
  have kM := hS.k3
  -- from the mover on
  have cont3 : ∀ h3 tk3 oR3 vR3, oR3.data = Data.cell vR3 → Fr h₀ L h3 (fun y => if y = Str.ofString "may" then some (.ref M) else if y = Str.ofString "texts" then some (.ref Rr) else if y = Str.ofString "turn" then some (.int ((i : Nat) : Int) ti) else m y) →
      News h₀ L h3 ((L + 1 + 1 + 1 + 1 + 1 + 1 + 1, oR3) :: (M, lst ys) :: (Rr, lst [Value.str (S (tx (dg (t 0).toNat) (kk (τ 0)))) u0, .str (S (tx (dg (t 1).toNat) (kk (τ 1)))) u1, .str (S (tx (dg (t 2).toNat) (kk (τ 2)))) u2, .str (S (tx (dg (t 3).toNat) (kk (τ 3)))) u3]) :: (I, it) :: (Mv, lstN vm nm) :: (O ++ (Bk ++ tabs))) →
      wpAny (model PySem.Challenge.rw_wy0034_01.row.prog w) (callerA.deeper (envOfC (Str.ofString "law") sc L fa cd)) (execs [a4, a5, a6, a7, a8, a9, a10, a11, a12, a13] (envOfC (Str.ofString "law") sc L fa cd)) Q E { s with heap := h3, toks := tk3 } := by
    intro h3 tk3 oR3 vR3 dR3 F3 N3
    refine S4.seg4a (ms := mayT t) (ln := ((mayT t).length : Int)) hat X B' TT F3 N3 rfl rfl (.tail _ (.head _)) (.tail _ (.tail _ (.tail _ (.tail _ (.tail _ (List.mem_append_left _ oCm)))))) cst.dC (.tail _ (.tail _ (.tail _ (.tail _ (.tail _ (List.mem_append_left _ Cem)))))) hI1 (by lia) (by lia) (by lia) (by lia) (by lia) ?_
    intro h4 tk4 sN tm hsN F4 N4
    have s4 := seat_lt hsN
    refine S4.seg4b (w := w) (B := B) (D := D) (G := G) (T := T) (c := c) (x := x) (a := a) (b := b) (tD := tD) (n := n) (σ := σ) (τ := τ) (f := fun j => tx (dg (t j).toNat) (kk (τ j))) hat X B' TT F4 N4 FO.bo rfl rfl
      (fun q hq => by rw [← hBk] at hq; exact .tail _ (.tail _ (.tail _ (.tail _ (.tail _ (List.mem_append_right _ (List.mem_append_left _ hq))))))) hS.per hS.tit hx' s4 (.tail _ (.tail _ (.head _))) ?_
    intro h5 tk5 tt F5 N5
    have hl4 : (sN + 3) % 4 < 4 := Nat.mod_lt _ (by decide)
    refine S5.seg5 (ds := dg (t ((sN + 3) % 4)).toNat) (kd := kk (τ ((sN + 3) % 4))) hat X B' TT F5 N5 rfl (dg_ok _) (hS.k3 _ (hS.per.t4 _ hl4)) ?_
    intro h6 tk6 tw ts F6 N6
    -- from the store on
    have cont6 : ∀ h7 tk7 m7 tabs' tw', Fr h₀ L h7 m7 → Dig.Tab tabs' → Apart tabs' ((M, lst ys) :: (I, it) :: (L + 1 + 1 + 1 + 1 + 1 + 1 + 1, oR3) :: (Mv, lstN vm nm) :: (O ++ Bk)) → m7 (Str.ofString "mover") = some (.int ((sN : Nat) : Int) tm) →
        m7 (Str.ofString "word") = some (.str (S (wd (dg (nxt base step t sN sN).toNat))) tw') → m7 (Str.ofString "turn") = some (.int ((i : Nat) : Int) ti) → m7 (Str.ofString "may") = some (.ref M) → FrmOk unit below Fa G B Bf m7 →
        News h₀ L h7 (tabs' ++ ((M, lst ys) :: (I, it) :: (L + 1 + 1 + 1 + 1 + 1 + 1 + 1, oR3) :: (Mv, lstN vm nm) :: (O ++ Bk))) →
        wpAny (model PySem.Challenge.rw_wy0034_01.row.prog w) (callerA.deeper (envOfC (Str.ofString "law") sc L fa cd)) (execs [a11, a12, a13] (envOfC (Str.ofString "law") sc L fa cd)) Q E { s with heap := h7, toks := tk7 } := by
      intro h7 tk7 m7 tabs' tw' F7 T7 D7 hmover hword hturn hmay FO7 N7
      have tyT := ty_tabs T7
      have N7b : News h₀ L h7 (book w B D G T c x a b tD n ++ ((M, lst ys) :: (I, it) :: (L + 1 + 1 + 1 + 1 + 1 + 1 + 1, oR3) :: (Mv, lstN vm nm) :: (O ++ tabs'))) := by
        rw [← hBk]
        refine News.sub N7 (fun q hq => ?_)
        simp only [List.mem_append, List.mem_cons] at hq ⊢
        rcases hq with h | h | h | h | h | h | h <;> simp only [h, true_or, or_true]
      have tyR : ∀ q ∈ ((M, lst ys) :: (I, it) :: (L + 1 + 1 + 1 + 1 + 1 + 1 + 1, oR3) :: (Mv, lstN vm nm) :: (O ++ tabs')), ty q.2 ≤ 2 ∨ (ty q.2 = 3 ∧ q.1 ≠ G) := by
        intro q hq
        simp only [List.mem_append, List.mem_cons] at hq
        rcases hq with h | h | h | h | h | h
        · rw [h]; exact .inr ⟨rfl, Ne.symm nGM⟩
        · rw [h]; exact .inl (Nat.le_of_eq hty)
        · rw [h]; exact .inl (by show ty oR3 ≤ 2; rw [ty_cell dR3]; decide)
        · rw [h]; exact .inr ⟨rfl, Ne.symm cst.nGM⟩
        · rcases tyO q h with ⟨e, _⟩ | ⟨e, e'⟩
          · exact .inl (by lia)
          · refine .inr ⟨e, ?_⟩
            rcases e' with e' | e' | e' <;> rw [e']
            · exact Ne.symm nGB
            · exact Ne.symm cst.nGC
            · exact Ne.symm cst.nGF
        · exact .inl (Nat.le_of_eq (tyT q h))
      have ap : Apart (book w B D G T c x a b tD n) ((M, lst ys) :: (I, it) :: (L + 1 + 1 + 1 + 1 + 1 + 1 + 1, oR3) :: (Mv, lstN vm nm) :: (O ++ tabs')) := by
        intro q hq r hr
        have hr' := hr
        rw [← hBk] at hr'
        rcases tyB r hr' with ⟨e, e3⟩ | e4
        · rcases tyR q hq with h | ⟨h, h'⟩
          · exact ne_ty N7b (List.mem_append_left _ hr) (List.mem_append_right _ hq) (by lia)
          · rw [e]; exact Ne.symm h'
        · exact ne_ty N7b (List.mem_append_left _ hr) (List.mem_append_right _ hq) (by rcases tyR q hq with h | ⟨h, _⟩ <;> lia)
      refine S7.seg7 (w := w) (B := B) (D := D) (G := G) (T := T) (c := c) (x := x) (a := a) (b := b) (tD := tD) (n := n) (σ := σ) (τ := τ) (ds := dg (nxt base step t sN sN).toNat) hat X B' TT F7 N7b ap hmover hword FO7.bo hturn hS.per hS.tit s4 (dg_ok _) ?_
      intro h8 tk8 T' a' b' n' F8 D8 N8
      have tyB8 := ty_book' (w := w) (B := B) (D := D) (G := G) (T := T') (c := upd3 c (τ sN) (sgn i sN)) (x := upd3 x (τ sN) (tx (dg (nxt base step t sN sN).toNat) (kdn i))) (a := a') (b := b') (tD := tD) (n := n')
      have hBk8 : ∃ l, l = book w B D G T' (upd3 c (τ sN) (sgn i sN)) (upd3 x (τ sN) (tx (dg (nxt base step t sN sN).toNat) (kdn i))) a' b' tD n' := ⟨_, rfl⟩
      obtain ⟨Bk8, hBk8⟩ := hBk8
      change News h₀ L h8 (book w B D G T' (upd3 c (τ sN) (sgn i sN)) (upd3 x (τ sN) (tx (dg (nxt base step t sN sN).toNat) (kdn i))) a' b' tD n' ++ _) at N8
      rw [← hBk8] at N8 tyB8
      have tyR8 : ∀ q ∈ ((M, lst ys) :: (I, it) :: (L + 1 + 1 + 1 + 1 + 1 + 1 + 1, oR3) :: (O ++ (Bk8 ++ tabs'))), ty q.2 ≠ 3 ∨ q.1 ≠ Mv := by
        intro q hq
        simp only [List.mem_append, List.mem_cons] at hq
        rcases hq with h | h | h | h | h | h
        · rw [h]; exact .inr (Ne.symm nMM)
        · rw [h]; exact .inl (by show ty it ≠ 3; lia)
        · rw [h]; exact .inl (by show ty oR3 ≠ 3; rw [ty_cell dR3]; decide)
        · rcases tyO q h with ⟨e, _⟩ | ⟨e, e'⟩
          · exact .inl (by lia)
          · refine .inr ?_
            rcases e' with e' | e' | e' <;> rw [e']
            · exact Ne.symm nMB
            · exact Ne.symm cst.nMC
            · exact Ne.symm cst.nMF
        · rcases tyB8 q h with ⟨e, _⟩ | e
          · exact .inr (by rw [e]; exact cst.nGM)
          · exact .inl (by lia)
        · exact .inl (by rw [tyT q h]; decide)
      have N8b : News h₀ L h8 ((Mv, lstN vm nm) :: ((M, lst ys) :: (I, it) :: (L + 1 + 1 + 1 + 1 + 1 + 1 + 1, oR3) :: (O ++ (Bk8 ++ tabs')))) := by
        refine News.sub N8 (fun q hq => ?_)
        simp only [List.mem_append, List.mem_cons] at hq ⊢
        rcases hq with h | h | h | h | h | h | h <;> simp only [h, true_or, or_true]
      have hvl : vm.length ≤ 100 := by
        have := hvm.length
        rw [List.length_map, hS.len] at this
        lia
      refine S8.seg8 hat X B' TT F8 N8b (fun q hq => ?_) hmover hmay (.tail _ (.tail _ (.tail _ (List.mem_append_left _ oMm)))) cst.dM hvl ?_
      · rcases tyR8 q hq with h | h
        · exact ne_ty N8b (.tail _ hq) (.head _) h
        · exact h
      intro h9 tk9 nm' F9 N9
      have N9b : News h₀ L h9 ((I, it) :: ledT w L B D G Mv M Ce Fa oR3 oM oS oB oC (vm ++ [.int ((sN : Nat) : Int) tm]) ys [.int c0 v0, .int c1 v1, .int c2 v2, .int c3 v3, .int c4 v4, .int c5 v5, .int c6 v6] [.int far0 w0, .int gr w1] nm' ys.length nc nf T'
          (upd3 c (τ sN) (sgn i sN)) (upd3 x (τ sN) (tx (dg (nxt base step t sN sN).toNat) (kdn i))) a' b' tD n' tabs') := by
        unfold ledT
        rw [← hBk8]
        refine News.sub N9 (fun q hq => ?_)
        simp only [List.mem_append, List.mem_cons, List.not_mem_nil, or_false] at hq ⊢
        rcases hq with h | h | h | (h | h | h | h | h | h | h) | h | h
        · simp only [h, true_or, or_true]
        · simp only [h, true_or, or_true]
        · simp only [h, true_or, or_true]
        · rw [h]; simp only [oMm, true_or, or_true]
        · rw [h]; simp only [oSm, true_or, or_true]
        · rw [h]; simp only [oBm, true_or, or_true]
        · rw [h]; simp only [oCm, true_or, or_true]
        · rw [h]; exact .inr (.inl rfl)
        · rw [h]; simp only [Cem, true_or, or_true]
        · rw [h]; simp only [Fam, true_or, or_true]
        · simp only [h, true_or, or_true]
        · simp only [h, true_or, or_true]
      refine k h9 tk9 _ _ F9 N9b (fun q hq => ?_) ⟨T', _, _, a', b', n', oR3, vR3, _, nm', M, ys, ys.length, tabs', nxt base step t sN, _, _, _, ms ++ [sN], mayT t, rfl, FO7.before, dR3, ?_, hI1, T7, nGM, nMM, hS.step C hi hsN, x_step hS.per s4 hx⟩
      · by_cases h2 : q ∈ tabs'
        · exact D7 (I, it) (.tail _ (.head _)) q h2
        · refine ne_ty N9b (.tail _ hq) (.head _) ?_
          show ty q.2 ≠ ty it
          rw [hty]
          unfold ledT at hq
          rw [← hBk8] at hq
          simp only [List.mem_append, List.mem_cons, List.not_mem_nil, or_false] at hq
          rcases hq with h | h | (h | h | h | h | h | h | h) | h | h
          · rw [h]; show ty oR3 ≠ 2; rw [ty_cell dR3]; decide
          · rw [h]; show (3 : Nat) ≠ 2; decide
          · rw [h]; show ty oM ≠ 2; rw [tM]; decide
          · rw [h]; show ty oS ≠ 2; rw [tS]; decide
          · rw [h]; show ty oB ≠ 2; rw [tB]; decide
          · rw [h]; show ty oC ≠ 2; rw [tC]; decide
          · rw [h]; show (3 : Nat) ≠ 2; decide
          · rw [h]; show (3 : Nat) ≠ 2; decide
          · rw [h]; show (3 : Nat) ≠ 2; decide
          · rcases tyB8 q h with ⟨_, e⟩ | e <;> lia
          · exact absurd h h2
      · rw [map_snoc]; exact ints_push hvm _ _
    have tyT := ty_tabs hT
    have N6b : News h₀ L h6 (tabs ++ ((M, lst ys) :: (I, it) :: (L + 1 + 1 + 1 + 1 + 1 + 1 + 1, oR3) :: (Mv, lstN vm nm) :: (O ++ Bk))) := by
      refine News.sub N6 (fun q hq => ?_)
      simp only [List.mem_append, List.mem_cons] at hq ⊢
      rcases hq with h | h | h | h | h | h | h <;> simp only [h, true_or, or_true]
    have D6 : Apart tabs ((M, lst ys) :: (I, it) :: (L + 1 + 1 + 1 + 1 + 1 + 1 + 1, oR3) :: (Mv, lstN vm nm) :: (O ++ Bk)) := by
      intro q hq r hr
      by_cases h2 : q = (I, it)
      · rw [h2]; exact hI r (.tail _ (.tail _ (List.mem_append_right _ (List.mem_append_right _ hr))))
      · refine ne_ty N6b (List.mem_append_left _ hr) (List.mem_append_right _ hq) ?_
        rw [tyT r hr]
        simp only [List.mem_append, List.mem_cons] at hq
        rcases hq with h | h | h | h | h | h
        · rw [h]; show (2 : Nat) ≠ 3; decide
        · exact absurd h h2
        · rw [h]; show 2 ≠ ty oR3; rw [ty_cell dR3]; decide
        · rw [h]; show (2 : Nat) ≠ 3; decide
        · rcases tyO q h with ⟨e, _⟩ | ⟨e, _⟩ <;> lia
        · rcases tyB q h with ⟨_, e⟩ | e <;> lia
    by_cases hz : sN = 0
    · subst hz
      obtain ⟨tu, eu⟩ := FO.un
      obtain ⟨tb, eb⟩ := FO.be
      obtain ⟨ts1, eS⟩ := cst.dS
      obtain ⟨tb1, eB⟩ := cst.dB
      obtain ⟨ex, ex1, ex2, ex3⟩ := cst.ex
      have R3 := R 3 (by decide)
      refine S6.seg6b (base := base) (num := t 3) (gr := gr) (far0 := far0) (ds := dg (t 3).toNat) hat X B' TT F6 N6b D6 hT rfl rfl rfl eu FO.fa eb rfl
        (.tail _ (.tail _ (.tail _ (.tail _ (List.mem_append_left _ oSm))))) eS (.tail _ (.tail _ (.tail _ (.tail _ (List.mem_append_left _ oBm))))) eB (.tail _ (.tail _ (.tail _ (.tail _ (List.mem_append_left _ Fam))))) rfl (dg_ok _) (dval_dg R3.1 (by lia)) C.b5 C.b1801 ex1 ex2 ex3 R3.1 R3.2 C.s0 C.s1 cst.b0 cst.b1 ?_ ?_ ?_
      · have := cst.f0; have := cst.f1; split <;> lia
      · have := cst.f1; rw [← cst.g1]; split <;> lia
      intro h7 tk7 tabs' tw' T7 D7 F7 N7
      exact cont6 h7 tk7 _ tabs' tw' F7 T7 D7 rfl rfl rfl rfl ⟨FO.un, FO.be, FO.fa, FO.gi, FO.bo, FO.bf⟩ N7
    · refine S6.seg6a hat X B' TT F6 N6 rfl (by lia) ?_
      intro h7 tk7 F7 N7
      have e9 : nxt base step t sN sN = t ((sN + 3) % 4) := by unfold nxt; rw [if_pos rfl, if_neg hz]
      refine cont6 h7 tk7 _ tabs tw F7 hT D6 rfl (by rw [e9]; rfl) rfl rfl ⟨FO.un, FO.be, FO.fa, FO.gi, FO.bo, FO.bf⟩ ?_
      refine News.sub N7 (fun q hq => ?_)
      simp only [List.mem_append, List.mem_cons] at hq ⊢
      rcases hq with h | h | h | h | h | h | h <;> simp only [h, true_or, or_true]
  rcases Nat.eq_zero_or_pos i with h0 | h0
  · have em : ms = [] := List.length_eq_zero_iff.mp (by rw [hS.len]; exact h0)
    have ev : vm = [] := by
      have := hvm.length
      rw [em] at this
      exact List.length_eq_zero_iff.mp this
    rw [ev] at N2 cont3
    refine S3.seg3a hat X B' TT F2 N2 (.tail _ (.tail _ (.tail _ (.tail _ (.tail _ (List.mem_append_left _ oMm)))))) cst.dM (.tail _ (.tail _ (.tail _ (.tail _ (.head _))))) ?_
    intro h3 tk3 F3 N3
    refine cont3 h3 tk3 oR vR dR F3 (News.sub N3 (fun q hq => ?_))
    simp only [List.mem_append, List.mem_cons] at hq ⊢
    rcases hq with h | h | h | h | h | h | h | h <;> simp only [h, true_or, or_true]
  · obtain ⟨pre, q, rfl⟩ := snoc_of (ms := ms) (by rw [hS.len]; exact h0)
    rw [map_snoc] at hvm
    obtain ⟨pv, tl, rfl, hpv⟩ := ints_snoc hvm
    have hq4 := hS.seats q (by simp)
    have hlast := hS.last pre q rfl
    have hbl := hS.befl
    have N2b : News h₀ L h2 ((L + 1 + 1 + 1 + 1 + 1 + 1 + 1, oR) :: (M, lst ys) :: (Rr, lst [Value.str (S (tx (dg (t 0).toNat) (kk (τ 0)))) u0, .str (S (tx (dg (t 1).toNat) (kk (τ 1)))) u1, .str (S (tx (dg (t 2).toNat) (kk (τ 2)))) u2, .str (S (tx (dg (t 3).toNat) (kk (τ 3)))) u3]) :: (I, it) :: (Mv, lstN (pv ++ [.int (q : Int) tl]) nm) :: (O ++ (Bk ++ tabs))) := by
      refine News.sub N2 (fun q hq => ?_)
      simp only [List.mem_append, List.mem_cons] at hq ⊢
      rcases hq with h | h | h | h | h | h | h | h <;> simp only [h, true_or, or_true]
    have tyT := ty_tabs hT
    refine S3.seg3b (r := (((q + 1) % 4 : Nat) : Int)) (ns := (mayT t).map fun j : Nat => (j : Int)) (nbs := bef.map fun j : Nat => (j : Int)) (nms := (pre.map fun j : Nat => (j : Int)) ++ [(q : Int)]) hat X B' TT F2 N2b (fun r hr => ?_) dR rfl FO.bf (.head _)
      (.tail _ (.tail _ (.tail _ (.tail _ (List.mem_append_left _ Bfm))))) hI1 hvb (by rw [List.length_map]; exact hml) (by rw [List.length_map]; exact hbl) (.tail _ (.tail _ (.tail _ (.tail _ (List.mem_append_left _ oMm))))) cst.dM (.tail _ (.tail _ (.tail _ (.head _)))) hvm (by simp) (by lia) ?_ ?_
    · by_cases h7 : ty r.2 = 1
      · simp only [List.mem_append, List.mem_cons] at hr
        rcases hr with h | h | h | h | h | h | h
        · rw [h] at h7; exact absurd h7 (by show (3 : Nat) ≠ 1; decide)
        · rw [h] at h7; exact absurd h7 (by show (3 : Nat) ≠ 1; decide)
        · rw [h] at h7; exact absurd h7 (by show ty it ≠ 1; lia)
        · rw [h] at h7; exact absurd h7 (by show (3 : Nat) ≠ 1; decide)
        · rcases tyO r h with ⟨_, e⟩ | ⟨e, _⟩
          · exact e
          · lia
        · rcases tyB r h with ⟨_, e⟩ | e <;> lia
        · have := tyT r h; lia
      · exact ne_ty N2b (.tail _ hr) (.head _) (by show ty r.2 ≠ ty oR; rw [ty_cell dR]; exact h7)
    · rw [filt1, filt2, hlast]
    · rintro h3 tk3 oR3 F3 N3 ⟨vR3, dR3⟩
      exact cont3 h3 tk3 oR3 vR3 dR3 F3 N3
end Mine
end
section
open PySem PySem.W PyProof.Rows PySem.Builtin.Int
open PyProof.Rows.LCg Mine.LC Mine.Bk PySem.Calls
namespace Mine.Lo
theorem lines53 : True := by
  k_with_none
  w_top off
  k_with "execs cons" => (((try dsimp only); refine toks_any ?_; intro _))
  k_with "k_enter" => (case zzfresh => (refine' code_def ?zzk1 ?zzk2 ?zzk3 ?zzk4 ?zzk5 ?zzkA ?zzkF ?zzkK ?zzk6 ?zzk7 ?zzk8 ?zzk9 ?zzkB ?_ ?zzc2 ?zzc3 ?zzc4 ?zzc5; (case zzkA => exact rfl); (case zzkF => exact rfl); (case zzkK => first | exact rfl | assumption); (case zzk1 => k_asm); (case zzk2 => k_asm); (case zzk3 => k_asm); (case zzk4 => k_asm); (case zzk5 => k_asm); (case zzk6 => k_is); (case zzk7 => k_is); (case zzk8 => k_room); (case zzk9 => first | exact BindsTo.of_eq rfl | exact binds_K (by k_in) rfl (by k_is) rfl rfl rfl | (refine kp_binds (by k_in) ?_; exact fun _ => rfl) | fail "k_enter: no rule for these arguments"); (case zzc5 => decide); (case zzkB => exact locs rfl); (case zzc2 => exact rfl); (case zzc3 => exact rfl); (case zzc4 => exact rfl); k_whole; intro zzg' zzL' zzh' zzFG' zzF' zzN' zzB' zzX' zzT'; (try dsimp only); (try k_lift zzB'); (try k_fold)))
  k_with "k_enter" => (case zzfresh => (refine' code_defC ?zzk1 ?zzk2 ?zzk3 ?zzk4 ?zzk5 ?zzkA ?zzkF ?zzkK ?zzk6 ?zzk7 ?zzk8 ?zzk9 ?zzkB ?zzkD ?_ ?zzc2 ?zzc3 ?zzc4; (case zzkA => exact rfl); (case zzkF => exact rfl); (case zzkK => first | exact rfl | assumption); (case zzk1 => k_asm); (case zzk2 => k_asm); (case zzk3 => k_asm); (case zzk4 => k_asm); (case zzk5 => k_asm); (case zzk6 => k_is); (case zzk7 => k_is); (case zzk8 => k_room); (case zzk9 => first | exact BindsTo.of_eq rfl | exact binds_K (by k_in) rfl (by k_is) rfl rfl rfl | (refine kp_binds (by k_in) ?_; exact fun _ => rfl) | fail "k_enter: no rule for these arguments"); (case zzkB => exact rfl); (case zzkD => decide +kernel); (case zzc2 => exact rfl); (case zzc3 => exact rfl); (case zzc4 => exact rfl); k_whole; intro zzg' zzL' zzh' zztk' zzcells' zzFG' zzF' zzN' zzY' zzB' zzX' zzT' zzl1; (try k_lt zzl1); k_cells zzY'; (try simp only [List.cons_append, List.nil_append] at zzN'); (try dsimp only); (try k_lift zzB'); (try k_fold)))
  k_with "mine open" => ((refine wpAny_call ?_; k_dflt (first | k_enter | kc_enter)))
  k_with "mine open R" => (case zzfresh => (refine wpAny_call ?_; k_dflt (refine' code_defR ?zzk1 ?zzk2 ?zzk3 ?zzk4 ?zzkD ?zzk5 ?zzkA ?zzkF ?zzkK ?zzk6 ?zzk7 ?zzk8 ?zzk9 ?zzkB ?_ ?zzc2 ?zzc3 ?zzc4 ?zzc5; (case zzkA => exact rfl); (case zzkF => exact rfl); (case zzkK => first | exact rfl | assumption); (case zzk1 => k_asm); (case zzk2 => k_asm); (case zzk3 => k_asm); (case zzk4 => with_reducible assumption); (case zzkD => with_reducible assumption); (case zzk5 => k_asm); (case zzk6 => k_is); (case zzk7 => k_is); (case zzk8 => k_room); (case zzk9 => first | exact BindsTo.of_eq rfl | exact binds_K (by k_in) rfl (by k_is) rfl rfl rfl | (refine kp_binds (by k_in) ?_; exact fun _ => rfl) | fail "k_enter: no rule for these arguments"); (case zzc5 => decide); (case zzkB => exact locs rfl); (case zzc2 => exact rfl); (case zzc3 => exact rfl); (case zzc4 => exact rfl)); k_whole; intro zzg' zzL' zzh' zzFG' zzF' zzN' zzB' zzX' zzT' zzS'; (try dsimp only); (try k_lift zzB'); (try k_fold)))
  k_with "mine open CR" => (case zzfresh => (refine wpAny_call ?_; k_dflt (refine' code_defCR ?zzk1 ?zzk2 ?zzk3 ?zzk4 ?zzkR ?zzk5 ?zzkA ?zzkF ?zzkK ?zzk6 ?zzk7 ?zzk8 ?zzk9 ?zzkB ?zzkD ?_ ?zzc2 ?zzc3 ?zzc4; (case zzkA => exact rfl); (case zzkF => exact rfl); (case zzkK => first | exact rfl | assumption); (case zzk1 => k_asm); (case zzk2 => k_asm); (case zzk3 => k_asm); (case zzk4 => with_reducible assumption); (case zzkR => with_reducible assumption); (case zzk5 => k_asm); (case zzk6 => k_is); (case zzk7 => k_is); (case zzk8 => k_room); (case zzk9 => first | exact BindsTo.of_eq rfl | exact binds_K (by k_in) rfl (by k_is) rfl rfl rfl | (refine kp_binds (by k_in) ?_; exact fun _ => rfl) | fail "k_enter: no rule for these arguments"); (case zzkB => exact rfl); (case zzkD => decide +kernel); (case zzc2 => exact rfl); (case zzc3 => exact rfl); (case zzc4 => exact rfl)); k_whole; intro zzg' zzL' zzh' zztk' zzcells' zzFG' zzF' zzN' zzY' zzB' zzX' zzT' zzl1 zzS'; (try k_lt zzl1); k_cells zzY'; (try simp only [List.cons_append, List.nil_append] at zzN'); (try dsimp only); (try k_lift zzB'); (try k_fold)))
  k_with "mine open CR0" => (case zzfresh => (refine wpAny_call ?_; k_dflt (refine' code_defCR (own := []) ?zzk1 ?zzk2 ?zzk3 ?zzk4 ?zzkR ?zzk5 ?zzkA ?zzkF ?zzkK ?zzk6 ?zzk7 ?zzk8 ?zzk9 ?zzkB ?zzkD ?_ ?zzc2 ?zzc3 ?zzc4; (case zzkA => exact rfl); (case zzkF => exact rfl); (case zzkK => first | exact rfl | assumption); (case zzk1 => k_asm); (case zzk2 => k_asm); (case zzk3 => k_asm); (case zzk4 => k_asm); (case zzkR => exact Apart.zero); (case zzk5 => k_asm); (case zzk6 => k_is); (case zzk7 => k_is); (case zzk8 => k_room); (case zzk9 => first | exact BindsTo.of_eq rfl | exact binds_K (by k_in) rfl (by k_is) rfl rfl rfl | (refine kp_binds (by k_in) ?_; exact fun _ => rfl) | fail "k_enter: no rule for these arguments"); (case zzkB => exact rfl); (case zzkD => decide +kernel); (case zzc2 => exact rfl); (case zzc3 => exact rfl); (case zzc4 => exact rfl)); k_whole; intro zzg' zzL' zzh' zztk' zzcells' zzFG' zzF' zzN' zzY' zzB' zzX' zzT' zzl1 zzS'; clear zzl1; k_cells zzY'; (try simp only [List.cons_append, List.nil_append, List.append_nil] at zzN'); (try dsimp only); (try k_lift zzB'); (try k_fold)))
  k_with "mine open R0" => (case zzfresh => (refine wpAny_call ?_; k_dflt (refine' code_defR (own := []) ?zzk1 ?zzk2 ?zzk3 ?zzk4 ?zzkD ?zzk5 ?zzkA ?zzkF ?zzkK ?zzk6 ?zzk7 ?zzk8 ?zzk9 ?zzkB ?_ ?zzc2 ?zzc3 ?zzc4 ?zzc5; (case zzkA => exact rfl); (case zzkF => exact rfl); (case zzkK => first | exact rfl | assumption); (case zzk1 => k_asm); (case zzk2 => k_asm); (case zzk3 => k_asm); (case zzk4 => k_asm); (case zzkD => exact Apart.zero); (case zzk5 => k_asm); (case zzk6 => k_is); (case zzk7 => k_is); (case zzk8 => k_room); (case zzk9 => first | exact BindsTo.of_eq rfl | exact binds_K (by k_in) rfl (by k_is) rfl rfl rfl | (refine kp_binds (by k_in) ?_; exact fun _ => rfl) | fail "k_enter: no rule for these arguments"); (case zzc5 => decide); (case zzkB => exact locs rfl); (case zzc2 => exact rfl); (case zzc3 => exact rfl); (case zzc4 => exact rfl)); k_whole; intro zzg' zzL' zzh' zzFG' zzF' zzN' zzB' zzX' zzT' zzS'; (try dsimp only); (try k_lift zzB'); (try k_fold)))
  k_with "exec Assign cons ListComp" => ((k_here; (with_reducible show wpAny _ _ (exec (Stmt.Assign [Expr.Name _ _] (Expr.ListComp _ [Comprehension.mk (Expr.Name _ _) _ [] _] _ _) _) _) _ _ _); k_dflt (refine assign_M (F₀ := by k_asm) (by rfl) (by with_unfolding_all rfl) (by with_unfolding_all rfl) (by decide) (by rfl) (by decide) (by rfl) (by rfl) (by rfl) ?_)))
  k_with "exec Assign cons ListComp" => ((k_here; (with_reducible show wpAny _ _ (exec (Stmt.Assign [Expr.Name _ _] (Expr.ListComp _ [Comprehension.mk (Expr.Name _ _) _ [_] _] _ _) _) _) _ _ _); k_dflt (refine assign_MT (F₀ := by k_asm) (by rfl) (by with_unfolding_all rfl) (by with_unfolding_all rfl) (by decide) (by rfl) (by decide) (by rfl) (by rfl) (by rfl) ?_)))
  k_with "eval ListComp" => ((k_here; (with_reducible show wpAny _ _ (eval (Expr.ListComp _ [Comprehension.mk (Expr.Name _ _) _ [] _] _ _) _) _ _ _); k_dflt (refine comp_M (F₀ := by k_asm) (by with_unfolding_all rfl) (by decide) (by rfl) (by decide) (by rfl) ?_)))
  k_with "eval ListComp" => ((k_here; (with_reducible show wpAny _ _ (eval (Expr.ListComp _ [Comprehension.mk (Expr.Name _ _) _ [_] _] _ _) _) _ _ _); k_dflt (refine comp_MT (F₀ := by k_asm) (by with_unfolding_all rfl) (by decide) (by rfl) (by decide) (by rfl) ?_)))
  k_with "k_mem" => (first | with_reducible assumption | exact List.Mem.head _ | (refine' List.Mem.tail _ ?_; k_mem) | assumption)
  k_with "k_all" => (case zzfresh => first | with_reducible assumption | exact List.forall_mem_nil _ | (refine' List.forall_mem_cons.mpr ⟨?zza, ?zzb⟩; (case zza => k_ne); (case zzb => k_all)))
  k_with "mine sub" => (case zzfresh => first | with_reducible assumption | (intro zzq zzhq; exact List.mem_cons_of_mem _ (by revert zzq zzhq; walk_at "mine sub")))
  k_with "call ref" => (refine stop_here ?_)
  k_with "call ref" => (case zzfresh => (k_here; k_dflt (refine' ConF.useE (by with_reducible assumption) ?zzB ?zzF ?zzX ?zzN ?zzT ?zzhk ?zzhh ?zzhd ?zzhf ?zzhg ?zzhu ?_; (case zzhf => exact rfl); (case zzhk => exact rfl); (case zzhh => exact rfl); (case zzhg => exact rfl); (case zzF => k_asm); (case zzN => k_asm); (case zzB => k_asm); (case zzX => k_in); (case zzT => k_asm); (case zzhd => exact Nat.le_of_ble_eq_true rfl); (case zzhu => exact Nat.le_of_ble_eq_true rfl)); intro zzv' zzh' zztk' zzhpost' zzF' zzN'; k_dflt (obtain ⟨zzu1', zze1'⟩ := zzhpost'); subst zze1'))
  k_with "call builtin:len" => ((k_here; (with_reducible show wpAny _ _ (call (Value.builtin _) [Value.ref _]) _ _ _); k_dflt (refine len_is (News.isList (by k_asm) (by k_mem)) (by with_reducible assumption) (by omega) ?_); intro _ _))
  k_with "mine tail" => (first | with_reducible assumption | (refine List.mem_cons_of_mem _ ?_; walk_at "mine tail"))
  trivial
open Mine.Pl
theorem loop_rest {w : World} {h₀ : Heap} {L fa : Addr} {cd : Value} {p : Program} {loose : List Str} {mean : ExcName → Option Value} {mg mb : Str → Option Value} {sc : Scope} {s : Shared}
    {Q : Flow → Shared → Prop} {E : Value → Shared → Prop} {a0 a1 a2 a3 a4 a5 a6 a7 a8 a9 a10 a11 a12 a13 : Stmt} (hat : turnAt w.params = some ([a0, a1, a2, a3, a4, a5, a6, a7, a8, a9, a10, a11, a12, a13], sc))
    (X : (Mine.hd.heap_39 w.params).In h₀) (B' : Below callerA h₀ [] h₀) (TT : Top p loose mean mg mb h₀)
    {B D G Mv Ce Fa I : Addr} {oM oS oB oC : Obj} {base step unit far0 gr below c2 : Int} {vc vf : List Value} {nc nf : Nat} {tD : Tok}
    (cst : Cst oM oS oB oC base step unit far0 gr below c2 G Mv Ce Fa vc vf)
    (done : ∀ h tk m led, J w L B D G Mv Ce Fa oM oS oB oC base step unit below c2 vc vf nc nf tD 17 m led → Fr h₀ L h m → News h₀ L h led → Q .next { s with heap := h, toks := tk }) :
    ∀ k i m led, i + k = 17 → (∀ q ∈ led, q.1 ≠ I) → J w L B D G Mv Ce Fa oM oS oB oC base step unit below c2 vc vf nc nf tD i m led →
      RangeRest PySem.Challenge.rw_wy0034_01.row.prog w (callerA.deeper (envOfC (Str.ofString "law") sc L fa cd)) E h₀ (envOfC (Str.ofString "law") sc L fa cd) (Str.ofString "turn") [a0, a1, a2, a3, a4, a5, a6, a7, a8, a9, a10, a11, a12, a13] Q s I 0 17 k i m led := by
  intro k
  induction k with
  | zero =>
    intro i m led hi hI hJ
    obtain rfl : i = 17 := by omega
    exact RangeRest.zero fun h tk F N => done h tk m led hJ F N
  | succ k ih =>
    intro i m led hi hI hJ
    refine RangeRest.succ fun t h tk F N => ?_
    rw [Int.zero_add] at F
    refine turn (L := L) (fa := fa) (cd := cd) (s := { s with heap := h, toks := tk }) (it := itR (0 + ((i + 1 : Nat) : Int)) ((17 : Nat) - ((i + 1 : Nat) : Int))) hat X B' TT cst (by omega) hJ rfl hI F N ?_
    intro h' tk' m' led' F' N' hI' hJ'
    exact UnrEnd.intro F' N' led' (fun q hq => hq) hI' (ih (i + 1) m' led' (by omega) hI' hJ')
theorem lines54 : True := by
  k_with "pyIter ref" => (refine stop_here ?_)
  trivial
set_option maxRecDepth 100000 in
set_option maxHeartbeats 1000000 in
theorem loop1 {w : World} {h₀ : Heap} {L fa : Addr} {cd : Value} {p : Program} {loose : List Str} {mean : ExcName → Option Value} {mg mb : Str → Option Value} {sc : Scope} {m : Str → Option Value} {s : Shared}
    {Q : Flow → Shared → Prop} {E : Value → Shared → Prop} {b0 b1 b2 b3 b4 b5 b6 b7 b8 b9 b10 b11 b12 : Stmt} {tl rest : List Stmt} (hat : lawAt w.params = some (b0 :: b1 :: b2 :: b3 :: b4 :: b5 :: b6 :: b7 :: b8 :: b9 :: b10 :: b11 :: b12 :: tl, sc))
    (X : (Mine.hd.heap_39 w.params).In h₀) (B' : Below callerA h₀ [] h₀) (TT : Top p loose mean mg mb h₀)
    {B D G Mv Ce Fa : Addr} {oM oS oB oC : Obj} {base step unit far0 gr below c2 : Int} {vc vf : List Value} {nc nf : Nat} {tD : Tok} {led : Led}
    (cst : Cst oM oS oB oC base step unit far0 gr below c2 G Mv Ce Fa vc vf) (hE : PassesOwn (model PySem.Challenge.rw_wy0034_01.row.prog w) (callerA.deeper (envOfC (Str.ofString "law") sc L fa cd)) (envOfC (Str.ofString "law") sc L fa cd) E)
    (F : Fr h₀ L s.heap m) (N : News h₀ L s.heap led) (hJ : J w L B D G Mv Ce Fa oM oS oB oC base step unit below c2 vc vf nc nf tD 0 m led)
    (k : ∀ h tk m led, J w L B D G Mv Ce Fa oM oS oB oC base step unit below c2 vc vf nc nf tD 17 m led → Fr h₀ L h m → News h₀ L h led →
      wpAny (model PySem.Challenge.rw_wy0034_01.row.prog w) (callerA.deeper (envOfC (Str.ofString "law") sc L fa cd)) (execs rest (envOfC (Str.ofString "law") sc L fa cd)) Q E { s with heap := h, toks := tk }) :
    wpAny (model PySem.Challenge.rw_wy0034_01.row.prog w) (callerA.deeper (envOfC (Str.ofString "law") sc L fa cd)) (execs (b12 :: rest) (envOfC (Str.ofString "law") sc L fa cd)) Q E s := by
  have e : lawAt w.params = some (_ :: _ :: _ :: _ :: _ :: _ :: _ :: _ :: _ :: _ :: _ :: _ :: _ :: _, _) := rfl
  cases hat.symm.trans e
  clear hat e
  have ht : turnAt w.params = some ([_, _, _, _, _, _, _, _, _, _, _, _, _, _], _) := rfl
  revert X
  k_fill
  intro X
  k_steps
  unfold Stop
  refine iter_rangeUnr (n := 17) rfl (by assumption) (by decide) (by decide) (by assumption) (by assumption) fun I hlt => ?_
  exact loop_rest ht X B' TT cst (fun h tk m led hJ' F' N' => k h tk m led hJ' F' N') 17 0 _ _ rfl (fun q hq => Nat.ne_of_lt (hlt q hq)) hJ

end Mine.Lo
end
section
theorem Mine.resetEn0 : True := by
  k_with_none
  w_top off
  trivial
open PySem PySem.Spec PySem.Calls PySem.W PyProof.Rows PyProof.Rows.LCg
namespace Mine
open Mine.Bk Mine.Pl PySem.SeqAt
/-- the statements of the last loop -/
noncomputable def dueAt (P : Params) : Option (List Stmt × Scope) :=
  match lawAt P with
  | some (_ :: _ :: _ :: _ :: _ :: _ :: _ :: _ :: _ :: _ :: _ :: _ :: _ :: _ :: _ :: .For _ _ b _ _ :: _, sc) => some (b, sc)
  | _ => none
section
variable {prog : Program} {w : World} {A : Around} {E : Value → Shared → Prop} {s : Shared} {Q : Value → Shared → Prop}
/-- a mover, by its turn -/
theorem item_ms {value slice : Expr} {l : Addr} {vm : List Value} {ms : List Nat} {k : Int} {q : Nat} {u : Tok} (hl : s.heap.IsList l vm.toArray) (hi : IntsAre vm (ms.map fun j : Nat => (j : Int))) (h0 : 0 ≤ k) (h1 : k < 17) (hn : ms.length = 17) (e : ms.getD k.toNat 0 = q)
    (h : ∀ t, Q (.int (q : Int) t) s)
    (hs : subscripted slice false (.ref l) (.int k u) = operate [.ref l, .int k u] (getItem (.ref l) (.int k u)) := by with_unfolding_all rfl) (hg : ∀ r, letTemporaryGo value (.ref l) r = pure () := by intro _; with_unfolding_all rfl) :
    wpAny (model prog w) A (subscriptTail value slice (.ref l) (.int k u)) Q E s := by
  have hlt : k.toNat < ms.length := by lia
  obtain ⟨t, ht⟩ := hi.get k.toNat ((q : Nat) : Int) (by simp [hlt, ← e])
  exact item_listL hl h0 (by lia) ht (h t) hs hg
abbrev dat (c : Nat → Nat) (x : Nat → List Nat) : PyData := .list [.tuple [.str (S [c 0]), .str (S (x 0))], .tuple [.str (S [c 1]), .str (S (x 1))], .tuple [.str (S [c 2]), .str (S (x 2))], .tuple [.str (S [c 3]), .str (S (x 3))]]
theorem reads_four {h : Heap} {a : Addr} {T : Nat → Addr} {c : Nat → Nat} {x : Nat → List Nat} {ta tb : Nat → Tok} {n : Nat} (hl : h.get? a = some (lstN [.ref (T 0), .ref (T 1), .ref (T 2), .ref (T 3)] n)) (hT : ∀ j, j < 4 → h.get? (T j) = some (pairO (c j) (x j) (ta j) (tb j))) :
    ∃ as, Reads h (.ref a) (dat c x) as := by
  have one : ∀ j, j < 4 → Reads h (.ref (T j)) (.tuple [.str (S [c j]), .str (S (x j))]) [] := fun j hj =>
    Reads.tuple (hT j hj) rfl rfl (.cons (.str _ _) (.cons (.str _ _) .nil))
  exact ⟨_, Reads.list hl rfl rfl (.cons (one 0 (by decide)) (.cons (one 1 (by decide)) (.cons (one 2 (by decide)) (.cons (one 3 (by decide)) .nil))))⟩
theorem same_dat (c : Nat → Nat) (x : Nat → List Nat) : PySem.Spec.same (dat c x) (dat c x) = true := by
  simp [PySem.Spec.same, PySem.Spec.sameAll]
/-- signs that a text may hold -/
def Signs (l : List Nat) : Prop := ∀ z ∈ l, z < 128
theorem strOk_of {l : List Nat} (h : Signs l) : PyData.strOk (S l) = true := by
  show (l.toArray.all fun z => decide (z < 0x110000)) = true
  rw [List.all_toArray, List.all_eq_true]
  exact fun z hz => decide_eq_true (Nat.lt_trans (h z hz) (by decide))
theorem shaped_dat {c : Nat → Nat} {x : Nat → List Nat} (hc : ∀ j, j < 4 → c j < 128) (hx : ∀ j, j < 4 → Signs (x j)) : shaped (dat c x) = true := by
  have k : ∀ j, j < 4 → PyData.strOk (S [c j]) = true := fun j hj => strOk_of fun z hz => by rw [List.mem_singleton.mp hz]; exact hc j hj
  have k' : ∀ j, j < 4 → PyData.strOk (S (x j)) = true := fun j hj => strOk_of (hx j hj)
  simp [shaped, PyData.canLay0, PyData.canLayAll0, PyData.depth, PyData.depthAll, k, k']
theorem noMix_dat (c : Nat → Nat) (x : Nat → List Nat) : noMix (dat c x) (dat c x) = true := by
  simp [noMix, noMixAll]
/-- two lists of the same four pairs -/
theorem eq_four {a b : Addr} {T T' : Nat → Addr} {c : Nat → Nat} {x : Nat → List Nat} {ta tb ta' tb' : Nat → Tok} {n n' : Nat} (hl : s.heap.get? a = some (lstN [.ref (T 0), .ref (T 1), .ref (T 2), .ref (T 3)] n)) (hT : ∀ j, j < 4 → s.heap.get? (T j) = some (pairO (c j) (x j) (ta j) (tb j)))
    (hl' : s.heap.get? b = some (lstN [.ref (T' 0), .ref (T' 1), .ref (T' 2), .ref (T' 3)] n')) (hT' : ∀ j, j < 4 → s.heap.get? (T' j) = some (pairO (c j) (x j) (ta' j) (tb' j))) (hc : ∀ j, j < 4 → c j < 128) (hx : ∀ j, j < 4 → Signs (x j)) (hu : A.units + 64 < cLine) (h : Q (.bool true) s) :
    wpAny (model prog w) A (compareOp .Eq (.ref a) (.ref b)) Q E s := by
  obtain ⟨as, ra⟩ := reads_four hl hT
  obtain ⟨bs, rb⟩ := reads_four hl' hT'
  exact eq_dataH_same ra rb (shaped_dat hc hx) (shaped_dat hc hx) hu (noMix_dat c x) (by rw [same_dat]; exact h)
end
theorem lt_at {d : Addr} : ∀ {l : Led}, AllLt d l → ∀ q ∈ l, q.1 < d := by
  intro l
  induction l with
  | nil => intro _ q hq; cases hq
  | cons a r ih =>
    intro h q hq
    rcases List.mem_cons.mp hq with e | hq
    · rw [e]; exact h.1
    · exact ih h.2 q hq
theorem count_filter (ms : List Nat) : (((ms.map fun j : Nat => (j : Int)).filter fun z => decide (z = 0)).length : Int) = ((ms.count 0 : Nat) : Int) := by
  induction ms with
  | nil => rfl
  | cons a r ih =>
    rw [List.map_cons, List.filter_cons, List.count_cons]
    by_cases h : a = 0
    · subst h
      simp only [Int.natCast_zero, decide_true, if_true, List.length_cons, beq_self_eq_true]
      push_cast
      rw [← ih]
    · have h2 : ¬ ((a : Int) = 0) := by lia
      have h3 : (a == 0) = false := by simpa using h
      simp only [h2, decide_false, h3]
      simpa using ih
end Mine
end
section
open PySem PySem.W PyProof.Rows PySem.Builtin.Int
open PyProof.Rows.LCg Mine.LC Mine.Bk PySem.Calls
namespace Mine.En
theorem lines55 : True := by
  k_with_none
  w_top off
  k_with "execs cons" => (((try dsimp only); refine toks_any ?_; intro _))
  k_with "k_enter" => (case zzfresh => (refine' code_def ?zzk1 ?zzk2 ?zzk3 ?zzk4 ?zzk5 ?zzkA ?zzkF ?zzkK ?zzk6 ?zzk7 ?zzk8 ?zzk9 ?zzkB ?_ ?zzc2 ?zzc3 ?zzc4 ?zzc5; (case zzkA => exact rfl); (case zzkF => exact rfl); (case zzkK => first | exact rfl | assumption); (case zzk1 => k_asm); (case zzk2 => k_asm); (case zzk3 => k_asm); (case zzk4 => k_asm); (case zzk5 => k_asm); (case zzk6 => k_is); (case zzk7 => k_is); (case zzk8 => k_room); (case zzk9 => first | exact BindsTo.of_eq rfl | exact binds_K (by k_in) rfl (by k_is) rfl rfl rfl | (refine kp_binds (by k_in) ?_; exact fun _ => rfl) | fail "k_enter: no rule for these arguments"); (case zzc5 => decide); (case zzkB => exact locs rfl); (case zzc2 => exact rfl); (case zzc3 => exact rfl); (case zzc4 => exact rfl); k_whole; intro zzg' zzL' zzh' zzFG' zzF' zzN' zzB' zzX' zzT'; (try dsimp only); (try k_lift zzB'); (try k_fold)))
  k_with "k_enter" => (case zzfresh => (refine' code_defC ?zzk1 ?zzk2 ?zzk3 ?zzk4 ?zzk5 ?zzkA ?zzkF ?zzkK ?zzk6 ?zzk7 ?zzk8 ?zzk9 ?zzkB ?zzkD ?_ ?zzc2 ?zzc3 ?zzc4; (case zzkA => exact rfl); (case zzkF => exact rfl); (case zzkK => first | exact rfl | assumption); (case zzk1 => k_asm); (case zzk2 => k_asm); (case zzk3 => k_asm); (case zzk4 => k_asm); (case zzk5 => k_asm); (case zzk6 => k_is); (case zzk7 => k_is); (case zzk8 => k_room); (case zzk9 => first | exact BindsTo.of_eq rfl | exact binds_K (by k_in) rfl (by k_is) rfl rfl rfl | (refine kp_binds (by k_in) ?_; exact fun _ => rfl) | fail "k_enter: no rule for these arguments"); (case zzkB => exact rfl); (case zzkD => decide +kernel); (case zzc2 => exact rfl); (case zzc3 => exact rfl); (case zzc4 => exact rfl); k_whole; intro zzg' zzL' zzh' zztk' zzcells' zzFG' zzF' zzN' zzY' zzB' zzX' zzT' zzl1; (try k_lt zzl1); k_cells zzY'; (try simp only [List.cons_append, List.nil_append] at zzN'); (try dsimp only); (try k_lift zzB'); (try k_fold)))
  k_with "mine open" => ((refine wpAny_call ?_; k_dflt (first | k_enter | kc_enter)))
  k_with "mine open R" => (case zzfresh => (refine wpAny_call ?_; k_dflt (refine' code_defR ?zzk1 ?zzk2 ?zzk3 ?zzk4 ?zzkD ?zzk5 ?zzkA ?zzkF ?zzkK ?zzk6 ?zzk7 ?zzk8 ?zzk9 ?zzkB ?_ ?zzc2 ?zzc3 ?zzc4 ?zzc5; (case zzkA => exact rfl); (case zzkF => exact rfl); (case zzkK => first | exact rfl | assumption); (case zzk1 => k_asm); (case zzk2 => k_asm); (case zzk3 => k_asm); (case zzk4 => with_reducible assumption); (case zzkD => with_reducible assumption); (case zzk5 => k_asm); (case zzk6 => k_is); (case zzk7 => k_is); (case zzk8 => k_room); (case zzk9 => first | exact BindsTo.of_eq rfl | exact binds_K (by k_in) rfl (by k_is) rfl rfl rfl | (refine kp_binds (by k_in) ?_; exact fun _ => rfl) | fail "k_enter: no rule for these arguments"); (case zzc5 => decide); (case zzkB => exact locs rfl); (case zzc2 => exact rfl); (case zzc3 => exact rfl); (case zzc4 => exact rfl)); k_whole; intro zzg' zzL' zzh' zzFG' zzF' zzN' zzB' zzX' zzT' zzS'; (try dsimp only); (try k_lift zzB'); (try k_fold)))
  k_with "mine open CR" => (case zzfresh => (refine wpAny_call ?_; k_dflt (refine' code_defCR ?zzk1 ?zzk2 ?zzk3 ?zzk4 ?zzkR ?zzk5 ?zzkA ?zzkF ?zzkK ?zzk6 ?zzk7 ?zzk8 ?zzk9 ?zzkB ?zzkD ?_ ?zzc2 ?zzc3 ?zzc4; (case zzkA => exact rfl); (case zzkF => exact rfl); (case zzkK => first | exact rfl | assumption); (case zzk1 => k_asm); (case zzk2 => k_asm); (case zzk3 => k_asm); (case zzk4 => with_reducible assumption); (case zzkR => with_reducible assumption); (case zzk5 => k_asm); (case zzk6 => k_is); (case zzk7 => k_is); (case zzk8 => k_room); (case zzk9 => first | exact BindsTo.of_eq rfl | exact binds_K (by k_in) rfl (by k_is) rfl rfl rfl | (refine kp_binds (by k_in) ?_; exact fun _ => rfl) | fail "k_enter: no rule for these arguments"); (case zzkB => exact rfl); (case zzkD => decide +kernel); (case zzc2 => exact rfl); (case zzc3 => exact rfl); (case zzc4 => exact rfl)); k_whole; intro zzg' zzL' zzh' zztk' zzcells' zzFG' zzF' zzN' zzY' zzB' zzX' zzT' zzl1 zzS'; (try k_lt zzl1); k_cells zzY'; (try simp only [List.cons_append, List.nil_append] at zzN'); (try dsimp only); (try k_lift zzB'); (try k_fold)))
  k_with "mine open CR0" => (case zzfresh => (refine wpAny_call ?_; k_dflt (refine' code_defCR (own := []) ?zzk1 ?zzk2 ?zzk3 ?zzk4 ?zzkR ?zzk5 ?zzkA ?zzkF ?zzkK ?zzk6 ?zzk7 ?zzk8 ?zzk9 ?zzkB ?zzkD ?_ ?zzc2 ?zzc3 ?zzc4; (case zzkA => exact rfl); (case zzkF => exact rfl); (case zzkK => first | exact rfl | assumption); (case zzk1 => k_asm); (case zzk2 => k_asm); (case zzk3 => k_asm); (case zzk4 => k_asm); (case zzkR => exact Apart.zero); (case zzk5 => k_asm); (case zzk6 => k_is); (case zzk7 => k_is); (case zzk8 => k_room); (case zzk9 => first | exact BindsTo.of_eq rfl | exact binds_K (by k_in) rfl (by k_is) rfl rfl rfl | (refine kp_binds (by k_in) ?_; exact fun _ => rfl) | fail "k_enter: no rule for these arguments"); (case zzkB => exact rfl); (case zzkD => decide +kernel); (case zzc2 => exact rfl); (case zzc3 => exact rfl); (case zzc4 => exact rfl)); k_whole; intro zzg' zzL' zzh' zztk' zzcells' zzFG' zzF' zzN' zzY' zzB' zzX' zzT' zzl1 zzS'; clear zzl1; k_cells zzY'; (try simp only [List.cons_append, List.nil_append, List.append_nil] at zzN'); (try dsimp only); (try k_lift zzB'); (try k_fold)))
  k_with "mine open R0" => (case zzfresh => (refine wpAny_call ?_; k_dflt (refine' code_defR (own := []) ?zzk1 ?zzk2 ?zzk3 ?zzk4 ?zzkD ?zzk5 ?zzkA ?zzkF ?zzkK ?zzk6 ?zzk7 ?zzk8 ?zzk9 ?zzkB ?_ ?zzc2 ?zzc3 ?zzc4 ?zzc5; (case zzkA => exact rfl); (case zzkF => exact rfl); (case zzkK => first | exact rfl | assumption); (case zzk1 => k_asm); (case zzk2 => k_asm); (case zzk3 => k_asm); (case zzk4 => k_asm); (case zzkD => exact Apart.zero); (case zzk5 => k_asm); (case zzk6 => k_is); (case zzk7 => k_is); (case zzk8 => k_room); (case zzk9 => first | exact BindsTo.of_eq rfl | exact binds_K (by k_in) rfl (by k_is) rfl rfl rfl | (refine kp_binds (by k_in) ?_; exact fun _ => rfl) | fail "k_enter: no rule for these arguments"); (case zzc5 => decide); (case zzkB => exact locs rfl); (case zzc2 => exact rfl); (case zzc3 => exact rfl); (case zzc4 => exact rfl)); k_whole; intro zzg' zzL' zzh' zzFG' zzF' zzN' zzB' zzX' zzT' zzS'; (try dsimp only); (try k_lift zzB'); (try k_fold)))
  k_with "exec Assign cons ListComp" => ((k_here; (with_reducible show wpAny _ _ (exec (Stmt.Assign [Expr.Name _ _] (Expr.ListComp _ [Comprehension.mk (Expr.Name _ _) _ [] _] _ _) _) _) _ _ _); k_dflt (refine assign_M (F₀ := by k_asm) (by rfl) (by with_unfolding_all rfl) (by with_unfolding_all rfl) (by decide) (by rfl) (by decide) (by rfl) (by rfl) (by rfl) ?_)))
  k_with "exec Assign cons ListComp" => ((k_here; (with_reducible show wpAny _ _ (exec (Stmt.Assign [Expr.Name _ _] (Expr.ListComp _ [Comprehension.mk (Expr.Name _ _) _ [_] _] _ _) _) _) _ _ _); k_dflt (refine assign_MT (F₀ := by k_asm) (by rfl) (by with_unfolding_all rfl) (by with_unfolding_all rfl) (by decide) (by rfl) (by decide) (by rfl) (by rfl) (by rfl) ?_)))
  k_with "eval ListComp" => ((k_here; (with_reducible show wpAny _ _ (eval (Expr.ListComp _ [Comprehension.mk (Expr.Name _ _) _ [] _] _ _) _) _ _ _); k_dflt (refine comp_M (F₀ := by k_asm) (by with_unfolding_all rfl) (by decide) (by rfl) (by decide) (by rfl) ?_)))
  k_with "eval ListComp" => ((k_here; (with_reducible show wpAny _ _ (eval (Expr.ListComp _ [Comprehension.mk (Expr.Name _ _) _ [_] _] _ _) _) _ _ _); k_dflt (refine comp_MT (F₀ := by k_asm) (by with_unfolding_all rfl) (by decide) (by rfl) (by decide) (by rfl) ?_)))
  k_with "k_mem" => (first | with_reducible assumption | exact List.Mem.head _ | (refine' List.Mem.tail _ ?_; k_mem) | assumption)
  k_with "k_all" => (case zzfresh => first | with_reducible assumption | exact List.forall_mem_nil _ | (refine' List.forall_mem_cons.mpr ⟨?zza, ?zzb⟩; (case zza => k_ne); (case zzb => k_all)))
  k_with "mine sub" => (case zzfresh => first | with_reducible assumption | (intro zzq zzhq; exact List.mem_cons_of_mem _ (by revert zzq zzhq; walk_at "mine sub")))
  k_with "call ref" => (refine stop_here ?_)
  k_with "call ref" => (case zzfresh => (k_here; k_dflt (refine' ConF.useE (by with_reducible assumption) ?zzB ?zzF ?zzX ?zzN ?zzT ?zzhk ?zzhh ?zzhd ?zzhf ?zzhg ?zzhu ?_; (case zzhf => exact rfl); (case zzhk => exact rfl); (case zzhh => exact rfl); (case zzhg => exact rfl); (case zzF => k_asm); (case zzN => k_asm); (case zzB => k_asm); (case zzX => k_in); (case zzT => k_asm); (case zzhd => exact Nat.le_of_ble_eq_true rfl); (case zzhu => exact Nat.le_of_ble_eq_true rfl)); intro zzv' zzh' zztk' zzhpost' zzF' zzN'; k_dflt (obtain ⟨zzu1', zze1'⟩ := zzhpost'); subst zze1'))
  k_with "call builtin:len" => ((k_here; (with_reducible show wpAny _ _ (call (Value.builtin _) [Value.ref _]) _ _ _); k_dflt (refine len_is (News.isList (by k_asm) (by k_mem)) (by with_reducible assumption) (by lia) ?_); intro _ _))
  k_with "mine tail" => (first | with_reducible assumption | (refine List.mem_cons_of_mem _ ?_; walk_at "mine tail"))
  trivial
open Mine.Pl
theorem lines56 : True := by
  k_with "pyIter ref" => (refine stop_here ?_)
  trivial
theorem turn3 {g h : Heap} {L : Addr} {a y b : Addr × Obj} {led : Led} (N : News g L h (a :: y :: b :: led)) : News g L h (b :: a :: led) := News.sub N fun q hq => by
  rcases List.mem_cons.mp hq with e | hq
  · rw [e]; exact .tail _ (.tail _ (.head _))
  · rcases List.mem_cons.mp hq with e | hq
    · rw [e]; exact .head _
    · exact .tail _ (.tail _ (.tail _ hq))
set_option maxRecDepth 100000 in
set_option maxHeartbeats 1000000 in
theorem endA {w : World} {h₀ : Heap} {L fa : Addr} {cd : Value} {p : Program} {loose : List Str} {mean : ExcName → Option Value} {mg mb : Str → Option Value} {sc : Scope} {m : Str → Option Value} {s : Shared}
    {Q : Flow → Shared → Prop} {E : Value → Shared → Prop} {b0 b1 b2 b3 b4 b5 b6 b7 b8 b9 b10 b11 b12 b13 b14 : Stmt} {tl rest : List Stmt} (hat : lawAt w.params = some (b0 :: b1 :: b2 :: b3 :: b4 :: b5 :: b6 :: b7 :: b8 :: b9 :: b10 :: b11 :: b12 :: b13 :: b14 :: tl, sc))
    (X : (Mine.hd.heap_39 w.params).In h₀) (B' : Below callerA h₀ [] h₀) (TT : Top p loose mean mg mb h₀)
    {oM : Obj} {Mv : Addr} {vm : List Value} {nm : Nat} {ms : List Nat} {cn : Int} {led : Led}
    (F : Fr h₀ L s.heap m) (N : News h₀ L s.heap led) (hoM : (L + 1 + 1 + 1 + 1 + 1 + 1, oM) ∈ led) (dM : oM.data = .cell (some (.ref Mv))) (hMv : (Mv, lstN vm nm) ∈ led) (hI : IntsAre vm (ms.map fun j : Nat => (j : Int))) (hl : ms.length ≤ 17) (hcn : ((ms.count 0 : Nat) : Int) = cn)
    (k : ∀ h' tk' Du tm, Fr h₀ L h' (fun y => if y = Str.ofString "due" then some (.ref Du) else if y = Str.ofString "moved" then some (.int cn tm) else m y) → News h₀ L h' ((Du, lstN [] 0) :: led) → (∀ q ∈ led, q.1 ≠ Du) →
      wpAny (model PySem.Challenge.rw_wy0034_01.row.prog w) (callerA.deeper (envOfC (Str.ofString "law") sc L fa cd)) (execs rest (envOfC (Str.ofString "law") sc L fa cd)) Q E { s with heap := h', toks := tk' }) :
    wpAny (model PySem.Challenge.rw_wy0034_01.row.prog w) (callerA.deeper (envOfC (Str.ofString "law") sc L fa cd)) (execs (b13 :: b14 :: rest) (envOfC (Str.ofString "law") sc L fa cd)) Q E s := by
  have e : lawAt w.params = some (_ :: _ :: _ :: _ :: _ :: _ :: _ :: _ :: _ :: _ :: _ :: _ :: _ :: _ :: _ :: _, _) := rfl
  cases hat.symm.trans e
  clear hat e
  revert X
  k_fill
  intro X
  k_steps
  have sM : vm.toArray.size = (ms.map fun j : Nat => (j : Int)).length := by simp [hI.length]
  refine SrcMT.led rfl (by k_asm) (by k_asm) (by k_mem) (by rw [sizeLine_eq, sM, List.length_map]; lia) fun g' => ?_
  refine rest_filter (p := fun j => decide ((ms.map fun j : Nat => (j : Int)).getD j 0 = 0)) (R := fun j y => ∃ u, y = .int ((ms.map fun j : Nat => (j : Int)).getD j 0) u) (.inr ⟨_, by k_mem, rfl, _, rfl⟩) ?_ ?_
  · intro i zs v I oI C oC D m₂ h tk E' hi hP hC hx F1 N1 off ne
    obtain ⟨u9, rfl⟩ := ints_at hI hP
    k_steps
    · exact ⟨_, _, rfl, by assumption, by assumption, _, rfl⟩
    · exact ⟨_, _, rfl, by assumption, by assumption, trivial⟩
  · intro zs ha
    rw [sM] at ha
    have hz := ints_filter (q := fun z => decide (z = 0)) ha
    clear ha
    have hzl : (zs.length : Int) = cn := by rw [hz.length, count_filter]; exact hcn
    have hcl : cn ≤ 17 := by
      have := List.count_le_length (a := 0) (l := ms)
      lia
    k_steps
    rename _ ∧ AllLt _ led => l9
    rename News _ _ _ _ => N9
    refine k _ _ _ _ (by assumption) (News.sub N9 (fun q hq => ?_)) (fun q hq => Nat.ne_of_lt (lt_at l9.2 q hq))
    rcases List.mem_cons.mp hq with e | hq
    · rw [e]; exact .head _
    · exact .tail _ (.tail _ hq)
theorem lines57 : True := by
  k_with "subscriptTail Name Name ref int" => ((k_here; k_dflt (refine item_ms (News.isList (by k_asm) (by k_mem)) (by with_reducible assumption) (by with_reducible assumption) (by with_reducible assumption) (by with_reducible assumption) (by with_reducible assumption) ?_); intro _))
  k_with "subscriptTail Name Constant ref int" => ((k_here; k_dflt (refine item_ms (News.isList (by k_asm) (by k_mem)) (by with_reducible assumption) (by decide) (by decide) (by with_reducible assumption) (by with_reducible assumption) ?_); intro _))
  trivial
set_option maxRecDepth 100000 in
set_option maxHeartbeats 1000000 in
theorem dueA {w : World} {h₀ : Heap} {L fa : Addr} {cd : Value} {p : Program} {loose : List Str} {mean : ExcName → Option Value} {mg mb : Str → Option Value} {sc : Scope} {m : Str → Option Value} {s : Shared}
    {Q : Flow → Shared → Prop} {E : Value → Shared → Prop} {d0 d1 : Stmt} {tl rest : List Stmt} (hat : dueAt w.params = some (d0 :: d1 :: tl, sc))
    (X : (Mine.hd.heap_39 w.params).In h₀) (B' : Below callerA h₀ [] h₀) (TT : Top p loose mean mg mb h₀)
    {oM : Obj} {Mv : Addr} {vm : List Value} {nm q qe : Nat} {ms : List Nat} {i cn st : Int} {ti tc : Tok} {led : Led}
    (F : Fr h₀ L s.heap m) (N : News h₀ L s.heap led) (hturn : m (Str.ofString "turn") = some (.int i ti)) (hmoved : m (Str.ofString "moved") = some (.int cn tc)) (hoM : (L + 1 + 1 + 1 + 1 + 1 + 1, oM) ∈ led) (dM : oM.data = .cell (some (.ref Mv))) (hMv : (Mv, lstN vm nm) ∈ led) (hI : IntsAre vm (ms.map fun j : Nat => (j : Int))) (hl : ms.length = 17)
    (i0 : 0 ≤ i) (i17 : i < 17) (hq : ms.getD i.toNat 0 = q) (hqe : ms.getD (16 : Int).toNat 0 = qe) (hst : (if q ≤ qe then cn else cn - 1) = st)
    (k : ∀ h' tk' tq tt, Fr h₀ L h' (fun y => if y = Str.ofString "steps" then some (.int st tt) else if y = Str.ofString "seat" then some (.int ((q : Nat) : Int) tq) else m y) → News h₀ L h' led →
      wpAny (model PySem.Challenge.rw_wy0034_01.row.prog w) (callerA.deeper (envOfC (Str.ofString "law") sc L fa cd)) (execs rest (envOfC (Str.ofString "law") sc L fa cd)) Q E { s with heap := h', toks := tk' }) :
    wpAny (model PySem.Challenge.rw_wy0034_01.row.prog w) (callerA.deeper (envOfC (Str.ofString "law") sc L fa cd)) (execs (d0 :: d1 :: rest) (envOfC (Str.ofString "law") sc L fa cd)) Q E s := by
  have e : dueAt w.params = some (_ :: _ :: _, _) := rfl
  cases hat.symm.trans e
  clear hat e
  obtain ⟨m0, rfl⟩ : ∃ m0, m = fun y => if y = Str.ofString "turn" then some (.int i ti) else if y = Str.ofString "moved" then some (.int cn tc) else m0 y := ⟨m, by funext y; (repeat' split) <;> simp_all⟩
  clear hturn hmoved
  revert X
  k_fill
  intro X
  by_cases hle : q ≤ qe
  · rw [if_pos hle] at hst
    subst hst
    have hle' : (q : Int) ≤ (qe : Int) := by lia
    k_steps
    exact k _ _ _ _ (by assumption) (by assumption)
  · rw [if_neg hle] at hst
    subst hst
    have hle' : ¬ (q : Int) ≤ (qe : Int) := by lia
    k_steps
    exact k _ _ _ _ (by assumption) (by assumption)
theorem lines58 : True := by
  k_with "subscriptTail Name Constant ref int" => ((k_here; (with_reducible show wpAny _ _ (subscriptTail _ _ (Value.ref _) (Value.int _ _)) _ _ _); k_dflt (refine item_listL (News.isList (by k_asm) (by k_mem)) (by decide) (by decide) (by rfl) ?_)))
  k_with "subscriptTail" => ((k_here; (with_reducible show wpAny _ _ (subscriptTail _ _ (Value.str (Str.ofString "abcd") _) (Value.int _ _)) _ _ _); k_dflt (refine seat_low (by with_reducible assumption) ?_); intro _ _))
  k_with "subscriptTail" => ((k_here; (with_reducible show wpAny _ _ (subscriptTail _ _ (Value.str (Str.ofString "ABCD") _) (Value.int _ _)) _ _ _); k_dflt (refine seat_up (by with_reducible assumption) ?_); intro _ _))
  k_with "subscriptTail" => ((k_here; (with_reducible show wpAny _ _ (subscriptTail _ _ (Value.ref _) (Value.int _ _)) _ _ _); k_dflt (refine item_listL (News.isList (by k_asm) (by k_mem)) (by decide) (by decide) (by rfl) ?_)))
  k_with "binaryOp Mod int int" => ((k_here; k_dflt (refine mod_is (by first | decide | with_reducible assumption) (by with_reducible assumption) ?_)))
  k_with "binaryOp Mult int int" => ((k_here; k_dflt (refine mul_int ?_ (by with_reducible assumption))))
  k_with "call ref" => (case zzfresh => (k_here; k_dflt ((rename (∀ _ : Tok, ConF _ 0 _ _ _) => zzc9); refine' ConF.useE (zzc9 _) ?zzB ?zzF ?zzX ?zzN ?zzT ?zzhk ?zzhh ?zzhd ?zzhf ?zzhg ?zzhu ?_; (case zzhf => exact rfl); (case zzhk => exact rfl); (case zzhh => exact rfl); (case zzhg => exact rfl); (case zzF => k_asm); (case zzN => k_asm); (case zzB => k_asm); (case zzX => k_in); (case zzT => k_asm); (case zzhd => exact Nat.le_of_ble_eq_true rfl); (case zzhu => exact Nat.le_of_ble_eq_true rfl)); intro zzv' zzh' zztk' zzhpost' zzF' zzN'; k_dflt (obtain ⟨zzu1', zze1'⟩ := zzhpost'); subst zze1'))
  k_with "call ref" => (case zzfresh => (k_here; k_dflt ((rename (∀ _ _ : Tok, ConF _ 0 _ _ _) => zzc9); refine' ConF.useE (zzc9 _ _) ?zzB ?zzF ?zzX ?zzN ?zzT ?zzhk ?zzhh ?zzhd ?zzhf ?zzhg ?zzhu ?_; (case zzhf => exact rfl); (case zzhk => exact rfl); (case zzhh => exact rfl); (case zzhg => exact rfl); (case zzF => k_asm); (case zzN => k_asm); (case zzB => k_asm); (case zzX => k_in); (case zzT => k_asm); (case zzhd => exact Nat.le_of_ble_eq_true rfl); (case zzhu => exact Nat.le_of_ble_eq_true rfl)); intro zzv' zzh' zztk' zzhpost' zzF' zzN'; k_dflt (obtain ⟨zzu1', zze1'⟩ := zzhpost'); subst zze1'))
  trivial
set_option maxRecDepth 100000 in
set_option maxHeartbeats 1000000 in
theorem dueB {w : World} {h₀ : Heap} {L fa : Addr} {cd : Value} {p : Program} {loose : List Str} {mean : ExcName → Option Value} {mg mb : Str → Option Value} {sc : Scope} {m : Str → Option Value} {s : Shared}
    {Q : Flow → Shared → Prop} {E : Value → Shared → Prop} {d0 d1 d2 d3 : Stmt} (hat : dueAt w.params = some ([d0, d1, d2, d3], sc))
    (X : (Mine.hd.heap_39 w.params).In h₀) (B' : Below callerA h₀ [] h₀) (TT : Top p loose mean mg mb h₀)
    {oB oS oC : Obj} {Ce Du : Addr} {vd : List Value} {nc nd q : Nat} {i st base step c0 c1 c2 c3 c4 c5 c6 vv : Int} {ti tq tt td ts1 tb1 v0 v1 v2 v3 v4 v5 v6 : Tok} {led : Led}
    (F : Fr h₀ L s.heap m) (N : News h₀ L s.heap ((Du, lstN vd nd) :: led)) (hne : ∀ q ∈ led, q.1 ≠ Du) (hturn : m (Str.ofString "turn") = some (.int i ti)) (hsteps : m (Str.ofString "steps") = some (.int st tt)) (hseat : m (Str.ofString "seat") = some (.int ((q : Nat) : Int) tq)) (hdue : m (Str.ofString "due") = some (.ref Du))
    (hoB : (L + 1 + 1 + 1, oB) ∈ led) (dB : oB.data = .cell (some (.int base tb1))) (hoS : (L + 1 + 1 + 1 + 1, oS) ∈ led) (dS : oS.data = .cell (some (.int step ts1))) (hoC : (L + 1 + 1, oC) ∈ led) (dC : oC.data = .cell (some (.ref Ce))) (hCe : (Ce, lstN [.int c0 v0, .int c1 v1, .int c2 v2, .int c3 v3, .int c4 v4, .int c5 v5, .int c6 v6] nc) ∈ led)
    (hq4 : q < 4) (hb : 0 < base) (hm : IntMulOk st step) (hv : (c2 + st * step) % base = vv) (vv0 : 0 ≤ vv) (vv1 : vv < 4096) (hvd : vd.length ≤ 100)
    (k : ∀ h' tk' nd' Tn t9 u9 tw, Fr h₀ L h' (fun y => if y = Str.ofString "word" then some (.str (S (wd (dg vv.toNat))) tw) else m y) →
      News h₀ L h' ((Du, lstN (vd ++ [.ref Tn]) nd') :: (Tn, pairO ((if i % 2 = 0 then 97 else 65) + q) (tx (dg vv.toNat) (i % 3).toNat) t9 u9) :: led) → Q .next { s with heap := h', toks := tk' }) :
    wpAny (model PySem.Challenge.rw_wy0034_01.row.prog w) (callerA.deeper (envOfC (Str.ofString "law") sc L fa cd)) (execs [d2, d3] (envOfC (Str.ofString "law") sc L fa cd)) Q E s := by
  have e : dueAt w.params = some ([_, _, _, _], _) := rfl
  cases hat.symm.trans e
  clear hat e
  obtain ⟨m0, rfl⟩ : ∃ m0, m = fun y => if y = Str.ofString "turn" then some (.int i ti) else if y = Str.ofString "steps" then some (.int st tt) else if y = Str.ofString "seat" then some (.int ((q : Nat) : Int) tq) else if y = Str.ofString "due" then some (.ref Du) else m0 y := ⟨m, by funext y; (repeat' split) <;> simp_all⟩
  clear hturn hsteps hseat hdue
  have cL : ∀ t1 : Tok, ConF w 0 (call (.ref 221) [.int vv t1]) [] (fun r own' => own' = [] ∧ ∃ t, r = .str (S (wd (dg vv.toNat))) t) := fun t1 => Let.letters vv0 vv1
  have cW : ∀ t1 t2 : Tok, ConF w 0 (call (.ref 216) [.str (S (wd (dg vv.toNat))) t1, .int i t2]) [] (fun v own' => own' = [] ∧ ∃ t, v = .str (S (tx (dg vv.toNat) (i % 3).toNat)) t) := fun _ _ => Wr.wr (dg_ok _)
  revert X
  k_fill
  intro X
  rcases (show i % 2 = 0 ∨ i % 2 = 1 by lia) with hi | hi
  · rw [if_pos hi] at k
    k_steps
    rename News _ _ _ _ => N9
    simp only [List.push_toArray] at N9
    exact k _ _ _ _ _ _ _ (by assumption) (turn3 N9)
  · rw [if_neg (by lia)] at k
    k_steps
    rename News _ _ _ _ => N9
    simp only [List.push_toArray] at N9
    exact k _ _ _ _ _ _ _ (by assumption) (turn3 N9)


end Mine.En
end
section
open PySem PySem.W PyProof.Rows PySem.Builtin.Int
open PyProof.Rows.LCg Mine.LC Mine.Bk PySem.Calls
namespace Mine.En2
theorem lines59 : True := by
  k_with_none
  w_top off
  k_with "execs cons" => (((try dsimp only); refine toks_any ?_; intro _))
  k_with "k_enter" => (case zzfresh => (refine' code_def ?zzk1 ?zzk2 ?zzk3 ?zzk4 ?zzk5 ?zzkA ?zzkF ?zzkK ?zzk6 ?zzk7 ?zzk8 ?zzk9 ?zzkB ?_ ?zzc2 ?zzc3 ?zzc4 ?zzc5; (case zzkA => exact rfl); (case zzkF => exact rfl); (case zzkK => first | exact rfl | assumption); (case zzk1 => k_asm); (case zzk2 => k_asm); (case zzk3 => k_asm); (case zzk4 => k_asm); (case zzk5 => k_asm); (case zzk6 => k_is); (case zzk7 => k_is); (case zzk8 => k_room); (case zzk9 => first | exact BindsTo.of_eq rfl | exact binds_K (by k_in) rfl (by k_is) rfl rfl rfl | (refine kp_binds (by k_in) ?_; exact fun _ => rfl) | fail "k_enter: no rule for these arguments"); (case zzc5 => decide); (case zzkB => exact locs rfl); (case zzc2 => exact rfl); (case zzc3 => exact rfl); (case zzc4 => exact rfl); k_whole; intro zzg' zzL' zzh' zzFG' zzF' zzN' zzB' zzX' zzT'; (try dsimp only); (try k_lift zzB'); (try k_fold)))
  k_with "k_enter" => (case zzfresh => (refine' code_defC ?zzk1 ?zzk2 ?zzk3 ?zzk4 ?zzk5 ?zzkA ?zzkF ?zzkK ?zzk6 ?zzk7 ?zzk8 ?zzk9 ?zzkB ?zzkD ?_ ?zzc2 ?zzc3 ?zzc4; (case zzkA => exact rfl); (case zzkF => exact rfl); (case zzkK => first | exact rfl | assumption); (case zzk1 => k_asm); (case zzk2 => k_asm); (case zzk3 => k_asm); (case zzk4 => k_asm); (case zzk5 => k_asm); (case zzk6 => k_is); (case zzk7 => k_is); (case zzk8 => k_room); (case zzk9 => first | exact BindsTo.of_eq rfl | exact binds_K (by k_in) rfl (by k_is) rfl rfl rfl | (refine kp_binds (by k_in) ?_; exact fun _ => rfl) | fail "k_enter: no rule for these arguments"); (case zzkB => exact rfl); (case zzkD => decide +kernel); (case zzc2 => exact rfl); (case zzc3 => exact rfl); (case zzc4 => exact rfl); k_whole; intro zzg' zzL' zzh' zztk' zzcells' zzFG' zzF' zzN' zzY' zzB' zzX' zzT' zzl1; (try k_lt zzl1); k_cells zzY'; (try simp only [List.cons_append, List.nil_append] at zzN'); (try dsimp only); (try k_lift zzB'); (try k_fold)))
  k_with "mine open" => ((refine wpAny_call ?_; k_dflt (first | k_enter | kc_enter)))
  k_with "mine open R" => (case zzfresh => (refine wpAny_call ?_; k_dflt (refine' code_defR ?zzk1 ?zzk2 ?zzk3 ?zzk4 ?zzkD ?zzk5 ?zzkA ?zzkF ?zzkK ?zzk6 ?zzk7 ?zzk8 ?zzk9 ?zzkB ?_ ?zzc2 ?zzc3 ?zzc4 ?zzc5; (case zzkA => exact rfl); (case zzkF => exact rfl); (case zzkK => first | exact rfl | assumption); (case zzk1 => k_asm); (case zzk2 => k_asm); (case zzk3 => k_asm); (case zzk4 => with_reducible assumption); (case zzkD => with_reducible assumption); (case zzk5 => k_asm); (case zzk6 => k_is); (case zzk7 => k_is); (case zzk8 => k_room); (case zzk9 => first | exact BindsTo.of_eq rfl | exact binds_K (by k_in) rfl (by k_is) rfl rfl rfl | (refine kp_binds (by k_in) ?_; exact fun _ => rfl) | fail "k_enter: no rule for these arguments"); (case zzc5 => decide); (case zzkB => exact locs rfl); (case zzc2 => exact rfl); (case zzc3 => exact rfl); (case zzc4 => exact rfl)); k_whole; intro zzg' zzL' zzh' zzFG' zzF' zzN' zzB' zzX' zzT' zzS'; (try dsimp only); (try k_lift zzB'); (try k_fold)))
  k_with "mine open CR" => (case zzfresh => (refine wpAny_call ?_; k_dflt (refine' code_defCR ?zzk1 ?zzk2 ?zzk3 ?zzk4 ?zzkR ?zzk5 ?zzkA ?zzkF ?zzkK ?zzk6 ?zzk7 ?zzk8 ?zzk9 ?zzkB ?zzkD ?_ ?zzc2 ?zzc3 ?zzc4; (case zzkA => exact rfl); (case zzkF => exact rfl); (case zzkK => first | exact rfl | assumption); (case zzk1 => k_asm); (case zzk2 => k_asm); (case zzk3 => k_asm); (case zzk4 => with_reducible assumption); (case zzkR => with_reducible assumption); (case zzk5 => k_asm); (case zzk6 => k_is); (case zzk7 => k_is); (case zzk8 => k_room); (case zzk9 => first | exact BindsTo.of_eq rfl | exact binds_K (by k_in) rfl (by k_is) rfl rfl rfl | (refine kp_binds (by k_in) ?_; exact fun _ => rfl) | fail "k_enter: no rule for these arguments"); (case zzkB => exact rfl); (case zzkD => decide +kernel); (case zzc2 => exact rfl); (case zzc3 => exact rfl); (case zzc4 => exact rfl)); k_whole; intro zzg' zzL' zzh' zztk' zzcells' zzFG' zzF' zzN' zzY' zzB' zzX' zzT' zzl1 zzS'; (try k_lt zzl1); k_cells zzY'; (try simp only [List.cons_append, List.nil_append] at zzN'); (try dsimp only); (try k_lift zzB'); (try k_fold)))
  k_with "mine open CR0" => (case zzfresh => (refine wpAny_call ?_; k_dflt (refine' code_defCR (own := []) ?zzk1 ?zzk2 ?zzk3 ?zzk4 ?zzkR ?zzk5 ?zzkA ?zzkF ?zzkK ?zzk6 ?zzk7 ?zzk8 ?zzk9 ?zzkB ?zzkD ?_ ?zzc2 ?zzc3 ?zzc4; (case zzkA => exact rfl); (case zzkF => exact rfl); (case zzkK => first | exact rfl | assumption); (case zzk1 => k_asm); (case zzk2 => k_asm); (case zzk3 => k_asm); (case zzk4 => k_asm); (case zzkR => exact Apart.zero); (case zzk5 => k_asm); (case zzk6 => k_is); (case zzk7 => k_is); (case zzk8 => k_room); (case zzk9 => first | exact BindsTo.of_eq rfl | exact binds_K (by k_in) rfl (by k_is) rfl rfl rfl | (refine kp_binds (by k_in) ?_; exact fun _ => rfl) | fail "k_enter: no rule for these arguments"); (case zzkB => exact rfl); (case zzkD => decide +kernel); (case zzc2 => exact rfl); (case zzc3 => exact rfl); (case zzc4 => exact rfl)); k_whole; intro zzg' zzL' zzh' zztk' zzcells' zzFG' zzF' zzN' zzY' zzB' zzX' zzT' zzl1 zzS'; clear zzl1; k_cells zzY'; (try simp only [List.cons_append, List.nil_append, List.append_nil] at zzN'); (try dsimp only); (try k_lift zzB'); (try k_fold)))
  k_with "mine open R0" => (case zzfresh => (refine wpAny_call ?_; k_dflt (refine' code_defR (own := []) ?zzk1 ?zzk2 ?zzk3 ?zzk4 ?zzkD ?zzk5 ?zzkA ?zzkF ?zzkK ?zzk6 ?zzk7 ?zzk8 ?zzk9 ?zzkB ?_ ?zzc2 ?zzc3 ?zzc4 ?zzc5; (case zzkA => exact rfl); (case zzkF => exact rfl); (case zzkK => first | exact rfl | assumption); (case zzk1 => k_asm); (case zzk2 => k_asm); (case zzk3 => k_asm); (case zzk4 => k_asm); (case zzkD => exact Apart.zero); (case zzk5 => k_asm); (case zzk6 => k_is); (case zzk7 => k_is); (case zzk8 => k_room); (case zzk9 => first | exact BindsTo.of_eq rfl | exact binds_K (by k_in) rfl (by k_is) rfl rfl rfl | (refine kp_binds (by k_in) ?_; exact fun _ => rfl) | fail "k_enter: no rule for these arguments"); (case zzc5 => decide); (case zzkB => exact locs rfl); (case zzc2 => exact rfl); (case zzc3 => exact rfl); (case zzc4 => exact rfl)); k_whole; intro zzg' zzL' zzh' zzFG' zzF' zzN' zzB' zzX' zzT' zzS'; (try dsimp only); (try k_lift zzB'); (try k_fold)))
  k_with "exec Assign cons ListComp" => ((k_here; (with_reducible show wpAny _ _ (exec (Stmt.Assign [Expr.Name _ _] (Expr.ListComp _ [Comprehension.mk (Expr.Name _ _) _ [] _] _ _) _) _) _ _ _); k_dflt (refine assign_M (F₀ := by k_asm) (by rfl) (by with_unfolding_all rfl) (by with_unfolding_all rfl) (by decide) (by rfl) (by decide) (by rfl) (by rfl) (by rfl) ?_)))
  k_with "exec Assign cons ListComp" => ((k_here; (with_reducible show wpAny _ _ (exec (Stmt.Assign [Expr.Name _ _] (Expr.ListComp _ [Comprehension.mk (Expr.Name _ _) _ [_] _] _ _) _) _) _ _ _); k_dflt (refine assign_MT (F₀ := by k_asm) (by rfl) (by with_unfolding_all rfl) (by with_unfolding_all rfl) (by decide) (by rfl) (by decide) (by rfl) (by rfl) (by rfl) ?_)))
  k_with "eval ListComp" => ((k_here; (with_reducible show wpAny _ _ (eval (Expr.ListComp _ [Comprehension.mk (Expr.Name _ _) _ [] _] _ _) _) _ _ _); k_dflt (refine comp_M (F₀ := by k_asm) (by with_unfolding_all rfl) (by decide) (by rfl) (by decide) (by rfl) ?_)))
  k_with "eval ListComp" => ((k_here; (with_reducible show wpAny _ _ (eval (Expr.ListComp _ [Comprehension.mk (Expr.Name _ _) _ [_] _] _ _) _) _ _ _); k_dflt (refine comp_MT (F₀ := by k_asm) (by with_unfolding_all rfl) (by decide) (by rfl) (by decide) (by rfl) ?_)))
  k_with "k_mem" => (first | with_reducible assumption | exact List.Mem.head _ | (refine' List.Mem.tail _ ?_; k_mem) | assumption)
  k_with "k_all" => (case zzfresh => first | with_reducible assumption | exact List.forall_mem_nil _ | (refine' List.forall_mem_cons.mpr ⟨?zza, ?zzb⟩; (case zza => k_ne); (case zzb => k_all)))
  k_with "mine sub" => (case zzfresh => first | with_reducible assumption | (intro zzq zzhq; exact List.mem_cons_of_mem _ (by revert zzq zzhq; walk_at "mine sub")))
  k_with "call ref" => (refine stop_here ?_)
  k_with "call ref" => (case zzfresh => (k_here; k_dflt (refine' ConF.useE (by with_reducible assumption) ?zzB ?zzF ?zzX ?zzN ?zzT ?zzhk ?zzhh ?zzhd ?zzhf ?zzhg ?zzhu ?_; (case zzhf => exact rfl); (case zzhk => exact rfl); (case zzhh => exact rfl); (case zzhg => exact rfl); (case zzF => k_asm); (case zzN => k_asm); (case zzB => k_asm); (case zzX => k_in); (case zzT => k_asm); (case zzhd => exact Nat.le_of_ble_eq_true rfl); (case zzhu => exact Nat.le_of_ble_eq_true rfl)); intro zzv' zzh' zztk' zzhpost' zzF' zzN'; k_dflt (obtain ⟨zzu1', zze1'⟩ := zzhpost'); subst zze1'))
  k_with "call builtin:len" => ((k_here; (with_reducible show wpAny _ _ (call (Value.builtin _) [Value.ref _]) _ _ _); k_dflt (refine len_is (News.isList (by k_asm) (by k_mem)) (by with_reducible assumption) (by lia) ?_); intro _ _))
  k_with "mine tail" => (first | with_reducible assumption | (refine List.mem_cons_of_mem _ ?_; walk_at "mine tail"))
  trivial
open Mine.Pl Mine.En PySem.Builtin.Int

theorem loop2_rest {w : World} {h₀ : Heap} {L fa : Addr} {cd : Value} {p : Program} {loose : List Str} {mean : ExcName → Option Value} {mg mb : Str → Option Value} {sc : Scope} {s : Shared}
    {Q : Flow → Shared → Prop} {E : Value → Shared → Prop} {d0 d1 d2 d3 : Stmt} (hat : dueAt w.params = some ([d0, d1, d2, d3], sc))
    (X : (Mine.hd.heap_39 w.params).In h₀) (B' : Below callerA h₀ [] h₀) (TT : Top p loose mean mg mb h₀)
    {B G Mv Ce Fa I Du : Addr} {oM oS oB oC : Obj} {base step unit far0 gr below c2 cn : Int} {vc vf vm : List Value} {nc nm : Nat} {t : Tg} {σ τ c kk : Nat → Nat} {ms bef : List Nat} {led : Led}
    (cst : Cst oM oS oB oC base step unit far0 gr below c2 G Mv Ce Fa vc vf) (hS : St base step c2 17 t σ τ c kk ms bef) (hcn : ((ms.count 0 : Nat) : Int) = cn)
    (hvm : IntsAre vm (ms.map fun j : Nat => (j : Int))) (oMm : (L + 1 + 1 + 1 + 1 + 1 + 1, oM) ∈ led) (oSm : (L + 1 + 1 + 1 + 1, oS) ∈ led) (oBm : (L + 1 + 1 + 1, oB) ∈ led) (oCm : (L + 1 + 1, oC) ∈ led) (Mvm : (Mv, lstN vm nm) ∈ led) (Cem : (Ce, lstN vc nc) ∈ led)
    (hDu : ∀ q ∈ led, q.1 ≠ Du) (hDI : Du ≠ I) (hI : ∀ q ∈ led, q.1 ≠ I)
    (done : ∀ h tk m (Dt : Nat → Addr) (ta tb : Nat → Tok) nd, m (Str.ofString "due") = some (.ref Du) → m (Str.ofString "book") = some (.ref B) → m (Str.ofString "given") = some (.ref G) → Fr h₀ L h m →
      News h₀ L h ((Du, lstN ((List.range 4).map fun b => .ref (Dt b)) nd) :: (((List.range 4).map fun b => (Dt b, pairO (sgn (13 + b) (ms.getD (13 + b) 0)) (tx (dg (t (ms.getD (13 + b) 0)).toNat) (kdn (13 + b))) (ta b) (tb b))) ++ led)) → Q .next { s with heap := h, toks := tk }) :
    ∀ k j m (hj : j + k = 4) (Dt : Nat → Addr) (ta tb : Nat → Tok) nd, (∃ tc, m (Str.ofString "moved") = some (.int cn tc)) → m (Str.ofString "due") = some (.ref Du) → m (Str.ofString "book") = some (.ref B) → m (Str.ofString "given") = some (.ref G) →
      RangeRest PySem.Challenge.rw_wy0034_01.row.prog w (callerA.deeper (envOfC (Str.ofString "law") sc L fa cd)) E h₀ (envOfC (Str.ofString "law") sc L fa cd) (Str.ofString "turn") [d0, d1, d2, d3] Q s I 13 4 k j m
        ((Du, lstN ((List.range j).map fun b => .ref (Dt b)) nd) :: (((List.range j).map fun b => (Dt b, pairO (sgn (13 + b) (ms.getD (13 + b) 0)) (tx (dg (t (ms.getD (13 + b) 0)).toNat) (kdn (13 + b))) (ta b) (tb b))) ++ led)) := by
  obtain ⟨c0, c1, c3, c4, c5, c6, v0, v1, v2, v3, v4, v5, v6, rfl⟩ := cst.vc
  obtain ⟨ts1, eS⟩ := cst.dS
  obtain ⟨tb1, eB⟩ := cst.dB
  have C := cst.cfg
  have hb' := C.b1801
  have hs1 := C.s1
  have hs0 := C.s0
  intro k
  induction k with
  | zero =>
    intro j m hj Dt ta tb nd hmv hdue hbook hgiven
    obtain rfl : j = 4 := by lia
    exact RangeRest.zero fun h tk F N => done h tk m Dt ta tb nd hdue hbook hgiven F N
  | succ k ih =>
    intro j m hj Dt ta tb nd ⟨tc, hmv⟩ hdue hbook hgiven
    have hj4 : j < 4 := by lia
    refine RangeRest.succ fun t9 h tk F N => ?_
    obtain ⟨f1, f2, f3, f4, f5⟩ := hS.fin hj4
    have hq17 : ms.getD (13 + (j : Int)).toNat 0 = ms.getD (13 + j) 0 := by rw [show (13 + (j : Int)).toNat = 13 + j by lia]
    generalize hqq : ms.getD (13 + j) 0 = q at *
    have rq := hS.rng q f4
    refine dueA (L := L) (fa := fa) (cd := cd) (s := { s with heap := h, toks := tk }) (q := q) (qe := ms.getD 16 0) (st := if q ≤ ms.getD 16 0 then cn else cn - 1) (i := 13 + (j : Int)) hat X B' TT F N rfl hmv (.tail _ (.tail _ (List.mem_append_right _ oMm))) cst.dM (.tail _ (.tail _ (List.mem_append_right _ Mvm))) hvm hS.len (by lia) (by lia) hq17 rfl rfl ?_
    intro h1 tk1 tq tt F1 N1
    -- the word, and the pair behind the list
    have tyI : ty (itR (13 + ((j + 1 : Nat) : Int)) ((4 : Nat) - ((j + 1 : Nat) : Int))) = 2 := rfl
    have N2 : News h₀ L h1 ((Du, lstN ((List.range j).map fun b => .ref (Dt b)) nd) :: ((I, itR (13 + ((j + 1 : Nat) : Int)) ((4 : Nat) - ((j + 1 : Nat) : Int))) :: (((List.range j).map fun b => (Dt b, pairO (sgn (13 + b) (ms.getD (13 + b) 0)) (tx (dg (t (ms.getD (13 + b) 0)).toNat) (kdn (13 + b))) (ta b) (tb b))) ++ led))) := by
      refine News.sub N1 (fun r hr => ?_)
      simp only [List.mem_append, List.mem_cons] at hr ⊢
      rcases hr with h | h | h | h <;> simp only [h, true_or, or_true]
    have hne : ∀ r ∈ ((I, itR (13 + ((j + 1 : Nat) : Int)) ((4 : Nat) - ((j + 1 : Nat) : Int))) :: (((List.range j).map fun b => (Dt b, pairO (sgn (13 + b) (ms.getD (13 + b) 0)) (tx (dg (t (ms.getD (13 + b) 0)).toNat) (kdn (13 + b))) (ta b) (tb b))) ++ led)), r.1 ≠ Du := by
      intro r hr
      have hr0 := hr
      simp only [List.mem_append, List.mem_cons] at hr
      rcases hr with h | h | h
      · rw [h]; exact Ne.symm hDI
      · refine ne_ty N2 (.tail _ hr0) (.head _) ?_
        obtain ⟨b, _, rfl⟩ := List.mem_map.mp h
        show (5 : Nat) ≠ 3; decide
      · exact hDu r h
    have hcl : ((ms.count 0 : Nat) : Int) ≤ 17 := by
      have := List.count_le_length (a := 0) (l := ms)
      rw [hS.len] at this
      lia
    have hst : intBits (if q ≤ ms.getD 16 0 then cn else cn - 1) ≤ 10 := intBits_le_iff.mpr (by split <;> (show Int.natAbs _ < 1024) <;> lia)
    have hsb : intBits step ≤ 11 := Div.bits_le (by lia) (by have : (2 : Int) ^ 11 = 2048 := rfl; lia)
    refine dueB (td := tq) (L := L) (fa := fa) (cd := cd) (s := { s with heap := h1, toks := tk1 }) (q := q) (i := 13 + (j : Int)) (st := if q ≤ ms.getD 16 0 then cn else cn - 1) (step := step) (base := base) (c2 := c2) (vv := t q) hat X B' TT F1 N2 hne rfl rfl rfl hdue
      (.tail _ (List.mem_append_right _ oBm)) eB (.tail _ (List.mem_append_right _ oSm)) eS (.tail _ (List.mem_append_right _ oCm)) cst.dC (.tail _ (List.mem_append_right _ Cem)) f4 C.pos (IntMulOk.of_le hst hsb (by decide)) ?_ rq.1 (by lia) (by simp; lia) ?_
    · rw [f5, ← hcn]
    intro h2 tk2 nd' Tn t8 u8 tw F2 N3
    have eI : ((13 + j : Nat) : Int) = 13 + (j : Int) := by lia
    have e1 : (if (13 + (j : Int)) % 2 = 0 then 97 else 65) + q = sgn (13 + j) q := by unfold sgn; rw [eI]
    have e2 : ((13 + (j : Int)) % 3).toNat = kdn (13 + j) := by unfold kdn; rw [eI]
    rw [e1, e2] at N3
    have eV : (List.range (j + 1)).map (fun b => Value.ref ((fun b => if b = j then Tn else Dt b) b)) = (List.range j).map (fun b => Value.ref (Dt b)) ++ [.ref Tn] := by
      rw [List.range_succ, List.map_append]
      congr 1
      · refine List.map_congr_left fun b hb => ?_
        have : b ≠ j := Nat.ne_of_lt (List.mem_range.mp hb)
        simp [this]
      · simp
    have eT : (List.range (j + 1)).map (fun b => ((fun b => if b = j then Tn else Dt b) b, pairO (sgn (13 + b) (ms.getD (13 + b) 0)) (tx (dg (t (ms.getD (13 + b) 0)).toNat) (kdn (13 + b))) ((fun b => if b = j then t8 else ta b) b) ((fun b => if b = j then u8 else tb b) b))) =
        (List.range j).map (fun b => (Dt b, pairO (sgn (13 + b) (ms.getD (13 + b) 0)) (tx (dg (t (ms.getD (13 + b) 0)).toNat) (kdn (13 + b))) (ta b) (tb b))) ++ [(Tn, pairO (sgn (13 + j) q) (tx (dg (t q).toNat) (kdn (13 + j))) t8 u8)] := by
      rw [List.range_succ, List.map_append]
      congr 1
      · refine List.map_congr_left fun b hb => ?_
        have : b ≠ j := Nat.ne_of_lt (List.mem_range.mp hb)
        simp [this]
      · simp only [List.map_cons, List.map_nil, ↓reduceIte, hqq]
    have r := ih (j + 1) (hj := by lia) (Dt := fun b => if b = j then Tn else Dt b) (ta := fun b => if b = j then t8 else ta b) (tb := fun b => if b = j then u8 else tb b) (nd := nd') (m := fun y => if y = Str.ofString "word" then some (.str (S (wd (dg (t q).toNat))) tw) else if y = Str.ofString "steps" then some (.int (if q ≤ ms.getD 16 0 then cn else cn - 1) tt) else if y = Str.ofString "seat" then some (.int ((q : Nat) : Int) tq) else if y = Str.ofString "turn" then some (.int (13 + (j : Int)) t9) else m y) ⟨tc, hmv⟩ hdue hbook hgiven
    rw [eV, eT] at r
    refine UnrEnd.intro F2 N3 _ (fun r hr => ?_) (fun r hr => ?_) r
    · simp only [List.mem_append, List.mem_cons, List.not_mem_nil, or_false] at hr ⊢
      rcases hr with h | h | (h | h) | h <;> simp only [h, true_or, or_true]
    · simp only [List.mem_append, List.mem_cons, List.not_mem_nil, or_false] at hr
      rcases hr with h | (h | h) | h
      · rw [h]; exact hDI
      · refine ne_ty N3 (p := r) (q := (I, _)) (.tail _ (.tail _ (.tail _ (List.mem_append_left _ h)))) (.tail _ (.tail _ (.head _))) ?_
        obtain ⟨b, _, rfl⟩ := List.mem_map.mp h
        show (5 : Nat) ≠ 2; decide
      · rw [h]
        exact ne_ty N3 (p := (Tn, _)) (q := (I, _)) (.tail _ (.head _)) (.tail _ (.tail _ (.head _))) (by show (5 : Nat) ≠ 2; decide)
      · exact hI r h

end Mine.En2
end
section
open PySem PySem.W PyProof.Rows PySem.Builtin.Int
open PyProof.Rows.LCg Mine.LC Mine.Bk PySem.Calls
namespace Mine.En3
theorem lines60 : True := by
  k_with_none
  w_top off
  k_with "execs cons" => (((try dsimp only); refine toks_any ?_; intro _))
  k_with "k_enter" => (case zzfresh => (refine' code_def ?zzk1 ?zzk2 ?zzk3 ?zzk4 ?zzk5 ?zzkA ?zzkF ?zzkK ?zzk6 ?zzk7 ?zzk8 ?zzk9 ?zzkB ?_ ?zzc2 ?zzc3 ?zzc4 ?zzc5; (case zzkA => exact rfl); (case zzkF => exact rfl); (case zzkK => first | exact rfl | assumption); (case zzk1 => k_asm); (case zzk2 => k_asm); (case zzk3 => k_asm); (case zzk4 => k_asm); (case zzk5 => k_asm); (case zzk6 => k_is); (case zzk7 => k_is); (case zzk8 => k_room); (case zzk9 => first | exact BindsTo.of_eq rfl | exact binds_K (by k_in) rfl (by k_is) rfl rfl rfl | (refine kp_binds (by k_in) ?_; exact fun _ => rfl) | fail "k_enter: no rule for these arguments"); (case zzc5 => decide); (case zzkB => exact locs rfl); (case zzc2 => exact rfl); (case zzc3 => exact rfl); (case zzc4 => exact rfl); k_whole; intro zzg' zzL' zzh' zzFG' zzF' zzN' zzB' zzX' zzT'; (try dsimp only); (try k_lift zzB'); (try k_fold)))
  k_with "k_enter" => (case zzfresh => (refine' code_defC ?zzk1 ?zzk2 ?zzk3 ?zzk4 ?zzk5 ?zzkA ?zzkF ?zzkK ?zzk6 ?zzk7 ?zzk8 ?zzk9 ?zzkB ?zzkD ?_ ?zzc2 ?zzc3 ?zzc4; (case zzkA => exact rfl); (case zzkF => exact rfl); (case zzkK => first | exact rfl | assumption); (case zzk1 => k_asm); (case zzk2 => k_asm); (case zzk3 => k_asm); (case zzk4 => k_asm); (case zzk5 => k_asm); (case zzk6 => k_is); (case zzk7 => k_is); (case zzk8 => k_room); (case zzk9 => first | exact BindsTo.of_eq rfl | exact binds_K (by k_in) rfl (by k_is) rfl rfl rfl | (refine kp_binds (by k_in) ?_; exact fun _ => rfl) | fail "k_enter: no rule for these arguments"); (case zzkB => exact rfl); (case zzkD => decide +kernel); (case zzc2 => exact rfl); (case zzc3 => exact rfl); (case zzc4 => exact rfl); k_whole; intro zzg' zzL' zzh' zztk' zzcells' zzFG' zzF' zzN' zzY' zzB' zzX' zzT' zzl1; (try k_lt zzl1); k_cells zzY'; (try simp only [List.cons_append, List.nil_append] at zzN'); (try dsimp only); (try k_lift zzB'); (try k_fold)))
  k_with "mine open" => ((refine wpAny_call ?_; k_dflt (first | k_enter | kc_enter)))
  k_with "mine open R" => (case zzfresh => (refine wpAny_call ?_; k_dflt (refine' code_defR ?zzk1 ?zzk2 ?zzk3 ?zzk4 ?zzkD ?zzk5 ?zzkA ?zzkF ?zzkK ?zzk6 ?zzk7 ?zzk8 ?zzk9 ?zzkB ?_ ?zzc2 ?zzc3 ?zzc4 ?zzc5; (case zzkA => exact rfl); (case zzkF => exact rfl); (case zzkK => first | exact rfl | assumption); (case zzk1 => k_asm); (case zzk2 => k_asm); (case zzk3 => k_asm); (case zzk4 => with_reducible assumption); (case zzkD => with_reducible assumption); (case zzk5 => k_asm); (case zzk6 => k_is); (case zzk7 => k_is); (case zzk8 => k_room); (case zzk9 => first | exact BindsTo.of_eq rfl | exact binds_K (by k_in) rfl (by k_is) rfl rfl rfl | (refine kp_binds (by k_in) ?_; exact fun _ => rfl) | fail "k_enter: no rule for these arguments"); (case zzc5 => decide); (case zzkB => exact locs rfl); (case zzc2 => exact rfl); (case zzc3 => exact rfl); (case zzc4 => exact rfl)); k_whole; intro zzg' zzL' zzh' zzFG' zzF' zzN' zzB' zzX' zzT' zzS'; (try dsimp only); (try k_lift zzB'); (try k_fold)))
  k_with "mine open CR" => (case zzfresh => (refine wpAny_call ?_; k_dflt (refine' code_defCR ?zzk1 ?zzk2 ?zzk3 ?zzk4 ?zzkR ?zzk5 ?zzkA ?zzkF ?zzkK ?zzk6 ?zzk7 ?zzk8 ?zzk9 ?zzkB ?zzkD ?_ ?zzc2 ?zzc3 ?zzc4; (case zzkA => exact rfl); (case zzkF => exact rfl); (case zzkK => first | exact rfl | assumption); (case zzk1 => k_asm); (case zzk2 => k_asm); (case zzk3 => k_asm); (case zzk4 => with_reducible assumption); (case zzkR => with_reducible assumption); (case zzk5 => k_asm); (case zzk6 => k_is); (case zzk7 => k_is); (case zzk8 => k_room); (case zzk9 => first | exact BindsTo.of_eq rfl | exact binds_K (by k_in) rfl (by k_is) rfl rfl rfl | (refine kp_binds (by k_in) ?_; exact fun _ => rfl) | fail "k_enter: no rule for these arguments"); (case zzkB => exact rfl); (case zzkD => decide +kernel); (case zzc2 => exact rfl); (case zzc3 => exact rfl); (case zzc4 => exact rfl)); k_whole; intro zzg' zzL' zzh' zztk' zzcells' zzFG' zzF' zzN' zzY' zzB' zzX' zzT' zzl1 zzS'; (try k_lt zzl1); k_cells zzY'; (try simp only [List.cons_append, List.nil_append] at zzN'); (try dsimp only); (try k_lift zzB'); (try k_fold)))
  k_with "mine open CR0" => (case zzfresh => (refine wpAny_call ?_; k_dflt (refine' code_defCR (own := []) ?zzk1 ?zzk2 ?zzk3 ?zzk4 ?zzkR ?zzk5 ?zzkA ?zzkF ?zzkK ?zzk6 ?zzk7 ?zzk8 ?zzk9 ?zzkB ?zzkD ?_ ?zzc2 ?zzc3 ?zzc4; (case zzkA => exact rfl); (case zzkF => exact rfl); (case zzkK => first | exact rfl | assumption); (case zzk1 => k_asm); (case zzk2 => k_asm); (case zzk3 => k_asm); (case zzk4 => k_asm); (case zzkR => exact Apart.zero); (case zzk5 => k_asm); (case zzk6 => k_is); (case zzk7 => k_is); (case zzk8 => k_room); (case zzk9 => first | exact BindsTo.of_eq rfl | exact binds_K (by k_in) rfl (by k_is) rfl rfl rfl | (refine kp_binds (by k_in) ?_; exact fun _ => rfl) | fail "k_enter: no rule for these arguments"); (case zzkB => exact rfl); (case zzkD => decide +kernel); (case zzc2 => exact rfl); (case zzc3 => exact rfl); (case zzc4 => exact rfl)); k_whole; intro zzg' zzL' zzh' zztk' zzcells' zzFG' zzF' zzN' zzY' zzB' zzX' zzT' zzl1 zzS'; clear zzl1; k_cells zzY'; (try simp only [List.cons_append, List.nil_append, List.append_nil] at zzN'); (try dsimp only); (try k_lift zzB'); (try k_fold)))
  k_with "mine open R0" => (case zzfresh => (refine wpAny_call ?_; k_dflt (refine' code_defR (own := []) ?zzk1 ?zzk2 ?zzk3 ?zzk4 ?zzkD ?zzk5 ?zzkA ?zzkF ?zzkK ?zzk6 ?zzk7 ?zzk8 ?zzk9 ?zzkB ?_ ?zzc2 ?zzc3 ?zzc4 ?zzc5; (case zzkA => exact rfl); (case zzkF => exact rfl); (case zzkK => first | exact rfl | assumption); (case zzk1 => k_asm); (case zzk2 => k_asm); (case zzk3 => k_asm); (case zzk4 => k_asm); (case zzkD => exact Apart.zero); (case zzk5 => k_asm); (case zzk6 => k_is); (case zzk7 => k_is); (case zzk8 => k_room); (case zzk9 => first | exact BindsTo.of_eq rfl | exact binds_K (by k_in) rfl (by k_is) rfl rfl rfl | (refine kp_binds (by k_in) ?_; exact fun _ => rfl) | fail "k_enter: no rule for these arguments"); (case zzc5 => decide); (case zzkB => exact locs rfl); (case zzc2 => exact rfl); (case zzc3 => exact rfl); (case zzc4 => exact rfl)); k_whole; intro zzg' zzL' zzh' zzFG' zzF' zzN' zzB' zzX' zzT' zzS'; (try dsimp only); (try k_lift zzB'); (try k_fold)))
  k_with "exec Assign cons ListComp" => ((k_here; (with_reducible show wpAny _ _ (exec (Stmt.Assign [Expr.Name _ _] (Expr.ListComp _ [Comprehension.mk (Expr.Name _ _) _ [] _] _ _) _) _) _ _ _); k_dflt (refine assign_M (F₀ := by k_asm) (by rfl) (by with_unfolding_all rfl) (by with_unfolding_all rfl) (by decide) (by rfl) (by decide) (by rfl) (by rfl) (by rfl) ?_)))
  k_with "exec Assign cons ListComp" => ((k_here; (with_reducible show wpAny _ _ (exec (Stmt.Assign [Expr.Name _ _] (Expr.ListComp _ [Comprehension.mk (Expr.Name _ _) _ [_] _] _ _) _) _) _ _ _); k_dflt (refine assign_MT (F₀ := by k_asm) (by rfl) (by with_unfolding_all rfl) (by with_unfolding_all rfl) (by decide) (by rfl) (by decide) (by rfl) (by rfl) (by rfl) ?_)))
  k_with "eval ListComp" => ((k_here; (with_reducible show wpAny _ _ (eval (Expr.ListComp _ [Comprehension.mk (Expr.Name _ _) _ [] _] _ _) _) _ _ _); k_dflt (refine comp_M (F₀ := by k_asm) (by with_unfolding_all rfl) (by decide) (by rfl) (by decide) (by rfl) ?_)))
  k_with "eval ListComp" => ((k_here; (with_reducible show wpAny _ _ (eval (Expr.ListComp _ [Comprehension.mk (Expr.Name _ _) _ [_] _] _ _) _) _ _ _); k_dflt (refine comp_MT (F₀ := by k_asm) (by with_unfolding_all rfl) (by decide) (by rfl) (by decide) (by rfl) ?_)))
  k_with "k_mem" => (first | with_reducible assumption | exact List.Mem.head _ | (refine' List.Mem.tail _ ?_; k_mem) | assumption)
  k_with "k_all" => (case zzfresh => first | with_reducible assumption | exact List.forall_mem_nil _ | (refine' List.forall_mem_cons.mpr ⟨?zza, ?zzb⟩; (case zza => k_ne); (case zzb => k_all)))
  k_with "mine sub" => (case zzfresh => first | with_reducible assumption | (intro zzq zzhq; exact List.mem_cons_of_mem _ (by revert zzq zzhq; walk_at "mine sub")))
  k_with "call ref" => (refine stop_here ?_)
  k_with "call ref" => (case zzfresh => (k_here; k_dflt (refine' ConF.useE (by with_reducible assumption) ?zzB ?zzF ?zzX ?zzN ?zzT ?zzhk ?zzhh ?zzhd ?zzhf ?zzhg ?zzhu ?_; (case zzhf => exact rfl); (case zzhk => exact rfl); (case zzhh => exact rfl); (case zzhg => exact rfl); (case zzF => k_asm); (case zzN => k_asm); (case zzB => k_asm); (case zzX => k_in); (case zzT => k_asm); (case zzhd => exact Nat.le_of_ble_eq_true rfl); (case zzhu => exact Nat.le_of_ble_eq_true rfl)); intro zzv' zzh' zztk' zzhpost' zzF' zzN'; k_dflt (obtain ⟨zzu1', zze1'⟩ := zzhpost'); subst zze1'))
  k_with "call builtin:len" => ((k_here; (with_reducible show wpAny _ _ (call (Value.builtin _) [Value.ref _]) _ _ _); k_dflt (refine len_is (News.isList (by k_asm) (by k_mem)) (by with_reducible assumption) (by omega) ?_); intro _ _))
  k_with "mine tail" => (first | with_reducible assumption | (refine List.mem_cons_of_mem _ ?_; walk_at "mine tail"))
  trivial
open Mine.Pl Mine.En Mine.En2 PySem.Builtin.Int
theorem lines61 : True := by
  k_with "pyIter ref" => (refine stop_here ?_)
  trivial
set_option maxRecDepth 100000 in
set_option maxHeartbeats 1000000 in
theorem loop2 {w : World} {h₀ : Heap} {L fa : Addr} {cd : Value} {p : Program} {loose : List Str} {mean : ExcName → Option Value} {mg mb : Str → Option Value} {sc : Scope} {m : Str → Option Value} {s : Shared}
    {Q : Flow → Shared → Prop} {E : Value → Shared → Prop} {b0 b1 b2 b3 b4 b5 b6 b7 b8 b9 b10 b11 b12 b13 b14 b15 : Stmt} {tl rest : List Stmt} (hat : lawAt w.params = some (b0 :: b1 :: b2 :: b3 :: b4 :: b5 :: b6 :: b7 :: b8 :: b9 :: b10 :: b11 :: b12 :: b13 :: b14 :: b15 :: tl, sc))
    (X : (Mine.hd.heap_39 w.params).In h₀) (B' : Below callerA h₀ [] h₀) (TT : Top p loose mean mg mb h₀)
    {B G Mv Ce Fa Du : Addr} {oM oS oB oC : Obj} {base step unit far0 gr below c2 cn : Int} {vc vf vm : List Value} {nc nm : Nat} {t : Tg} {σ τ c kk : Nat → Nat} {ms bef : List Nat} {led : Led}
    (cst : Cst oM oS oB oC base step unit far0 gr below c2 G Mv Ce Fa vc vf) (hS : St base step c2 17 t σ τ c kk ms bef) (hcn : ((ms.count 0 : Nat) : Int) = cn)
    (hvm : IntsAre vm (ms.map fun j : Nat => (j : Int))) (oMm : (L + 1 + 1 + 1 + 1 + 1 + 1, oM) ∈ led) (oSm : (L + 1 + 1 + 1 + 1, oS) ∈ led) (oBm : (L + 1 + 1 + 1, oB) ∈ led) (oCm : (L + 1 + 1, oC) ∈ led) (Mvm : (Mv, lstN vm nm) ∈ led) (Cem : (Ce, lstN vc nc) ∈ led)
    (hDu : ∀ q ∈ led, q.1 ≠ Du) (hE : PassesOwn (model PySem.Challenge.rw_wy0034_01.row.prog w) (callerA.deeper (envOfC (Str.ofString "law") sc L fa cd)) (envOfC (Str.ofString "law") sc L fa cd) E)
    (hmv : ∃ tc, m (Str.ofString "moved") = some (.int cn tc)) (hdue : m (Str.ofString "due") = some (.ref Du)) (hbook : m (Str.ofString "book") = some (.ref B)) (hgiven : m (Str.ofString "given") = some (.ref G))
    (F : Fr h₀ L s.heap m) (N : News h₀ L s.heap ((Du, lstN [] 0) :: led))
    (k : ∀ h tk m (Dt : Nat → Addr) (ta tb : Nat → Tok) nd, m (Str.ofString "due") = some (.ref Du) → m (Str.ofString "book") = some (.ref B) → m (Str.ofString "given") = some (.ref G) → Fr h₀ L h m →
      News h₀ L h ((Du, lstN ((List.range 4).map fun b => .ref (Dt b)) nd) :: (((List.range 4).map fun b => (Dt b, pairO (sgn (13 + b) (ms.getD (13 + b) 0)) (tx (dg (t (ms.getD (13 + b) 0)).toNat) (kdn (13 + b))) (ta b) (tb b))) ++ led)) →
      wpAny (model PySem.Challenge.rw_wy0034_01.row.prog w) (callerA.deeper (envOfC (Str.ofString "law") sc L fa cd)) (execs rest (envOfC (Str.ofString "law") sc L fa cd)) Q E { s with heap := h, toks := tk }) :
    wpAny (model PySem.Challenge.rw_wy0034_01.row.prog w) (callerA.deeper (envOfC (Str.ofString "law") sc L fa cd)) (execs (b15 :: rest) (envOfC (Str.ofString "law") sc L fa cd)) Q E s := by
  have e : lawAt w.params = some (_ :: _ :: _ :: _ :: _ :: _ :: _ :: _ :: _ :: _ :: _ :: _ :: _ :: _ :: _ :: _ :: _, _) := rfl
  cases hat.symm.trans e
  clear hat e
  have ht : dueAt w.params = some ([_, _, _, _], _) := rfl
  revert X
  k_fill
  intro X
  k_steps
  unfold Stop
  refine iter_rangeUnr (n := 4) rfl (by assumption) (by decide) (by decide) (by assumption) (by assumption) fun I hlt => ?_
  exact loop2_rest (B := B) ht X B' TT cst hS hcn hvm oMm oSm oBm oCm Mvm Cem hDu (Nat.ne_of_lt (hlt _ (.head _))) (fun q hq => Nat.ne_of_lt (hlt q (.tail _ hq))) (fun h tk m Dt ta tb nd e1 e2 e3 F' N' => k h tk m Dt ta tb nd e1 e2 e3 F' N') 4 0 m rfl (fun _ => 0) (fun _ => 0) (fun _ => 0) 0 hmv hdue hbook hgiven
theorem lines62 : True := by
  k_with "call ref" => (case zzfresh => (k_here; (with_reducible show wpAny _ _ (call (Value.ref 171) _) _ _ _); k_dflt (refine' ConF.useN (by with_reducible assumption) ?zzsub ?zzB ?zzF ?zzX ?zzN ?zzT ?zzhk ?zzhh ?zzhd ?zzhf ?zzhg ?zzhu ?_; (case zzN => k_asm); (case zzsub => walk_at "mine sub"); (case zzhf => exact rfl); (case zzhk => exact rfl); (case zzhh => exact rfl); (case zzhg => exact rfl); (case zzF => k_asm); (case zzB => k_asm); (case zzX => k_in); (case zzT => k_asm); (case zzhd => exact Nat.le_of_ble_eq_true rfl); (case zzhu => exact Nat.le_of_ble_eq_true rfl)); intro zzv' zzh' zztk' zzadd' zzhpost' zzoff' zzF' zzN'; k_dflt (obtain ⟨zzR', zze1', zze2', _⟩ := zzhpost'); subst zze1'; subst zze2'; (try simp only [List.cons_append, List.nil_append] at zzN')))
  k_with "compareOp Eq ref ref" => (refine stop_here ?_)
  trivial
theorem tup_mem {w : World} {B D G : Addr} {T : Nat → Addr} {c : Nat → Nat} {x : Nat → List Nat} {a b : Nat → Tok} {tD : Tok} {n : Nat} : ∀ j, j < 4 → (T j, pairO (c j) (x j) (a j) (b j)) ∈ book w B D G T c x a b tD n
  | 0, _ => .tail _ (.tail _ (.tail _ (.head _)))
  | 1, _ => .tail _ (.tail _ (.tail _ (.tail _ (.head _))))
  | 2, _ => .tail _ (.tail _ (.tail _ (.tail _ (.tail _ (.head _)))))
  | 3, _ => .tail _ (.tail _ (.tail _ (.tail _ (.tail _ (.tail _ (.head _))))))
set_option maxRecDepth 100000 in
set_option maxHeartbeats 1000000 in
theorem endC {w : World} {h₀ : Heap} {L fa : Addr} {cd : Value} {p : Program} {loose : List Str} {mean : ExcName → Option Value} {mg mb : Str → Option Value} {sc : Scope} {m : Str → Option Value} {s : Shared}
    {Q : Flow → Shared → Prop} {E : Value → Shared → Prop} {b0 b1 b2 b3 b4 b5 b6 b7 b8 b9 b10 b11 b12 b13 b14 b15 b16 : Stmt} (hat : lawAt w.params = some ([b0, b1, b2, b3, b4, b5, b6, b7, b8, b9, b10, b11, b12, b13, b14, b15, b16], sc))
    (X : (Mine.hd.heap_39 w.params).In h₀) (B' : Below callerA h₀ [] h₀) (TT : Top p loose mean mg mb h₀)
    {B D G Du : Addr} {T Dt : Nat → Addr} {c : Nat → Nat} {x : Nat → List Nat} {a b ta tb : Nat → Tok} {tD : Tok} {n nd : Nat} {led : Led}
    (F : Fr h₀ L s.heap m) (N : News h₀ L s.heap led) (hbook : m (Str.ofString "book") = some (.ref B)) (hdue : m (Str.ofString "due") = some (.ref Du)) (hgiven : m (Str.ofString "given") = some (.ref G))
    (hsub : ∀ q ∈ book w B D G T c x a b tD n, q ∈ led) (hDu : (Du, lstN [.ref (Dt 0), .ref (Dt 1), .ref (Dt 2), .ref (Dt 3)] nd) ∈ led) (hDt : ∀ j, j < 4 → (Dt j, pairO (c j) (x j) (ta j) (tb j)) ∈ led)
    (hc : ∀ j, j < 4 → c j < 128) (hx : ∀ j, j < 4 → Signs (x j))
    (k : ∀ h' tk' m', Fr h₀ L h' m' → News h₀ L h' led → Q (.ret (.bool true)) { s with heap := h', toks := tk' }) :
    wpAny (model PySem.Challenge.rw_wy0034_01.row.prog w) (callerA.deeper (envOfC (Str.ofString "law") sc L fa cd)) (execs [b16] (envOfC (Str.ofString "law") sc L fa cd)) Q E s := by
  have e : lawAt w.params = some ([_, _, _, _, _, _, _, _, _, _, _, _, _, _, _, _, _], _) := rfl
  cases hat.symm.trans e
  clear hat e
  obtain ⟨m0, rfl⟩ : ∃ m0, m = fun y => if y = Str.ofString "book" then some (.ref B) else if y = Str.ofString "due" then some (.ref Du) else if y = Str.ofString "given" then some (.ref G) else m0 y := ⟨m, by funext y; (repeat' split) <;> simp_all⟩
  clear hbook hdue hgiven
  have cI := It.items (w := w) (B := B) (D := D) (G := G) (T := T) (c := c) (x := x) (a := a) (b := b) (tD := tD) (n := n)
  have hB := hsub (B, instObj 207 D) (.head _)
  have hD := hsub (D, hdO w G tD) (.tail _ (.head _))
  revert X
  k_fill
  intro X
  k_steps
  unfold Stop
  show wpAny _ _ (call (.ref 171) [.ref B]) _ _ _
  refine ConF.useN cI hsub B' (by k_asm) (by k_in) (by k_asm) TT rfl rfl (Nat.le_of_ble_eq_true rfl) rfl rfl (Nat.le_of_ble_eq_true rfl) ?_
  rintro v' h' tk' add' ⟨R', rfl, rfl, _⟩ off' F' N'
  (try simp only [List.cons_append, List.nil_append] at N')
  k_steps
  unfold Stop
  refine eq_four (T := T) (T' := Dt) (c := c) (x := x) (ta := a) (tb := b) (ta' := ta) (tb' := tb) (N' _ (.head _)).1 (fun j hj => (N' _ (.tail _ (hsub _ (tup_mem j hj)))).1) (N' _ (.tail _ hDu)).1 (fun j hj => (N' _ (.tail _ (hDt j hj))).1) hc hx (by units_room) ?_
  k_steps
  unfold Stop
  refine eq_four (T := T) (T' := Dt) (c := c) (x := x) (ta := a) (tb := b) (ta' := ta) (tb' := tb) (N' _ (.tail _ (hsub _ (.tail _ (.tail _ (.head _)))))).1 (fun j hj => (N' _ (.tail _ (hsub _ (tup_mem j hj)))).1) (N' _ (.tail _ hDu)).1 (fun j hj => (N' _ (.tail _ (hDt j hj))).1) hc hx (by units_room) ?_
  k_steps
  exact k h' tk' _ F' (News.sub N' (fun q hq => .tail _ hq))

end Mine.En3
end
section
theorem Mine.resetEn4 : True := by
  k_with_none
  w_top off
  trivial
open PySem PySem.Spec PySem.Calls PySem.W PyProof.Rows PyProof.Rows.LCg
namespace Mine
open Mine.Bk Mine.Pl
theorem book_congr {w : World} {B D G : Addr} {T : Nat → Addr} {c c' : Nat → Nat} {x x' : Nat → List Nat} {a b : Nat → Tok} {tD : Tok} {n : Nat} (hc : ∀ j, j < 4 → c j = c' j) (hx : ∀ j, j < 4 → x j = x' j) :
    book w B D G T c x a b tD n = book w B D G T c' x' a b tD n := by
  unfold book
  rw [hc 0 (by decide), hc 1 (by decide), hc 2 (by decide), hc 3 (by decide), hx 0 (by decide), hx 1 (by decide), hx 2 (by decide), hx 3 (by decide)]
set_option maxHeartbeats 1000000 in
theorem ending {w : World} {h₀ : Heap} {L fa : Addr} {cd : Value} {p : Program} {loose : List Str} {mean : ExcName → Option Value} {mg mb : Str → Option Value} {sc : Scope} {m : Str → Option Value} {s : Shared}
    {Q : Flow → Shared → Prop} {E : Value → Shared → Prop} {b0 b1 b2 b3 b4 b5 b6 b7 b8 b9 b10 b11 b12 b13 b14 b15 b16 : Stmt} (hat : lawAt w.params = some ([b0, b1, b2, b3, b4, b5, b6, b7, b8, b9, b10, b11, b12, b13, b14, b15, b16], sc))
    (X : (Mine.hd.heap_39 w.params).In h₀) (B' : Below callerA h₀ [] h₀) (TT : Top p loose mean mg mb h₀)
    {B D G Mv Ce Fa : Addr} {oM oS oB oC : Obj} {base step unit far0 gr below c2 : Int} {vc vf : List Value} {nc nf : Nat} {tD : Tok} {led : Led}
    (cst : Cst oM oS oB oC base step unit far0 gr below c2 G Mv Ce Fa vc vf) (hE : PassesOwn (model PySem.Challenge.rw_wy0034_01.row.prog w) (callerA.deeper (envOfC (Str.ofString "law") sc L fa cd)) (envOfC (Str.ofString "law") sc L fa cd) E)
    (F : Fr h₀ L s.heap m) (N : News h₀ L s.heap led) (hJ : J w L B D G Mv Ce Fa oM oS oB oC base step unit below c2 vc vf nc nf tD 17 m led)
    (k : ∀ h' tk' m' tabs, Dig.Tab tabs → Fr h₀ L h' m' → News h₀ L h' tabs → Q (.ret (.bool true)) { s with heap := h', toks := tk' }) :
    wpAny (model PySem.Challenge.rw_wy0034_01.row.prog w) (callerA.deeper (envOfC (Str.ofString "law") sc L fa cd)) (execs [b13, b14, b15, b16] (envOfC (Str.ofString "law") sc L fa cd)) Q E s := by
  obtain ⟨T, c, x, a, b, n, oR, vR, vm, nm, Bf, vb, nb, tabs, t, σ, τ, kk, ms, bef, rfl, FO, dR, hvm, hvb, hT, nGB, nMB, hS, hx⟩ := hJ
  have fc : ∀ j, j < 4 → c j = (fun j => sgn (13 + j) (ms.getD (13 + j) 0)) j := fun j hj => (hS.fin hj).2.1
  have fx : ∀ j, j < 4 → x j = (fun j => tx (dg (t (ms.getD (13 + j) 0)).toNat) (kdn (13 + j))) j := fun j hj => by
    obtain ⟨e1, _, e3, _⟩ := hS.fin hj
    rw [hx j hj, e1, e3]
  unfold ledT at N
  rw [book_congr fc fx] at N
  have mO : ∀ q ∈ oth L oM oS oB oC Bf Ce Fa vb vc vf nb nc nf, q ∈ (L + 1 + 1 + 1 + 1 + 1 + 1 + 1, oR) :: (Mv, lstN vm nm) :: (oth L oM oS oB oC Bf Ce Fa vb vc vf nb nc nf ++ (book w B D G T (fun j => sgn (13 + j) (ms.getD (13 + j) 0)) (fun j => tx (dg (t (ms.getD (13 + j) 0)).toNat) (kdn (13 + j))) a b tD n ++ tabs)) :=
    fun q hq => .tail _ (.tail _ (List.mem_append_left _ hq))
  have oMm := mO (L + 1 + 1 + 1 + 1 + 1 + 1, oM) (.head _)
  have oSm := mO (L + 1 + 1 + 1 + 1, oS) (.tail _ (.head _))
  have oBm := mO (L + 1 + 1 + 1, oB) (.tail _ (.tail _ (.head _)))
  have oCm := mO (L + 1 + 1, oC) (.tail _ (.tail _ (.tail _ (.head _))))
  have Cem := mO (Ce, lstN vc nc) (.tail _ (.tail _ (.tail _ (.tail _ (.tail _ (.head _))))))
  refine En.endA (cn := ((ms.count 0 : Nat) : Int)) hat X B' TT F N oMm cst.dM (.tail _ (.head _)) hvm (Nat.le_of_eq hS.len) rfl ?_
  intro h1 tk1 Du tm F1 N1 hDu
  refine En3.loop2 (m := fun y => if y = Str.ofString "due" then some (.ref Du) else if y = Str.ofString "moved" then some (.int ((ms.count 0 : Nat) : Int) tm) else m y) (B := B) (cn := ((ms.count 0 : Nat) : Int)) (s := { s with heap := h1, toks := tk1 }) hat X B' TT cst hS rfl hvm oMm oSm oBm oCm (.tail _ (.head _)) Cem hDu hE ⟨tm, rfl⟩ rfl FO.bo FO.gi F1 N1 ?_
  intro h2 tk2 m2 Dt ta tb nd e1 e2 e3 F2 N2
  have mB : ∀ q ∈ book w B D G T (fun j => sgn (13 + j) (ms.getD (13 + j) 0)) (fun j => tx (dg (t (ms.getD (13 + j) 0)).toNat) (kdn (13 + j))) a b tD n, q ∈ (Du, lstN ((List.range 4).map fun b => Value.ref (Dt b)) nd) :: (((List.range 4).map fun b => (Dt b, pairO (sgn (13 + b) (ms.getD (13 + b) 0)) (tx (dg (t (ms.getD (13 + b) 0)).toNat) (kdn (13 + b))) (ta b) (tb b))) ++
      (L + 1 + 1 + 1 + 1 + 1 + 1 + 1, oR) :: (Mv, lstN vm nm) :: (oth L oM oS oB oC Bf Ce Fa vb vc vf nb nc nf ++ (book w B D G T (fun j => sgn (13 + j) (ms.getD (13 + j) 0)) (fun j => tx (dg (t (ms.getD (13 + j) 0)).toNat) (kdn (13 + j))) a b tD n ++ tabs))) :=
    fun q hq => .tail _ (List.mem_append_right _ (.tail _ (.tail _ (List.mem_append_right _ (List.mem_append_left _ hq)))))
  refine En3.endC (D := D) (T := T) (Dt := Dt) (c := fun j => sgn (13 + j) (ms.getD (13 + j) 0)) (x := fun j => tx (dg (t (ms.getD (13 + j) 0)).toNat) (kdn (13 + j))) (a := a) (b := b) (ta := ta) (tb := tb) (tD := tD) (n := n) hat X B' TT F2 N2 e2 e1 e3 mB (.head _)
    (fun j hj => .tail _ (List.mem_append_left _ (List.mem_map.mpr ⟨j, List.mem_range.mpr hj, rfl⟩))) (fun j hj => ?_) (fun j hj z hz => ?_) ?_
  · have h4 := (hS.fin hj).2.2.2.1
    show sgn (13 + j) (ms.getD (13 + j) 0) < 128
    unfold sgn; split <;> lia
  · have := S7.tx_fineV (dg_ok (t (ms.getD (13 + j) 0)).toNat) (kdn (13 + j)) z hz
    unfold Re.FineV at this; lia
  · intro h3 tk3 m3 F3 N3
    exact k h3 tk3 m3 tabs hT F3 (News.sub N3 fun q hq => .tail _ (List.mem_append_right _ (.tail _ (.tail _ (List.mem_append_right _ (List.mem_append_right _ hq))))))
end Mine
end
section
theorem Mine.resetCg : True := by
  k_with_none
  w_top off
  trivial
open PySem PySem.Spec PySem.Calls PySem.W PyProof.Rows PyProof.Rows.LCg PyProof.Rows.LCt
namespace Mine.LC
section
variable {prog : Program} {w : World} {A : Around} {h₀ : Heap} {L : Addr} {m : Str → Option Value} {news : List (Addr × Obj)} {s : Shared} {env : Env} {elt : Expr} {x : Str} {scope : Scope} {cl : List (Str × Addr)} {S : Led → Prop} {P : Nat → Value → Prop}
/-- the end of an item that is a new object -/
def ItemGEnd (h₀ : Heap) (L : Addr) (m : Str → Option Value) (s₁ : Shared) (led : Led) (R : Obj → Prop) (y : Value) (s₂ : Shared) : Prop :=
  ∃ h' tk T o, s₂ = { s₁ with heap := h', toks := tk } ∧ Fr h₀ L h' m ∧ News h₀ L h' ((T, o) :: led) ∧ AllLt T led ∧ y = .ref T ∧ R o
theorem off3_mk {I C D : Addr} : ∀ {l : Led}, (∀ q ∈ l, q.1 ≠ I ∧ q.1 ≠ C ∧ q.1 ≠ D) → Off3 I C D l := Off3.of
/-- a block whose items are new objects -/
theorem rest_grow {R : Nat → Obj → Prop} {n : Nat} {Fin : List Value → Led → Prop} (hS : ∀ l, S l)
    (item : ∀ i ys nw v I oI C oC D m₂ h tk (E' : Value → Shared → Prop), i < n → P i v → NsObj oC m₂ → m₂ x = some v → Fr h₀ L h m → News h₀ L h ((I, oI) :: (C, oC) :: (D, lst ys) :: nw) → (∀ q ∈ news, q ∈ nw) → Off3 I C D nw → ((@Ne Nat I C) ∧ (@Ne Nat I D) ∧ (@Ne Nat C D)) →
      wpAny (model prog w) A (eval elt (compEnvC scope cl C env)) (ItemGEnd h₀ L m { s with heap := h, toks := tk } ((I, oI) :: (C, oC) :: (D, lst ys) :: nw) (R i)) E' { s with heap := h, toks := tk })
    (fin : ∀ (Tf : Nat → Addr) (Of : Nat → Obj), (∀ j, j < n → R j (Of j)) → Fin ((List.range n).map fun j => .ref (Tf j)) ((List.range n).map (fun j => (Tf j, Of j)) ++ news)) :
    CompRest prog w A h₀ L m env elt x scope cl s S P Fin n 0 [] news := by
  have key : ∀ k i (Tf : Nat → Addr) (Of : Nat → Obj), i + k = n → (∀ j, j < i → R j (Of j)) →
      CompRest prog w A h₀ L m env elt x scope cl s S P Fin k i ((List.range i).map fun j => .ref (Tf j)) ((List.range i).map (fun j => (Tf j, Of j)) ++ news) := by
    intro k
    induction k with
    | zero => intro i Tf Of hi hR; obtain rfl : i = n := by lia
              exact CompRest.zero (fin Tf Of hR)
    | succ k ih =>
      intro i Tf Of hi hR
      refine CompRest.succ fun v I oI C oC D m₂ h tk E' hP hC hx F N off ne => ?_
      refine wpAny_mono (item i _ _ v I oI C oC D m₂ h tk E' (by lia) hP hC hx F N (fun q hq => List.mem_append_right _ hq) off ne) (fun y s₂ he => ?_) fun _ _ e => e
      obtain ⟨h', tk', T, o, rfl, F', N', lt, rfl, hr⟩ := he
      have eV : (List.range (i + 1)).map (fun j => Value.ref ((fun j => if j = i then T else Tf j) j)) = (List.range i).map (fun j => Value.ref (Tf j)) ++ [.ref T] := by
        rw [List.range_succ, List.map_append]
        congr 1
        · refine List.map_congr_left fun b hb => ?_
          have : b ≠ i := Nat.ne_of_lt (List.mem_range.mp hb)
          simp [this]
        · simp
      have eT : (List.range (i + 1)).map (fun j => ((fun j => if j = i then T else Tf j) j, (fun j => if j = i then o else Of j) j)) = (List.range i).map (fun j => (Tf j, Of j)) ++ [(T, o)] := by
        rw [List.range_succ, List.map_append]
        congr 1
        · refine List.map_congr_left fun b hb => ?_
          have : b ≠ i := Nat.ne_of_lt (List.mem_range.mp hb)
          simp [this]
        · simp
      have r := ih (i + 1) (fun j => if j = i then T else Tf j) (fun j => if j = i then o else Of j) (by lia) (fun j hj => by
        by_cases hji : j = i
        · subst hji; simpa using hr
        · simp only [if_neg hji]; exact hR j (by lia))
      rw [eV, eT] at r
      refine CompEnd.intro F' N' _ (fun q hq => ?_) (Off3.of fun q hq => ?_) (hS _) r
      · simp only [List.mem_append, List.mem_cons, List.not_mem_nil, or_false] at hq ⊢
        rcases hq with h | h | h | (h | h) | h <;> simp only [h, true_or, or_true]
      · have lt' : ∀ q ∈ ((I, oI) :: (C, oC) :: (D, lst ((List.range i).map fun j => Value.ref (Tf j))) :: ((List.range i).map (fun j => (Tf j, Of j)) ++ news)), q.1 < T := by
          intro q hq
          exact go lt q hq
        simp only [List.mem_append, List.mem_cons, List.not_mem_nil, or_false] at hq
        rcases hq with (h | h) | h
        · exact off.mem q (List.mem_append_left _ h)
        · rw [h]
          exact ⟨Ne.symm (Nat.ne_of_lt (lt' (I, oI) (.head _))), Ne.symm (Nat.ne_of_lt (lt' (C, oC) (.tail _ (.head _)))), Ne.symm (Nat.ne_of_lt (lt' (D, _) (.tail _ (.tail _ (.head _)))))⟩
        · exact off.mem q (List.mem_append_right _ h)
  exact key n 0 (fun _ => 0) (fun _ => default) (Nat.zero_add n) (fun j hj => absurd hj (Nat.not_lt_zero j))
where
  go {d : Addr} : ∀ {l : Led}, AllLt d l → ∀ q ∈ l, q.1 < d := by
    intro l
    induction l with
    | nil => intro _ q hq; cases hq
    | cons a r ih =>
      intro h q hq
      rcases List.mem_cons.mp hq with e | hq
      · rw [e]; exact h.1
      · exact ih h.2 q hq
end
end Mine.LC
end
section
open PySem PySem.W PyProof.Rows PySem.Builtin.Int
open PyProof.Rows.LCg Mine.LC Mine.Bk PySem.Calls
namespace Mine.Pb
theorem lines63 : True := by
  k_with_none
  w_top off
  k_with "execs cons" => (((try dsimp only); refine toks_any ?_; intro _))
  k_with "k_enter" => (case zzfresh => (refine' code_def ?zzk1 ?zzk2 ?zzk3 ?zzk4 ?zzk5 ?zzkA ?zzkF ?zzkK ?zzk6 ?zzk7 ?zzk8 ?zzk9 ?zzkB ?_ ?zzc2 ?zzc3 ?zzc4 ?zzc5; (case zzkA => exact rfl); (case zzkF => exact rfl); (case zzkK => first | exact rfl | assumption); (case zzk1 => k_asm); (case zzk2 => k_asm); (case zzk3 => k_asm); (case zzk4 => k_asm); (case zzk5 => k_asm); (case zzk6 => k_is); (case zzk7 => k_is); (case zzk8 => k_room); (case zzk9 => first | exact BindsTo.of_eq rfl | exact binds_K (by k_in) rfl (by k_is) rfl rfl rfl | (refine kp_binds (by k_in) ?_; exact fun _ => rfl) | fail "k_enter: no rule for these arguments"); (case zzc5 => decide); (case zzkB => exact locs rfl); (case zzc2 => exact rfl); (case zzc3 => exact rfl); (case zzc4 => exact rfl); k_whole; intro zzg' zzL' zzh' zzFG' zzF' zzN' zzB' zzX' zzT'; (try dsimp only); (try k_lift zzB'); (try k_fold)))
  k_with "k_enter" => (case zzfresh => (refine' code_defC ?zzk1 ?zzk2 ?zzk3 ?zzk4 ?zzk5 ?zzkA ?zzkF ?zzkK ?zzk6 ?zzk7 ?zzk8 ?zzk9 ?zzkB ?zzkD ?_ ?zzc2 ?zzc3 ?zzc4; (case zzkA => exact rfl); (case zzkF => exact rfl); (case zzkK => first | exact rfl | assumption); (case zzk1 => k_asm); (case zzk2 => k_asm); (case zzk3 => k_asm); (case zzk4 => k_asm); (case zzk5 => k_asm); (case zzk6 => k_is); (case zzk7 => k_is); (case zzk8 => k_room); (case zzk9 => first | exact BindsTo.of_eq rfl | exact binds_K (by k_in) rfl (by k_is) rfl rfl rfl | (refine kp_binds (by k_in) ?_; exact fun _ => rfl) | fail "k_enter: no rule for these arguments"); (case zzkB => exact rfl); (case zzkD => decide +kernel); (case zzc2 => exact rfl); (case zzc3 => exact rfl); (case zzc4 => exact rfl); k_whole; intro zzg' zzL' zzh' zztk' zzcells' zzFG' zzF' zzN' zzY' zzB' zzX' zzT' zzl1; (try k_lt zzl1); k_cells zzY'; (try simp only [List.cons_append, List.nil_append] at zzN'); (try dsimp only); (try k_lift zzB'); (try k_fold)))
  k_with "mine open" => ((refine wpAny_call ?_; k_dflt (first | k_enter | kc_enter)))
  k_with "mine open R" => (case zzfresh => (refine wpAny_call ?_; k_dflt (refine' code_defR ?zzk1 ?zzk2 ?zzk3 ?zzk4 ?zzkD ?zzk5 ?zzkA ?zzkF ?zzkK ?zzk6 ?zzk7 ?zzk8 ?zzk9 ?zzkB ?_ ?zzc2 ?zzc3 ?zzc4 ?zzc5; (case zzkA => exact rfl); (case zzkF => exact rfl); (case zzkK => first | exact rfl | assumption); (case zzk1 => k_asm); (case zzk2 => k_asm); (case zzk3 => k_asm); (case zzk4 => with_reducible assumption); (case zzkD => with_reducible assumption); (case zzk5 => k_asm); (case zzk6 => k_is); (case zzk7 => k_is); (case zzk8 => k_room); (case zzk9 => first | exact BindsTo.of_eq rfl | exact binds_K (by k_in) rfl (by k_is) rfl rfl rfl | (refine kp_binds (by k_in) ?_; exact fun _ => rfl) | fail "k_enter: no rule for these arguments"); (case zzc5 => decide); (case zzkB => exact locs rfl); (case zzc2 => exact rfl); (case zzc3 => exact rfl); (case zzc4 => exact rfl)); k_whole; intro zzg' zzL' zzh' zzFG' zzF' zzN' zzB' zzX' zzT' zzS'; (try dsimp only); (try k_lift zzB'); (try k_fold)))
  k_with "mine open CR" => (case zzfresh => (refine wpAny_call ?_; k_dflt (refine' code_defCR ?zzk1 ?zzk2 ?zzk3 ?zzk4 ?zzkR ?zzk5 ?zzkA ?zzkF ?zzkK ?zzk6 ?zzk7 ?zzk8 ?zzk9 ?zzkB ?zzkD ?_ ?zzc2 ?zzc3 ?zzc4; (case zzkA => exact rfl); (case zzkF => exact rfl); (case zzkK => first | exact rfl | assumption); (case zzk1 => k_asm); (case zzk2 => k_asm); (case zzk3 => k_asm); (case zzk4 => with_reducible assumption); (case zzkR => with_reducible assumption); (case zzk5 => k_asm); (case zzk6 => k_is); (case zzk7 => k_is); (case zzk8 => k_room); (case zzk9 => first | exact BindsTo.of_eq rfl | exact binds_K (by k_in) rfl (by k_is) rfl rfl rfl | (refine kp_binds (by k_in) ?_; exact fun _ => rfl) | fail "k_enter: no rule for these arguments"); (case zzkB => exact rfl); (case zzkD => decide +kernel); (case zzc2 => exact rfl); (case zzc3 => exact rfl); (case zzc4 => exact rfl)); k_whole; intro zzg' zzL' zzh' zztk' zzcells' zzFG' zzF' zzN' zzY' zzB' zzX' zzT' zzl1 zzS'; (try k_lt zzl1); k_cells zzY'; (try simp only [List.cons_append, List.nil_append] at zzN'); (try dsimp only); (try k_lift zzB'); (try k_fold)))
  k_with "mine open CR0" => (case zzfresh => (refine wpAny_call ?_; k_dflt (refine' code_defCR (own := []) ?zzk1 ?zzk2 ?zzk3 ?zzk4 ?zzkR ?zzk5 ?zzkA ?zzkF ?zzkK ?zzk6 ?zzk7 ?zzk8 ?zzk9 ?zzkB ?zzkD ?_ ?zzc2 ?zzc3 ?zzc4; (case zzkA => exact rfl); (case zzkF => exact rfl); (case zzkK => first | exact rfl | assumption); (case zzk1 => k_asm); (case zzk2 => k_asm); (case zzk3 => k_asm); (case zzk4 => k_asm); (case zzkR => exact Apart.zero); (case zzk5 => k_asm); (case zzk6 => k_is); (case zzk7 => k_is); (case zzk8 => k_room); (case zzk9 => first | exact BindsTo.of_eq rfl | exact binds_K (by k_in) rfl (by k_is) rfl rfl rfl | (refine kp_binds (by k_in) ?_; exact fun _ => rfl) | fail "k_enter: no rule for these arguments"); (case zzkB => exact rfl); (case zzkD => decide +kernel); (case zzc2 => exact rfl); (case zzc3 => exact rfl); (case zzc4 => exact rfl)); k_whole; intro zzg' zzL' zzh' zztk' zzcells' zzFG' zzF' zzN' zzY' zzB' zzX' zzT' zzl1 zzS'; clear zzl1; k_cells zzY'; (try simp only [List.cons_append, List.nil_append, List.append_nil] at zzN'); (try dsimp only); (try k_lift zzB'); (try k_fold)))
  k_with "mine open R0" => (case zzfresh => (refine wpAny_call ?_; k_dflt (refine' code_defR (own := []) ?zzk1 ?zzk2 ?zzk3 ?zzk4 ?zzkD ?zzk5 ?zzkA ?zzkF ?zzkK ?zzk6 ?zzk7 ?zzk8 ?zzk9 ?zzkB ?_ ?zzc2 ?zzc3 ?zzc4 ?zzc5; (case zzkA => exact rfl); (case zzkF => exact rfl); (case zzkK => first | exact rfl | assumption); (case zzk1 => k_asm); (case zzk2 => k_asm); (case zzk3 => k_asm); (case zzk4 => k_asm); (case zzkD => exact Apart.zero); (case zzk5 => k_asm); (case zzk6 => k_is); (case zzk7 => k_is); (case zzk8 => k_room); (case zzk9 => first | exact BindsTo.of_eq rfl | exact binds_K (by k_in) rfl (by k_is) rfl rfl rfl | (refine kp_binds (by k_in) ?_; exact fun _ => rfl) | fail "k_enter: no rule for these arguments"); (case zzc5 => decide); (case zzkB => exact locs rfl); (case zzc2 => exact rfl); (case zzc3 => exact rfl); (case zzc4 => exact rfl)); k_whole; intro zzg' zzL' zzh' zzFG' zzF' zzN' zzB' zzX' zzT' zzS'; (try dsimp only); (try k_lift zzB'); (try k_fold)))
  k_with "exec Assign cons ListComp" => ((k_here; (with_reducible show wpAny _ _ (exec (Stmt.Assign [Expr.Name _ _] (Expr.ListComp _ [Comprehension.mk (Expr.Name _ _) _ [] _] _ _) _) _) _ _ _); k_dflt (refine assign_M (F₀ := by k_asm) (by rfl) (by with_unfolding_all rfl) (by with_unfolding_all rfl) (by decide) (by rfl) (by decide) (by rfl) (by rfl) (by rfl) ?_)))
  k_with "exec Assign cons ListComp" => ((k_here; (with_reducible show wpAny _ _ (exec (Stmt.Assign [Expr.Name _ _] (Expr.ListComp _ [Comprehension.mk (Expr.Name _ _) _ [_] _] _ _) _) _) _ _ _); k_dflt (refine assign_MT (F₀ := by k_asm) (by rfl) (by with_unfolding_all rfl) (by with_unfolding_all rfl) (by decide) (by rfl) (by decide) (by rfl) (by rfl) (by rfl) ?_)))
  k_with "eval ListComp" => ((k_here; (with_reducible show wpAny _ _ (eval (Expr.ListComp _ [Comprehension.mk (Expr.Name _ _) _ [] _] _ _) _) _ _ _); k_dflt (refine comp_M (F₀ := by k_asm) (by with_unfolding_all rfl) (by decide) (by rfl) (by decide) (by rfl) ?_)))
  k_with "eval ListComp" => ((k_here; (with_reducible show wpAny _ _ (eval (Expr.ListComp _ [Comprehension.mk (Expr.Name _ _) _ [_] _] _ _) _) _ _ _); k_dflt (refine comp_MT (F₀ := by k_asm) (by with_unfolding_all rfl) (by decide) (by rfl) (by decide) (by rfl) ?_)))
  k_with "k_mem" => (first | with_reducible assumption | exact List.Mem.head _ | (refine' List.Mem.tail _ ?_; k_mem) | assumption)
  k_with "k_all" => (case zzfresh => first | with_reducible assumption | exact List.forall_mem_nil _ | (refine' List.forall_mem_cons.mpr ⟨?zza, ?zzb⟩; (case zza => k_ne); (case zzb => k_all)))
  k_with "mine sub" => (case zzfresh => first | with_reducible assumption | (intro zzq zzhq; exact List.mem_cons_of_mem _ (by revert zzq zzhq; walk_at "mine sub")))
  k_with "call ref" => (refine stop_here ?_)
  k_with "call ref" => (case zzfresh => (k_here; k_dflt (refine' ConF.useE (by with_reducible assumption) ?zzB ?zzF ?zzX ?zzN ?zzT ?zzhk ?zzhh ?zzhd ?zzhf ?zzhg ?zzhu ?_; (case zzhf => exact rfl); (case zzhk => exact rfl); (case zzhh => exact rfl); (case zzhg => exact rfl); (case zzF => k_asm); (case zzN => k_asm); (case zzB => k_asm); (case zzX => k_in); (case zzT => k_asm); (case zzhd => exact Nat.le_of_ble_eq_true rfl); (case zzhu => exact Nat.le_of_ble_eq_true rfl)); intro zzv' zzh' zztk' zzhpost' zzF' zzN'; k_dflt (obtain ⟨zzu1', zze1'⟩ := zzhpost'); subst zze1'))
  k_with "call builtin:len" => ((k_here; (with_reducible show wpAny _ _ (call (Value.builtin _) [Value.ref _]) _ _ _); k_dflt (refine len_is (News.isList (by k_asm) (by k_mem)) (by with_reducible assumption) (by omega) ?_); intro _ _))
  k_with "mine tail" => (first | with_reducible assumption | (refine List.mem_cons_of_mem _ ?_; walk_at "mine tail"))
  trivial
open Mine.Pl
theorem lines64 : True := by
  k_with "call builtin:bytes.decode" => ((k_here; k_dflt (refine Dec.decode (dg_ok _) ?_); intro _ _))
  k_with "subscriptTail Name Name ref int" => ((k_here; (with_reducible show wpAny _ _ (subscriptTail _ _ (Value.ref _) (Value.int _ _)) _ _ _); k_dflt (refine item_listL (News.isList (by k_asm) (by k_mem)) (by decide) (by decide) (by rfl) ?_)))
  k_with "call ref" => (case zzfresh => (k_here; (with_reducible show wpAny _ _ (call (Value.ref 66) _) _ _ _); k_dflt (refine' ConF.useE (Ap.int2ap (by with_reducible assumption) (by with_reducible assumption)) ?zzB ?zzF ?zzX ?zzN ?zzT ?zzhk ?zzhh ?zzhd ?zzhf ?zzhg ?zzhu ?_; (case zzhf => exact rfl); (case zzhk => exact rfl); (case zzhh => exact rfl); (case zzhg => exact rfl); (case zzF => k_asm); (case zzN => k_asm); (case zzB => k_asm); (case zzX => k_in); (case zzT => k_asm); (case zzhd => exact Nat.le_of_ble_eq_true rfl); (case zzhu => exact Nat.le_of_ble_eq_true rfl)); intro zzv' zzh' zztk' zzhpost' zzF' zzN'; k_dflt (obtain ⟨zzu1', zze1'⟩ := zzhpost'); subst zze1'))
  k_with "call ref" => (case zzfresh => (k_here; (with_reducible show wpAny _ _ (call (Value.ref 216) _) _ _ _); k_dflt (refine' ConF.useE (Wr.wr (dg_ok _)) ?zzB ?zzF ?zzX ?zzN ?zzT ?zzhk ?zzhh ?zzhd ?zzhf ?zzhg ?zzhu ?_; (case zzhf => exact rfl); (case zzhk => exact rfl); (case zzhh => exact rfl); (case zzhg => exact rfl); (case zzF => k_asm); (case zzN => k_asm); (case zzB => k_asm); (case zzX => k_in); (case zzT => k_asm); (case zzhd => exact Nat.le_of_ble_eq_true rfl); (case zzhu => exact Nat.le_of_ble_eq_true rfl)); intro zzv' zzh' zztk' zzhpost' zzF' zzN'; k_dflt (obtain ⟨zzu1', zze1'⟩ := zzhpost'); subst zze1'))
  trivial
set_option maxRecDepth 100000 in
set_option maxHeartbeats 2000000 in
theorem lawB1 {w : World} {h₀ : Heap} {L fa : Addr} {cd : Value} {p : Program} {loose : List Str} {mean : ExcName → Option Value} {mg mb : Str → Option Value} {sc : Scope} {m : Str → Option Value} {s : Shared}
    {Q : Flow → Shared → Prop} {E : Value → Shared → Prop} {b0 b1 b2 b3 b4 b5 b6 b7 b8 : Stmt} {tl rest : List Stmt} (hat : lawAt w.params = some (b0 :: b1 :: b2 :: b3 :: b4 :: b5 :: b6 :: b7 :: b8 :: tl, sc))
    (X : (Mine.hd.heap_39 w.params).In h₀) (B' : Below callerA h₀ [] h₀) (TT : Top p loose mean mg mb h₀)
    {oF : Obj} {Fi : Addr} {f0 f1 f2 f3 : Int} {z0 z1 z2 z3 : Tok} {nfi : Nat} {led : Led}
    (F : Fr h₀ L s.heap m) (N : News h₀ L s.heap led) (hoF : (L + 1 + 1 + 1 + 1 + 1, oF) ∈ led) (dF : oF.data = .cell (some (.ref Fi))) (hFi : (Fi, lstN [.int f0 z0, .int f1 z1, .int f2 z2, .int f3 z3] nfi) ∈ led)
    (p0 : 0 ≤ f0) (q0 : f0 < 4096) (p1 : 0 ≤ f1) (q1 : f1 < 4096) (p2 : 0 ≤ f2) (q2 : f2 < 4096) (p3 : 0 ≤ f3) (q3 : f3 < 4096)
    (k : ∀ h' tk' G (T : Nat → Addr) (ta tb : Nat → Tok) ng, Fr h₀ L h' (fun y => if y = Str.ofString "given" then some (.ref G) else m y) →
      News h₀ L h' ((G, lstN [.ref (T 0), .ref (T 1), .ref (T 2), .ref (T 3)] ng) :: ((List.range 4).map (fun j => (T j, pairO (97 + j) (tx (dg ([f0, f1, f2, f3].getD j 0).toNat) (j % 3)) (ta j) (tb j))) ++ led)) → (∀ q ∈ led, q.1 ≠ G) →
      wpAny (model PySem.Challenge.rw_wy0034_01.row.prog w) (callerA.deeper (envOfC (Str.ofString "law") sc L fa cd)) (execs rest (envOfC (Str.ofString "law") sc L fa cd)) Q E { s with heap := h', toks := tk' }) :
    wpAny (model PySem.Challenge.rw_wy0034_01.row.prog w) (callerA.deeper (envOfC (Str.ofString "law") sc L fa cd)) (execs (b8 :: rest) (envOfC (Str.ofString "law") sc L fa cd)) Q E s := by
  have e : lawAt w.params = some (_ :: _ :: _ :: _ :: _ :: _ :: _ :: _ :: _ :: _, _) := rfl
  cases hat.symm.trans e
  clear hat e
  revert X
  k_fill
  intro X
  k_steps
  refine SrcM.range rfl (by k_asm) (by k_asm) (by assumption) (n := 4) (by decide) (by decide) (by rw [sizeLine_eq]; decide) fun g' => ?_
  refine rest_grow (R := fun j o => ∃ t u, o = pairO (97 + j) (tx (dg ([f0, f1, f2, f3].getD j 0).toNat) (j % 3)) t u) (fun _ => trivial) ?_ ?_
  · intro i ys nw v I oI C oC D m₂ h tk E' hi hP hC hx F1 N1 hsn off ne
    have hoF' := hsn _ hoF
    have hFi' := hsn _ hFi
    clear hsn hoF hFi k
    obtain ⟨u9, rfl⟩ := hP
    rcases Pl.cases4 hi with rfl | rfl | rfl | rfl
    all_goals
      k_steps
      exact ⟨_, _, _, _, rfl, by assumption, by assumption, by assumption, rfl, _, _, rfl⟩
  · intro Tf Of hR
    have hR' : ∃ ta tb : Nat → Tok, ∀ j, j < 4 → Of j = pairO (97 + j) (tx (dg ([f0, f1, f2, f3].getD j 0).toNat) (j % 3)) (ta j) (tb j) := by
      obtain ⟨t0, w0, e0⟩ := hR 0 (by decide)
      obtain ⟨t1, w1, e1⟩ := hR 1 (by decide)
      obtain ⟨t2, w2, e2⟩ := hR 2 (by decide)
      obtain ⟨t3, w3, e3⟩ := hR 3 (by decide)
      refine ⟨fun j => [t0, t1, t2, t3].getD j 0, fun j => [w0, w1, w2, w3].getD j 0, fun j hj => ?_⟩
      rcases Pl.cases4 hj with rfl | rfl | rfl | rfl
      · exact e0
      · exact e1
      · exact e2
      · exact e3
    obtain ⟨ta, tb, hO⟩ := hR'
    have hL : (List.range 4).map (fun j => (Tf j, Of j)) = (List.range 4).map (fun j => (Tf j, pairO (97 + j) (tx (dg ([f0, f1, f2, f3].getD j 0).toNat) (j % 3)) (ta j) (tb j))) :=
      List.map_congr_left fun j hj => by rw [hO j (List.mem_range.mp hj)]
    rw [hL]
    clear hR hL hO
    k_steps
    exact k _ _ _ Tf ta tb 4 (by assumption) (by assumption) (fun q hq => off1_at (by assumption) q (List.mem_append_right _ hq))

end Mine.Pb
end
section
open PySem PySem.W PyProof.Rows PySem.Builtin.Int
open PyProof.Rows.LCg Mine.LC Mine.Bk PySem.Calls
namespace Mine.Pc
theorem lines65 : True := by
  k_with_none
  w_top off
  k_with "execs cons" => (((try dsimp only); refine toks_any ?_; intro _))
  k_with "k_enter" => (case zzfresh => (refine' code_def ?zzk1 ?zzk2 ?zzk3 ?zzk4 ?zzk5 ?zzkA ?zzkF ?zzkK ?zzk6 ?zzk7 ?zzk8 ?zzk9 ?zzkB ?_ ?zzc2 ?zzc3 ?zzc4 ?zzc5; (case zzkA => exact rfl); (case zzkF => exact rfl); (case zzkK => first | exact rfl | assumption); (case zzk1 => k_asm); (case zzk2 => k_asm); (case zzk3 => k_asm); (case zzk4 => k_asm); (case zzk5 => k_asm); (case zzk6 => k_is); (case zzk7 => k_is); (case zzk8 => k_room); (case zzk9 => first | exact BindsTo.of_eq rfl | exact binds_K (by k_in) rfl (by k_is) rfl rfl rfl | (refine kp_binds (by k_in) ?_; exact fun _ => rfl) | fail "k_enter: no rule for these arguments"); (case zzc5 => decide); (case zzkB => exact locs rfl); (case zzc2 => exact rfl); (case zzc3 => exact rfl); (case zzc4 => exact rfl); k_whole; intro zzg' zzL' zzh' zzFG' zzF' zzN' zzB' zzX' zzT'; (try dsimp only); (try k_lift zzB'); (try k_fold)))
  k_with "k_enter" => (case zzfresh => (refine' code_defC ?zzk1 ?zzk2 ?zzk3 ?zzk4 ?zzk5 ?zzkA ?zzkF ?zzkK ?zzk6 ?zzk7 ?zzk8 ?zzk9 ?zzkB ?zzkD ?_ ?zzc2 ?zzc3 ?zzc4; (case zzkA => exact rfl); (case zzkF => exact rfl); (case zzkK => first | exact rfl | assumption); (case zzk1 => k_asm); (case zzk2 => k_asm); (case zzk3 => k_asm); (case zzk4 => k_asm); (case zzk5 => k_asm); (case zzk6 => k_is); (case zzk7 => k_is); (case zzk8 => k_room); (case zzk9 => first | exact BindsTo.of_eq rfl | exact binds_K (by k_in) rfl (by k_is) rfl rfl rfl | (refine kp_binds (by k_in) ?_; exact fun _ => rfl) | fail "k_enter: no rule for these arguments"); (case zzkB => exact rfl); (case zzkD => decide +kernel); (case zzc2 => exact rfl); (case zzc3 => exact rfl); (case zzc4 => exact rfl); k_whole; intro zzg' zzL' zzh' zztk' zzcells' zzFG' zzF' zzN' zzY' zzB' zzX' zzT' zzl1; (try k_lt zzl1); k_cells zzY'; (try simp only [List.cons_append, List.nil_append] at zzN'); (try dsimp only); (try k_lift zzB'); (try k_fold)))
  k_with "mine open" => ((refine wpAny_call ?_; k_dflt (first | k_enter | kc_enter)))
  k_with "mine open R" => (case zzfresh => (refine wpAny_call ?_; k_dflt (refine' code_defR ?zzk1 ?zzk2 ?zzk3 ?zzk4 ?zzkD ?zzk5 ?zzkA ?zzkF ?zzkK ?zzk6 ?zzk7 ?zzk8 ?zzk9 ?zzkB ?_ ?zzc2 ?zzc3 ?zzc4 ?zzc5; (case zzkA => exact rfl); (case zzkF => exact rfl); (case zzkK => first | exact rfl | assumption); (case zzk1 => k_asm); (case zzk2 => k_asm); (case zzk3 => k_asm); (case zzk4 => with_reducible assumption); (case zzkD => with_reducible assumption); (case zzk5 => k_asm); (case zzk6 => k_is); (case zzk7 => k_is); (case zzk8 => k_room); (case zzk9 => first | exact BindsTo.of_eq rfl | exact binds_K (by k_in) rfl (by k_is) rfl rfl rfl | (refine kp_binds (by k_in) ?_; exact fun _ => rfl) | fail "k_enter: no rule for these arguments"); (case zzc5 => decide); (case zzkB => exact locs rfl); (case zzc2 => exact rfl); (case zzc3 => exact rfl); (case zzc4 => exact rfl)); k_whole; intro zzg' zzL' zzh' zzFG' zzF' zzN' zzB' zzX' zzT' zzS'; (try dsimp only); (try k_lift zzB'); (try k_fold)))
  k_with "mine open CR" => (case zzfresh => (refine wpAny_call ?_; k_dflt (refine' code_defCR ?zzk1 ?zzk2 ?zzk3 ?zzk4 ?zzkR ?zzk5 ?zzkA ?zzkF ?zzkK ?zzk6 ?zzk7 ?zzk8 ?zzk9 ?zzkB ?zzkD ?_ ?zzc2 ?zzc3 ?zzc4; (case zzkA => exact rfl); (case zzkF => exact rfl); (case zzkK => first | exact rfl | assumption); (case zzk1 => k_asm); (case zzk2 => k_asm); (case zzk3 => k_asm); (case zzk4 => with_reducible assumption); (case zzkR => with_reducible assumption); (case zzk5 => k_asm); (case zzk6 => k_is); (case zzk7 => k_is); (case zzk8 => k_room); (case zzk9 => first | exact BindsTo.of_eq rfl | exact binds_K (by k_in) rfl (by k_is) rfl rfl rfl | (refine kp_binds (by k_in) ?_; exact fun _ => rfl) | fail "k_enter: no rule for these arguments"); (case zzkB => exact rfl); (case zzkD => decide +kernel); (case zzc2 => exact rfl); (case zzc3 => exact rfl); (case zzc4 => exact rfl)); k_whole; intro zzg' zzL' zzh' zztk' zzcells' zzFG' zzF' zzN' zzY' zzB' zzX' zzT' zzl1 zzS'; (try k_lt zzl1); k_cells zzY'; (try simp only [List.cons_append, List.nil_append] at zzN'); (try dsimp only); (try k_lift zzB'); (try k_fold)))
  k_with "mine open CR0" => (case zzfresh => (refine wpAny_call ?_; k_dflt (refine' code_defCR (own := []) ?zzk1 ?zzk2 ?zzk3 ?zzk4 ?zzkR ?zzk5 ?zzkA ?zzkF ?zzkK ?zzk6 ?zzk7 ?zzk8 ?zzk9 ?zzkB ?zzkD ?_ ?zzc2 ?zzc3 ?zzc4; (case zzkA => exact rfl); (case zzkF => exact rfl); (case zzkK => first | exact rfl | assumption); (case zzk1 => k_asm); (case zzk2 => k_asm); (case zzk3 => k_asm); (case zzk4 => k_asm); (case zzkR => exact Apart.zero); (case zzk5 => k_asm); (case zzk6 => k_is); (case zzk7 => k_is); (case zzk8 => k_room); (case zzk9 => first | exact BindsTo.of_eq rfl | exact binds_K (by k_in) rfl (by k_is) rfl rfl rfl | (refine kp_binds (by k_in) ?_; exact fun _ => rfl) | fail "k_enter: no rule for these arguments"); (case zzkB => exact rfl); (case zzkD => decide +kernel); (case zzc2 => exact rfl); (case zzc3 => exact rfl); (case zzc4 => exact rfl)); k_whole; intro zzg' zzL' zzh' zztk' zzcells' zzFG' zzF' zzN' zzY' zzB' zzX' zzT' zzl1 zzS'; clear zzl1; k_cells zzY'; (try simp only [List.cons_append, List.nil_append, List.append_nil] at zzN'); (try dsimp only); (try k_lift zzB'); (try k_fold)))
  k_with "mine open R0" => (case zzfresh => (refine wpAny_call ?_; k_dflt (refine' code_defR (own := []) ?zzk1 ?zzk2 ?zzk3 ?zzk4 ?zzkD ?zzk5 ?zzkA ?zzkF ?zzkK ?zzk6 ?zzk7 ?zzk8 ?zzk9 ?zzkB ?_ ?zzc2 ?zzc3 ?zzc4 ?zzc5; (case zzkA => exact rfl); (case zzkF => exact rfl); (case zzkK => first | exact rfl | assumption); (case zzk1 => k_asm); (case zzk2 => k_asm); (case zzk3 => k_asm); (case zzk4 => k_asm); (case zzkD => exact Apart.zero); (case zzk5 => k_asm); (case zzk6 => k_is); (case zzk7 => k_is); (case zzk8 => k_room); (case zzk9 => first | exact BindsTo.of_eq rfl | exact binds_K (by k_in) rfl (by k_is) rfl rfl rfl | (refine kp_binds (by k_in) ?_; exact fun _ => rfl) | fail "k_enter: no rule for these arguments"); (case zzc5 => decide); (case zzkB => exact locs rfl); (case zzc2 => exact rfl); (case zzc3 => exact rfl); (case zzc4 => exact rfl)); k_whole; intro zzg' zzL' zzh' zzFG' zzF' zzN' zzB' zzX' zzT' zzS'; (try dsimp only); (try k_lift zzB'); (try k_fold)))
  k_with "exec Assign cons ListComp" => ((k_here; (with_reducible show wpAny _ _ (exec (Stmt.Assign [Expr.Name _ _] (Expr.ListComp _ [Comprehension.mk (Expr.Name _ _) _ [] _] _ _) _) _) _ _ _); k_dflt (refine assign_M (F₀ := by k_asm) (by rfl) (by with_unfolding_all rfl) (by with_unfolding_all rfl) (by decide) (by rfl) (by decide) (by rfl) (by rfl) (by rfl) ?_)))
  k_with "exec Assign cons ListComp" => ((k_here; (with_reducible show wpAny _ _ (exec (Stmt.Assign [Expr.Name _ _] (Expr.ListComp _ [Comprehension.mk (Expr.Name _ _) _ [_] _] _ _) _) _) _ _ _); k_dflt (refine assign_MT (F₀ := by k_asm) (by rfl) (by with_unfolding_all rfl) (by with_unfolding_all rfl) (by decide) (by rfl) (by decide) (by rfl) (by rfl) (by rfl) ?_)))
  k_with "eval ListComp" => ((k_here; (with_reducible show wpAny _ _ (eval (Expr.ListComp _ [Comprehension.mk (Expr.Name _ _) _ [] _] _ _) _) _ _ _); k_dflt (refine comp_M (F₀ := by k_asm) (by with_unfolding_all rfl) (by decide) (by rfl) (by decide) (by rfl) ?_)))
  k_with "eval ListComp" => ((k_here; (with_reducible show wpAny _ _ (eval (Expr.ListComp _ [Comprehension.mk (Expr.Name _ _) _ [_] _] _ _) _) _ _ _); k_dflt (refine comp_MT (F₀ := by k_asm) (by with_unfolding_all rfl) (by decide) (by rfl) (by decide) (by rfl) ?_)))
  k_with "k_mem" => (first | with_reducible assumption | exact List.Mem.head _ | (refine' List.Mem.tail _ ?_; k_mem) | assumption)
  k_with "k_all" => (case zzfresh => first | with_reducible assumption | exact List.forall_mem_nil _ | (refine' List.forall_mem_cons.mpr ⟨?zza, ?zzb⟩; (case zza => k_ne); (case zzb => k_all)))
  k_with "mine sub" => (case zzfresh => first | with_reducible assumption | (intro zzq zzhq; exact List.mem_cons_of_mem _ (by revert zzq zzhq; walk_at "mine sub")))
  k_with "call ref" => (case zzfresh => (k_here; k_dflt (refine' ConF.useE (by with_reducible assumption) ?zzB ?zzF ?zzX ?zzN ?zzT ?zzhk ?zzhh ?zzhd ?zzhf ?zzhg ?zzhu ?_; (case zzhf => exact rfl); (case zzhk => exact rfl); (case zzhh => exact rfl); (case zzhg => exact rfl); (case zzF => k_asm); (case zzN => k_asm); (case zzB => k_asm); (case zzX => k_in); (case zzT => k_asm); (case zzhd => exact Nat.le_of_ble_eq_true rfl); (case zzhu => exact Nat.le_of_ble_eq_true rfl)); intro zzv' zzh' zztk' zzhpost' zzF' zzN'; k_dflt (obtain ⟨zzu1', zze1'⟩ := zzhpost'); subst zze1'))
  k_with "call builtin:len" => ((k_here; (with_reducible show wpAny _ _ (call (Value.builtin _) [Value.ref _]) _ _ _); k_dflt (refine len_is (News.isList (by k_asm) (by k_mem)) (by with_reducible assumption) (by omega) ?_); intro _ _))
  k_with "mine tail" => (first | with_reducible assumption | (refine List.mem_cons_of_mem _ ?_; walk_at "mine tail"))
  trivial
open Mine.Pl
theorem lines66 : True := by
  k_with "exec For Tuple Name cons nil" => (case zzfresh => (k_here; (rename Fr _ _ _ _ => zzlF'); (with_unfolding_all refine' For_turns zzlF' ?_; k_whole)))
  k_with "call ref" => (case zzfresh => (k_here; k_dflt (show wpAny _ _ (call (Value.ref 106) [_, .str (S _) _] [(Str.ofString "name", .bool true)]) _ _ _); k_dflt (refine' ConF.useE (Cv.convN (by with_reducible assumption) (by with_reducible assumption)) ?zzB ?zzF ?zzX ?zzN ?zzT ?zzhk ?zzhh ?zzhd ?zzhf ?zzhg ?zzhu ?_; (case zzhf => exact rfl); (case zzhk => exact rfl); (case zzhh => exact rfl); (case zzhg => exact rfl); (case zzF => k_asm); (case zzN => k_asm); (case zzB => k_asm); (case zzX => k_in); (case zzT => k_asm); (case zzhd => exact Nat.le_of_ble_eq_true rfl); (case zzhu => exact Nat.le_of_ble_eq_true rfl)); intro zzv' zzh' zztk' zzhpost' zzF' zzN'; subst zzhpost'))
  k_with "call ref" => (case zzfresh => (k_here; k_dflt (show wpAny _ _ (call (Value.ref 106) [_, .str (S _) _] [(Str.ofString "name", .bool false)]) _ _ _); k_dflt (refine' ConF.useE (Cv.convV (by with_reducible assumption) (by with_reducible assumption)) ?zzB ?zzF ?zzX ?zzN ?zzT ?zzhk ?zzhh ?zzhd ?zzhf ?zzhg ?zzhu ?_; (case zzhf => exact rfl); (case zzhk => exact rfl); (case zzhh => exact rfl); (case zzhg => exact rfl); (case zzF => k_asm); (case zzN => k_asm); (case zzB => k_asm); (case zzX => k_in); (case zzT => k_asm); (case zzhd => exact Nat.le_of_ble_eq_true rfl); (case zzhu => exact Nat.le_of_ble_eq_true rfl)); intro zzv' zzh' zztk' zzhpost' zzF' zzN'; subst zzhpost'))
  trivial
theorem apart_new {x d : Addr} {o o' : Obj} {own rest : Led} (h : Apart own rest) (l : AllLt d rest) (l2 : @LT.lt Nat _ d x) : Apart ((x, o) :: (d, o') :: own) rest := fun p hp q hq => by
  have h1 := lt_at l p hp
  rcases List.mem_cons.mp hq with e | hq
  · rw [e]; exact Ne.symm (Nat.ne_of_lt (Nat.lt_trans h1 l2))
  · rcases List.mem_cons.mp hq with e | hq
    · rw [e]; exact Ne.symm (Nat.ne_of_lt h1)
    · exact h p hp q hq
theorem lines67 : True := by
  k_with "k_enter" => (case zzfresh => (refine' code_defR (own := [_, _, _, _, _, _, _]) ?zzk1 ?zzk2 ?zzk3 ?zzk4 ?zzkD ?zzk5 ?zzkA ?zzkF ?zzkK ?zzk6 ?zzk7 ?zzk8 ?zzk9 ?zzkB ?_ ?zzc2 ?zzc3 ?zzc4 ?zzc5; (case zzkA => exact rfl); (case zzkF => exact rfl); (case zzkK => first | exact rfl | assumption); (case zzk1 => k_asm); (case zzk2 => k_asm); (case zzk3 => k_asm); (case zzk4 => assumption); (case zzkD => exact apart_new (by with_reducible assumption) (by assumption : _ ∧ _ ∧ _ ∧ _ ∧ _ ∧ AllLt _ _).2.2.2.2.2 (by assumption)); (case zzk5 => k_asm); (case zzk6 => k_is); (case zzk7 => k_is); (case zzk8 => k_room); (case zzk9 => first | exact BindsTo.of_eq rfl | exact binds_K (by k_in) rfl (by k_is) rfl rfl rfl | (refine kp_binds (by k_in) ?_; exact fun _ => rfl) | fail "k_enter: no rule for these arguments"); (case zzc5 => decide); (case zzkB => exact locs rfl); (case zzc2 => exact rfl); (case zzc3 => exact rfl); (case zzc4 => exact rfl); k_whole; intro zzg' zzL' zzh' zzFG' zzF' zzN' zzB' zzX' zzT' zzS'; (try dsimp only); (try k_lift zzB'); (try k_fold)))
  k_with "storeName" => ((k_here; (with_reducible show wpAny _ _ (storeName _ (Str.ofString "book") _) _ _ _); refine stop_here ?_))
  trivial
set_option maxRecDepth 100000 in
set_option maxHeartbeats 2000000 in
theorem lawB2 {w : World} {h₀ : Heap} {L fa : Addr} {cd : Value} {p : Program} {loose : List Str} {mean : ExcName → Option Value} {mg mb : Str → Option Value} {sc : Scope} {m : Str → Option Value} {s : Shared}
    {Q : Flow → Shared → Prop} {E : Value → Shared → Prop} {b0 b1 b2 b3 b4 b5 b6 b7 b8 b9 : Stmt} {tl rest : List Stmt} (hat : lawAt w.params = some (b0 :: b1 :: b2 :: b3 :: b4 :: b5 :: b6 :: b7 :: b8 :: b9 :: tl, sc))
    (X : (Mine.hd.heap_39 w.params).In h₀) (B' : Below callerA h₀ [] h₀) (TT : Top p loose mean mg mb h₀)
    {G : Addr} {T : Nat → Addr} {ta tb : Nat → Tok} {ng : Nat} {c : Nat → Nat} {x : Nat → List Nat} {led : Led}
    (F : Fr h₀ L s.heap m) (N : News h₀ L s.heap ((G, lstN [.ref (T 0), .ref (T 1), .ref (T 2), .ref (T 3)] ng) :: (T 0, pairO (c 0) (x 0) (ta 0) (tb 0)) :: (T 1, pairO (c 1) (x 1) (ta 1) (tb 1)) :: (T 2, pairO (c 2) (x 2) (ta 2) (tb 2)) :: (T 3, pairO (c 3) (x 3) (ta 3) (tb 3)) :: led)) (hgiven : m (Str.ofString "given") = some (.ref G))
    (ap : Apart [(G, lstN [.ref (T 0), .ref (T 1), .ref (T 2), .ref (T 3)] ng), (T 0, pairO (c 0) (x 0) (ta 0) (tb 0)), (T 1, pairO (c 1) (x 1) (ta 1) (tb 1)), (T 2, pairO (c 2) (x 2) (ta 2) (tb 2)), (T 3, pairO (c 3) (x 3) (ta 3) (tb 3))] led)
    (c0 : ∀ z ∈ [c 0], Re.Fine z) (c1 : ∀ z ∈ [c 1], Re.Fine z) (c2 : ∀ z ∈ [c 2], Re.Fine z) (c3 : ∀ z ∈ [c 3], Re.Fine z)
    (l0 : [c 0].length ≤ 1000) (l1 : [c 1].length ≤ 1000) (l2 : [c 2].length ≤ 1000) (l3 : [c 3].length ≤ 1000)
    (x0 : ∀ z ∈ x 0, Re.FineV z) (x1 : ∀ z ∈ x 1, Re.FineV z) (x2 : ∀ z ∈ x 2, Re.FineV z) (x3 : ∀ z ∈ x 3, Re.FineV z)
    (y0 : (x 0).length ≤ 1000) (y1 : (x 1).length ≤ 1000) (y2 : (x 2).length ≤ 1000) (y3 : (x 3).length ≤ 1000)
    (k : ∀ h' tk' Bk Dk tD, Fr h₀ L h' (fun y => if y = Str.ofString "book" then some (.ref Bk) else m y) → News h₀ L h' (book w Bk Dk G T c x ta tb tD ng ++ led) →
      wpAny (model PySem.Challenge.rw_wy0034_01.row.prog w) (callerA.deeper (envOfC (Str.ofString "law") sc L fa cd)) (execs rest (envOfC (Str.ofString "law") sc L fa cd)) Q E { s with heap := h', toks := tk' }) :
    wpAny (model PySem.Challenge.rw_wy0034_01.row.prog w) (callerA.deeper (envOfC (Str.ofString "law") sc L fa cd)) (execs (b9 :: rest) (envOfC (Str.ofString "law") sc L fa cd)) Q E s := by
  have e : lawAt w.params = some (_ :: _ :: _ :: _ :: _ :: _ :: _ :: _ :: _ :: _ :: _, _) := rfl
  cases hat.symm.trans e
  clear hat e
  obtain ⟨m0, rfl⟩ : ∃ m0, m = fun y => if y = Str.ofString "given" then some (.ref G) else m0 y := ⟨m, by funext y; (repeat' split) <;> simp_all⟩
  clear hgiven
  revert X
  k_fill
  intro X
  k_steps
  rename News h₀ L _ led => NR
  rename News h₀ L _ (_ :: _ :: _ :: _ :: _) => N7
  rename Fr h₀ L _ _ => F7
  have N8 := Mine.News.both N7 NR
  unfold Stop
  k_dflt (refine' storeX_L F7 N8 ?_ ?a ?b; (case a => rfl); (case b => rfl))
  intro h' F' N'
  exact k _ _ _ _ _ F' N'

end Mine.Pc
end
section
open PySem PySem.W PyProof.Rows PySem.Builtin.Int
open PyProof.Rows.LCg Mine.LC Mine.Bk PySem.Calls
namespace Mine.Pd
theorem lines68 : True := by
  k_with_none
  w_top off
  k_with "execs cons" => (((try dsimp only); refine toks_any ?_; intro _))
  k_with "k_enter" => (case zzfresh => (refine' code_def ?zzk1 ?zzk2 ?zzk3 ?zzk4 ?zzk5 ?zzkA ?zzkF ?zzkK ?zzk6 ?zzk7 ?zzk8 ?zzk9 ?zzkB ?_ ?zzc2 ?zzc3 ?zzc4 ?zzc5; (case zzkA => exact rfl); (case zzkF => exact rfl); (case zzkK => first | exact rfl | assumption); (case zzk1 => k_asm); (case zzk2 => k_asm); (case zzk3 => k_asm); (case zzk4 => k_asm); (case zzk5 => k_asm); (case zzk6 => k_is); (case zzk7 => k_is); (case zzk8 => k_room); (case zzk9 => first | exact BindsTo.of_eq rfl | exact binds_K (by k_in) rfl (by k_is) rfl rfl rfl | (refine kp_binds (by k_in) ?_; exact fun _ => rfl) | fail "k_enter: no rule for these arguments"); (case zzc5 => decide); (case zzkB => exact locs rfl); (case zzc2 => exact rfl); (case zzc3 => exact rfl); (case zzc4 => exact rfl); k_whole; intro zzg' zzL' zzh' zzFG' zzF' zzN' zzB' zzX' zzT'; (try dsimp only); (try k_lift zzB'); (try k_fold)))
  k_with "k_enter" => (case zzfresh => (refine' code_defC ?zzk1 ?zzk2 ?zzk3 ?zzk4 ?zzk5 ?zzkA ?zzkF ?zzkK ?zzk6 ?zzk7 ?zzk8 ?zzk9 ?zzkB ?zzkD ?_ ?zzc2 ?zzc3 ?zzc4; (case zzkA => exact rfl); (case zzkF => exact rfl); (case zzkK => first | exact rfl | assumption); (case zzk1 => k_asm); (case zzk2 => k_asm); (case zzk3 => k_asm); (case zzk4 => k_asm); (case zzk5 => k_asm); (case zzk6 => k_is); (case zzk7 => k_is); (case zzk8 => k_room); (case zzk9 => first | exact BindsTo.of_eq rfl | exact binds_K (by k_in) rfl (by k_is) rfl rfl rfl | (refine kp_binds (by k_in) ?_; exact fun _ => rfl) | fail "k_enter: no rule for these arguments"); (case zzkB => exact rfl); (case zzkD => decide +kernel); (case zzc2 => exact rfl); (case zzc3 => exact rfl); (case zzc4 => exact rfl); k_whole; intro zzg' zzL' zzh' zztk' zzcells' zzFG' zzF' zzN' zzY' zzB' zzX' zzT' zzl1; (try k_lt zzl1); k_cells zzY'; (try simp only [List.cons_append, List.nil_append] at zzN'); (try dsimp only); (try k_lift zzB'); (try k_fold)))
  k_with "mine open" => ((refine wpAny_call ?_; k_dflt (first | k_enter | kc_enter)))
  k_with "mine open R" => (case zzfresh => (refine wpAny_call ?_; k_dflt (refine' code_defR ?zzk1 ?zzk2 ?zzk3 ?zzk4 ?zzkD ?zzk5 ?zzkA ?zzkF ?zzkK ?zzk6 ?zzk7 ?zzk8 ?zzk9 ?zzkB ?_ ?zzc2 ?zzc3 ?zzc4 ?zzc5; (case zzkA => exact rfl); (case zzkF => exact rfl); (case zzkK => first | exact rfl | assumption); (case zzk1 => k_asm); (case zzk2 => k_asm); (case zzk3 => k_asm); (case zzk4 => with_reducible assumption); (case zzkD => with_reducible assumption); (case zzk5 => k_asm); (case zzk6 => k_is); (case zzk7 => k_is); (case zzk8 => k_room); (case zzk9 => first | exact BindsTo.of_eq rfl | exact binds_K (by k_in) rfl (by k_is) rfl rfl rfl | (refine kp_binds (by k_in) ?_; exact fun _ => rfl) | fail "k_enter: no rule for these arguments"); (case zzc5 => decide); (case zzkB => exact locs rfl); (case zzc2 => exact rfl); (case zzc3 => exact rfl); (case zzc4 => exact rfl)); k_whole; intro zzg' zzL' zzh' zzFG' zzF' zzN' zzB' zzX' zzT' zzS'; (try dsimp only); (try k_lift zzB'); (try k_fold)))
  k_with "mine open CR" => (case zzfresh => (refine wpAny_call ?_; k_dflt (refine' code_defCR ?zzk1 ?zzk2 ?zzk3 ?zzk4 ?zzkR ?zzk5 ?zzkA ?zzkF ?zzkK ?zzk6 ?zzk7 ?zzk8 ?zzk9 ?zzkB ?zzkD ?_ ?zzc2 ?zzc3 ?zzc4; (case zzkA => exact rfl); (case zzkF => exact rfl); (case zzkK => first | exact rfl | assumption); (case zzk1 => k_asm); (case zzk2 => k_asm); (case zzk3 => k_asm); (case zzk4 => with_reducible assumption); (case zzkR => with_reducible assumption); (case zzk5 => k_asm); (case zzk6 => k_is); (case zzk7 => k_is); (case zzk8 => k_room); (case zzk9 => first | exact BindsTo.of_eq rfl | exact binds_K (by k_in) rfl (by k_is) rfl rfl rfl | (refine kp_binds (by k_in) ?_; exact fun _ => rfl) | fail "k_enter: no rule for these arguments"); (case zzkB => exact rfl); (case zzkD => decide +kernel); (case zzc2 => exact rfl); (case zzc3 => exact rfl); (case zzc4 => exact rfl)); k_whole; intro zzg' zzL' zzh' zztk' zzcells' zzFG' zzF' zzN' zzY' zzB' zzX' zzT' zzl1 zzS'; (try k_lt zzl1); k_cells zzY'; (try simp only [List.cons_append, List.nil_append] at zzN'); (try dsimp only); (try k_lift zzB'); (try k_fold)))
  k_with "mine open CR0" => (case zzfresh => (refine wpAny_call ?_; k_dflt (refine' code_defCR (own := []) ?zzk1 ?zzk2 ?zzk3 ?zzk4 ?zzkR ?zzk5 ?zzkA ?zzkF ?zzkK ?zzk6 ?zzk7 ?zzk8 ?zzk9 ?zzkB ?zzkD ?_ ?zzc2 ?zzc3 ?zzc4; (case zzkA => exact rfl); (case zzkF => exact rfl); (case zzkK => first | exact rfl | assumption); (case zzk1 => k_asm); (case zzk2 => k_asm); (case zzk3 => k_asm); (case zzk4 => k_asm); (case zzkR => exact Apart.zero); (case zzk5 => k_asm); (case zzk6 => k_is); (case zzk7 => k_is); (case zzk8 => k_room); (case zzk9 => first | exact BindsTo.of_eq rfl | exact binds_K (by k_in) rfl (by k_is) rfl rfl rfl | (refine kp_binds (by k_in) ?_; exact fun _ => rfl) | fail "k_enter: no rule for these arguments"); (case zzkB => exact rfl); (case zzkD => decide +kernel); (case zzc2 => exact rfl); (case zzc3 => exact rfl); (case zzc4 => exact rfl)); k_whole; intro zzg' zzL' zzh' zztk' zzcells' zzFG' zzF' zzN' zzY' zzB' zzX' zzT' zzl1 zzS'; clear zzl1; k_cells zzY'; (try simp only [List.cons_append, List.nil_append, List.append_nil] at zzN'); (try dsimp only); (try k_lift zzB'); (try k_fold)))
  k_with "mine open R0" => (case zzfresh => (refine wpAny_call ?_; k_dflt (refine' code_defR (own := []) ?zzk1 ?zzk2 ?zzk3 ?zzk4 ?zzkD ?zzk5 ?zzkA ?zzkF ?zzkK ?zzk6 ?zzk7 ?zzk8 ?zzk9 ?zzkB ?_ ?zzc2 ?zzc3 ?zzc4 ?zzc5; (case zzkA => exact rfl); (case zzkF => exact rfl); (case zzkK => first | exact rfl | assumption); (case zzk1 => k_asm); (case zzk2 => k_asm); (case zzk3 => k_asm); (case zzk4 => k_asm); (case zzkD => exact Apart.zero); (case zzk5 => k_asm); (case zzk6 => k_is); (case zzk7 => k_is); (case zzk8 => k_room); (case zzk9 => first | exact BindsTo.of_eq rfl | exact binds_K (by k_in) rfl (by k_is) rfl rfl rfl | (refine kp_binds (by k_in) ?_; exact fun _ => rfl) | fail "k_enter: no rule for these arguments"); (case zzc5 => decide); (case zzkB => exact locs rfl); (case zzc2 => exact rfl); (case zzc3 => exact rfl); (case zzc4 => exact rfl)); k_whole; intro zzg' zzL' zzh' zzFG' zzF' zzN' zzB' zzX' zzT' zzS'; (try dsimp only); (try k_lift zzB'); (try k_fold)))
  k_with "exec Assign cons ListComp" => ((k_here; (with_reducible show wpAny _ _ (exec (Stmt.Assign [Expr.Name _ _] (Expr.ListComp _ [Comprehension.mk (Expr.Name _ _) _ [] _] _ _) _) _) _ _ _); k_dflt (refine assign_M (F₀ := by k_asm) (by rfl) (by with_unfolding_all rfl) (by with_unfolding_all rfl) (by decide) (by rfl) (by decide) (by rfl) (by rfl) (by rfl) ?_)))
  k_with "exec Assign cons ListComp" => ((k_here; (with_reducible show wpAny _ _ (exec (Stmt.Assign [Expr.Name _ _] (Expr.ListComp _ [Comprehension.mk (Expr.Name _ _) _ [_] _] _ _) _) _) _ _ _); k_dflt (refine assign_MT (F₀ := by k_asm) (by rfl) (by with_unfolding_all rfl) (by with_unfolding_all rfl) (by decide) (by rfl) (by decide) (by rfl) (by rfl) (by rfl) ?_)))
  k_with "eval ListComp" => ((k_here; (with_reducible show wpAny _ _ (eval (Expr.ListComp _ [Comprehension.mk (Expr.Name _ _) _ [] _] _ _) _) _ _ _); k_dflt (refine comp_M (F₀ := by k_asm) (by with_unfolding_all rfl) (by decide) (by rfl) (by decide) (by rfl) ?_)))
  k_with "eval ListComp" => ((k_here; (with_reducible show wpAny _ _ (eval (Expr.ListComp _ [Comprehension.mk (Expr.Name _ _) _ [_] _] _ _) _) _ _ _); k_dflt (refine comp_MT (F₀ := by k_asm) (by with_unfolding_all rfl) (by decide) (by rfl) (by decide) (by rfl) ?_)))
  k_with "k_mem" => (first | with_reducible assumption | exact List.Mem.head _ | (refine' List.Mem.tail _ ?_; k_mem) | assumption)
  k_with "k_all" => (case zzfresh => first | with_reducible assumption | exact List.forall_mem_nil _ | (refine' List.forall_mem_cons.mpr ⟨?zza, ?zzb⟩; (case zza => k_ne); (case zzb => k_all)))
  k_with "mine sub" => (case zzfresh => first | with_reducible assumption | (intro zzq zzhq; exact List.mem_cons_of_mem _ (by revert zzq zzhq; walk_at "mine sub")))
  k_with "call ref" => (refine stop_here ?_)
  k_with "call ref" => (case zzfresh => (k_here; k_dflt (refine' ConF.useE (by with_reducible assumption) ?zzB ?zzF ?zzX ?zzN ?zzT ?zzhk ?zzhh ?zzhd ?zzhf ?zzhg ?zzhu ?_; (case zzhf => exact rfl); (case zzhk => exact rfl); (case zzhh => exact rfl); (case zzhg => exact rfl); (case zzF => k_asm); (case zzN => k_asm); (case zzB => k_asm); (case zzX => k_in); (case zzT => k_asm); (case zzhd => exact Nat.le_of_ble_eq_true rfl); (case zzhu => exact Nat.le_of_ble_eq_true rfl)); intro zzv' zzh' zztk' zzhpost' zzF' zzN'; k_dflt (obtain ⟨zzu1', zze1'⟩ := zzhpost'); subst zze1'))
  k_with "call builtin:len" => ((k_here; (with_reducible show wpAny _ _ (call (Value.builtin _) [Value.ref _]) _ _ _); k_dflt (refine len_is (News.isList (by k_asm) (by k_mem)) (by with_reducible assumption) (by omega) ?_); intro _ _))
  k_with "mine tail" => (first | with_reducible assumption | (refine List.mem_cons_of_mem _ ?_; walk_at "mine tail"))
  trivial
open Mine.Pl
set_option maxRecDepth 100000 in
set_option maxHeartbeats 1000000 in
theorem lawB3 {w : World} {h₀ : Heap} {L fa : Addr} {cd : Value} {p : Program} {loose : List Str} {mean : ExcName → Option Value} {mg mb : Str → Option Value} {sc : Scope} {m : Str → Option Value} {s : Shared}
    {Q : Flow → Shared → Prop} {E : Value → Shared → Prop} {b0 b1 b2 b3 b4 b5 b6 b7 b8 b9 b10 b11 : Stmt} {tl rest : List Stmt} (hat : lawAt w.params = some (b0 :: b1 :: b2 :: b3 :: b4 :: b5 :: b6 :: b7 :: b8 :: b9 :: b10 :: b11 :: tl, sc))
    (X : (Mine.hd.heap_39 w.params).In h₀) (B' : Below callerA h₀ [] h₀) (TT : Top p loose mean mg mb h₀)
    {oM : Obj} {vM : Option Value} {led : Led}
    (F : Fr h₀ L s.heap m) (N : News h₀ L s.heap ((L + 1 + 1 + 1 + 1 + 1 + 1, oM) :: led)) (dM : oM.data = .cell vM) (hn : ∀ q ∈ led, q.1 ≠ L + 1 + 1 + 1 + 1 + 1 + 1)
    (k : ∀ h' tk' Mv Bf oM', oM'.data = .cell (some (.ref Mv)) → Fr h₀ L h' (fun y => if y = Str.ofString "before" then some (.ref Bf) else m y) → News h₀ L h' ((Bf, lstN [] 0) :: (Mv, lstN [] 0) :: (L + 1 + 1 + 1 + 1 + 1 + 1, oM') :: led) →
      (∀ q ∈ led, q.1 ≠ Mv) → (∀ q ∈ led, q.1 ≠ Bf) → Mv ≠ Bf →
      wpAny (model PySem.Challenge.rw_wy0034_01.row.prog w) (callerA.deeper (envOfC (Str.ofString "law") sc L fa cd)) (execs rest (envOfC (Str.ofString "law") sc L fa cd)) Q E { s with heap := h', toks := tk' }) :
    wpAny (model PySem.Challenge.rw_wy0034_01.row.prog w) (callerA.deeper (envOfC (Str.ofString "law") sc L fa cd)) (execs (b10 :: b11 :: rest) (envOfC (Str.ofString "law") sc L fa cd)) Q E s := by
  have e : lawAt w.params = some (_ :: _ :: _ :: _ :: _ :: _ :: _ :: _ :: _ :: _ :: _ :: _ :: _, _) := rfl
  cases hat.symm.trans e
  clear hat e
  revert X
  k_fill
  intro X
  k_steps
  rename (_ ∧ _ ∧ AllLt _ led) => l9
  rename (_ ∧ AllLt _ led) => l8
  exact k _ _ _ _ _ (by assumption) (by assumption) (by assumption) (fun q hq => Nat.ne_of_lt (lt_at l8.2 q hq)) (fun q hq => Nat.ne_of_lt (lt_at l9.2.2 q hq)) (Nat.ne_of_lt l9.1)

end Mine.Pd
end
section
theorem Mine.resetPl3 : True := by
  k_with_none
  w_top off
  trivial
open PySem PySem.W
namespace Mine.Pl
open Mine.Bk Mine.My
/-- one, two or three steps never make a round -/
theorem Cfg.apart {base step x : Int} (C : Cfg base step) {i j : Int} (h1 : 1 ≤ j - i) (h3 : j - i ≤ 3) : (x + i * step) % base ≠ (x + j * step) % base := by
  intro e
  have k1 := Int.mul_ediv_add_emod (x + i * step) base
  have k2 := Int.mul_ediv_add_emod (x + j * step) base
  obtain ⟨q, hq⟩ : ∃ q, (x + j * step) / base - (x + i * step) / base = q := ⟨_, rfl⟩
  have e2 : (j - i) * step = base * q := by
    rw [Int.sub_mul, ← hq, Int.mul_sub]; lia
  have b5 := C.b5
  have s0 := C.s0
  have s1 := C.s1
  have ho := C.odd
  have ht := C.three
  have hq0 : 0 < q := by
    rcases Int.lt_or_le 0 q with h | h
    · exact h
    · have : base * q ≤ 0 := Int.mul_nonpos_of_nonneg_of_nonpos (by lia) h
      have : 0 < (j - i) * step := Int.mul_pos (by lia) (by lia)
      lia
  have hq3 : q < 3 := by
    rcases Int.lt_or_le q 3 with h | h
    · exact h
    · have h4 : base * 3 ≤ base * q := Int.mul_le_mul_of_nonneg_left h (by lia)
      have h5 : (j - i) * step ≤ 3 * step := Int.mul_le_mul_of_nonneg_right h3 (by lia)
      lia
  generalize j - i = d at *
  rcases (show (d = 1 ∨ d = 2 ∨ d = 3) by lia) with rfl | rfl | rfl <;> rcases (show (q = 1 ∨ q = 2) by lia) with rfl | rfl <;> lia
theorem conv_init {base step : Int} {t : Tg} (C : Cfg base step) (R : Rng base t) : conv base step 13 t := by
  have d01 := C.apart (x := t 0) (i := 0) (j := 1) (by decide) (by decide)
  have d02 := C.apart (x := t 0) (i := 0) (j := 2) (by decide) (by decide)
  have d03 := C.apart (x := t 0) (i := 0) (j := 3) (by decide) (by decide)
  have d12 := C.apart (x := t 0) (i := 1) (j := 2) (by decide) (by decide)
  have d13 := C.apart (x := t 0) (i := 1) (j := 3) (by decide) (by decide)
  have d23 := C.apart (x := t 0) (i := 2) (j := 3) (by decide) (by decide)
  have e0 : (t 0 + 0 * step) % base = t 0 := by rw [Int.zero_mul, Int.add_zero]; exact Int.emod_eq_of_lt (R 0 (by decide)).1 (R 0 (by decide)).2
  have n1 : ((t 0 + 0 * step) % base + step) % base = (t 0 + 1 * step) % base := by rw [Int.emod_add_emod]; congr 1; lia
  have n2 : ((t 0 + 1 * step) % base + step) % base = (t 0 + 2 * step) % base := by rw [Int.emod_add_emod]; congr 1; lia
  have n3 : ((t 0 + 2 * step) % base + step) % base = (t 0 + 3 * step) % base := by rw [Int.emod_add_emod]; congr 1; lia
  generalize (t 0 + 0 * step) % base = w0 at *
  generalize (t 0 + 1 * step) % base = w1 at *
  generalize (t 0 + 2 * step) % base = w2 at *
  generalize (t 0 + 3 * step) % base = w3 at *
  obtain ⟨φ, hφ⟩ : ∃ φ : Int → Nat, φ = fun z => if z = w0 then 0 else if z = w1 then 1 else if z = w2 then 2 else if z = w3 then 3 else if z = t 1 then 4 else if z = t 2 then 5 else 6 := ⟨_, rfl⟩
  obtain ⟨ρ, hρ⟩ : ∃ ρ : Nat → Int, ρ = fun l => if l = 0 then w0 else if l = 1 then w1 else if l = 2 then w2 else if l = 3 then w3 else if l = 4 then t 1 else if l = 5 then t 2 else t 3 := ⟨_, rfl⟩
  have lt7 : ∀ z, φ z < 7 := fun z => by rw [hφ]; dsimp only; (repeat' split) <;> decide
  have back : ∀ z, (z = t 1 ∨ z = t 2 ∨ z = t 3) → ρ (φ z) = z := by
    intro z hz
    rw [hφ, hρ]
    dsimp only
    by_cases h0 : z = w0
    · simp [h0]
    · by_cases h1 : z = w1
      · simp [h1, Ne.symm d01]
      · by_cases h2 : z = w2
        · simp [h2, Ne.symm d02, Ne.symm d12]
        · by_cases h3 : z = w3
          · simp [h3, Ne.symm d03, Ne.symm d13, Ne.symm d23]
          · by_cases h4 : z = t 1
            · rw [if_neg h0, if_neg h1, if_neg h2, if_neg h3, if_pos h4]; simp [h4]
            · by_cases h5 : z = t 2
              · rw [if_neg h0, if_neg h1, if_neg h2, if_neg h3, if_neg h4, if_pos h5]; simp [h5]
              · rw [if_neg h0, if_neg h1, if_neg h2, if_neg h3, if_neg h4, if_neg h5]
                have : z = t 3 := by rcases hz with h | h | h; exact absurd h h4; exact absurd h h5; exact h
                simp [this]
  have r0 : ρ 0 = w0 := by rw [hρ]; rfl
  have r1 : ρ 1 = w1 := by rw [hρ]; rfl
  have r2 : ρ 2 = w2 := by rw [hρ]; rfl
  have r3 : ρ 3 = w3 := by rw [hρ]; rfl
  have f0 : φ w0 = 0 := by rw [hφ]; simp
  have f1 : φ w1 = 1 := by rw [hφ]; simp [Ne.symm d01]
  have f2 : φ w2 = 2 := by rw [hφ]; simp [Ne.symm d02, Ne.symm d12]
  have f3 : φ w3 = 3 := by rw [hφ]; simp [Ne.symm d03, Ne.symm d13, Ne.symm d23]
  have fr : ∀ l, (l ≤ 3 ∨ l = φ (t 1) ∨ l = φ (t 2) ∨ l = φ (t 3)) → φ (ρ l) = l := by
    intro l hl
    rcases hl with h | rfl | rfl | rfl
    · rcases (show l = 0 ∨ l = 1 ∨ l = 2 ∨ l = 3 by lia) with rfl | rfl | rfl | rfl
      · rw [r0, f0]
      · rw [r1, f1]
      · rw [r2, f2]
      · rw [r3, f3]
    · rw [back _ (.inl rfl)]
    · rw [back _ (.inr (.inl rfl))]
    · rw [back _ (.inr (.inr rfl))]
  refine conv_of C (ρ := ρ) (U := fun l => l ≤ 3 ∨ l = φ (t 1) ∨ l = φ (t 2) ∨ l = φ (t 3)) (fun a b ha hb e => by rw [← fr a ha, ← fr b hb, e]) (fun i hi => .inl hi) (fun i hi => ?_) 13 0 (φ (t 1)) (φ (t 2)) (φ (t 3)) t
    (all_ok ⟨_, lt7 _⟩ ⟨_, lt7 _⟩ ⟨_, lt7 _⟩) (.inl (by decide)) (.inr (.inl rfl)) (.inr (.inr (.inl rfl))) (.inr (.inr (.inr rfl))) (by rw [r0, e0]) (back _ (.inl rfl)).symm (back _ (.inr (.inl rfl))).symm (back _ (.inr (.inr rfl))).symm R
  rcases (show i = 0 ∨ i = 1 ∨ i = 2 by lia) with rfl | rfl | rfl
  · rw [r0, r1]; exact n1
  · rw [r1, r2]; exact n2
  · rw [r2, r3]; exact n3
/-- the start -/
theorem St.init {base step c2 : Int} {t : Tg} (C : Cfg base step) (R : Rng base t) (h0 : t 0 = c2 % base) : St base step c2 0 t (fun j => j) (fun j => j) (fun j => 97 + j) (fun j => j % 3) [] [] := by
  refine ⟨⟨fun _ h => h, fun _ h => h, fun _ _ => rfl, fun _ _ => rfl⟩, R, conv_init C R, fun j hj => ⟨hj, .inl rfl⟩, fun j _ => Nat.mod_lt _ (by decide), rfl, (fun q hq => nomatch hq), fun pre q e => ?_, by decide, ?_, fun h => absurd h (by decide), fun h => absurd h (by decide), fun a _ h => absurd h (Nat.not_lt_zero _), fun b p h => absurd h (Nat.not_lt_zero _)⟩
  · exact absurd e.symm (by simp)
  · rw [h0]; simp
end Mine.Pl
end
section
theorem Mine.resetEn5 : True := by
  k_with_none
  w_top off
  trivial
open PySem PySem.Spec PySem.Calls PySem.W PyProof.Rows PyProof.Rows.LCg
namespace Mine
open Mine.Bk Mine.Pl
theorem fine_tit (j : Nat) (h : j < 4) : ∀ z ∈ [97 + j], Re.Fine z := low_fine h
set_option maxHeartbeats 1000000 in
theorem back {w : World} {h₀ : Heap} {L fa : Addr} {cd : Value} {p : Program} {loose : List Str} {mean : ExcName → Option Value} {mg mb : Str → Option Value} {sc : Scope} {m : Str → Option Value} {s : Shared}
    {Q : Flow → Shared → Prop} {E : Value → Shared → Prop} {b0 b1 b2 b3 b4 b5 b6 b7 b8 b9 b10 b11 b12 b13 b14 b15 b16 : Stmt} (hat : lawAt w.params = some ([b0, b1, b2, b3, b4, b5, b6, b7, b8, b9, b10, b11, b12, b13, b14, b15, b16], sc))
    (X : (Mine.hd.heap_39 w.params).In h₀) (B' : Below callerA h₀ [] h₀) (TT : Top p loose mean mg mb h₀)
    {Fi Fa Ce : Addr} {oF oM oR oS oB oC : Obj} {base step unit far0 gr below c0 c1 c2 c3 c4 c5 c6 f0 f1 f2 f3 : Int} {v0 v1 v2 v3 v4 v5 v6 z0 z1 z2 z3 w0 w1 ts tb1 : Tok} {vM vR : Option Value} {nfi nf nc : Nat}
    (F : Fr h₀ L s.heap m) (un : ∃ t, m (Str.ofString "unit") = some (.int unit t)) (be : ∃ t, m (Str.ofString "below") = some (.int below t)) (ff : m (Str.ofString "fars") = some (.ref Fa))
    (N : News h₀ L s.heap [(L + 1 + 1 + 1 + 1 + 1 + 1 + 1, oR), (L + 1 + 1 + 1 + 1 + 1 + 1, oM), (L + 1 + 1 + 1 + 1 + 1, oF), (L + 1 + 1 + 1 + 1, oS), (L + 1 + 1 + 1, oB), (L + 1 + 1, oC), (Fi, lstN [.int f0 z0, .int f1 z1, .int f2 z2, .int f3 z3] nfi), (Fa, lstN [.int far0 w0, .int gr w1] nf), (Ce, lstN [.int c0 v0, .int c1 v1, .int c2 v2, .int c3 v3, .int c4 v4, .int c5 v5, .int c6 v6] nc), (54, tabObj #[])])
    (dR : oR.data = .cell vR) (dM : oM.data = .cell vM) (dF : oF.data = .cell (some (.ref Fi))) (dS : oS.data = .cell (some (.int step ts))) (dB : oB.data = .cell (some (.int base tb1))) (dC : oC.data = .cell (some (.ref Ce)))
    (C : Cfg base step) (ex : ∃ x : Nat, unit = 3 ^ x ∧ 2600 ≤ x ∧ x ≤ 2899) (bl0 : 0 ≤ below) (bl1 : below < unit) (fr0 : 0 ≤ far0) (fr1 : far0 ≤ gr) (gg : gr = 2 ^ (Builtin.Int.intBits (base * unit)) - 2)
    (hf0 : f0 = c2 % base) (r1 : 0 ≤ f1 ∧ f1 < base) (r2 : 0 ≤ f2 ∧ f2 < base) (r3 : 0 ≤ f3 ∧ f3 < base)
    (hE : PassesOwn (model PySem.Challenge.rw_wy0034_01.row.prog w) (callerA.deeper (envOfC (Str.ofString "law") sc L fa cd)) (envOfC (Str.ofString "law") sc L fa cd) E)
    (k : ∀ h' tk' m' tabs, Dig.Tab tabs → Fr h₀ L h' m' → News h₀ L h' tabs → Q (.ret (.bool true)) { s with heap := h', toks := tk' }) :
    wpAny (model PySem.Challenge.rw_wy0034_01.row.prog w) (callerA.deeper (envOfC (Str.ofString "law") sc L fa cd)) (execs [b8, b9, b10, b11, b12, b13, b14, b15, b16] (envOfC (Str.ofString "law") sc L fa cd)) Q E s := by
  have hb := C.b1801
  have r0 : 0 ≤ f0 ∧ f0 < base := by rw [hf0]; exact ⟨Int.emod_nonneg _ (by have := C.pos; lia), Int.emod_lt_of_pos _ C.pos⟩
  refine Pb.lawB1 hat X B' TT F N (.tail _ (.tail _ (.head _))) dF (.tail _ (.tail _ (.tail _ (.tail _ (.tail _ (.tail _ (.head _))))))) r0.1 (by lia) r1.1 (by lia) r2.1 (by lia) r3.1 (by lia) ?_
  intro h1 tk1 G T ta tb ng F1 N1 hG
  have tyL : ∀ q ∈ [(L + 1 + 1 + 1 + 1 + 1 + 1 + 1, oR), (L + 1 + 1 + 1 + 1 + 1 + 1, oM), (L + 1 + 1 + 1 + 1 + 1, oF), (L + 1 + 1 + 1 + 1, oS), (L + 1 + 1 + 1, oB), (L + 1 + 1, oC), (Fi, lstN [.int f0 z0, .int f1 z1, .int f2 z2, .int f3 z3] nfi), (Fa, lstN [.int far0 w0, .int gr w1] nf), (Ce, lstN [.int c0 v0, .int c1 v1, .int c2 v2, .int c3 v3, .int c4 v4, .int c5 v5, .int c6 v6] nc), (54, tabObj #[])],
      ty q.2 ≤ 3 ∧ (ty q.2 = 1 → q.1 ≠ L + 1 + 1 + 1 + 1 + 1 + 1 ∨ q = (L + 1 + 1 + 1 + 1 + 1 + 1, oM)) := by
    intro q hq
    simp only [List.mem_cons, List.not_mem_nil, or_false] at hq
    rcases hq with h | h | h | h | h | h | h | h | h | h <;> rw [h]
    · exact ⟨by show ty oR ≤ 3; rw [ty_cell dR]; decide, fun _ => .inl (Nat.ne_of_gt (by lia))⟩
    · exact ⟨by show ty oM ≤ 3; rw [ty_cell dM]; decide, fun _ => .inr rfl⟩
    · exact ⟨by show ty oF ≤ 3; rw [ty_cell dF]; decide, fun _ => .inl (Nat.ne_of_lt (by lia))⟩
    · exact ⟨by show ty oS ≤ 3; rw [ty_cell dS]; decide, fun _ => .inl (Nat.ne_of_lt (by lia))⟩
    · exact ⟨by show ty oB ≤ 3; rw [ty_cell dB]; decide, fun _ => .inl (Nat.ne_of_lt (by lia))⟩
    · exact ⟨by show ty oC ≤ 3; rw [ty_cell dC]; decide, fun _ => .inl (Nat.ne_of_lt (by lia))⟩
    · exact ⟨by show (3 : Nat) ≤ 3; decide, fun e => absurd e (by show (3 : Nat) ≠ 1; decide)⟩
    · exact ⟨by show (3 : Nat) ≤ 3; decide, fun e => absurd e (by show (3 : Nat) ≠ 1; decide)⟩
    · exact ⟨by show (3 : Nat) ≤ 3; decide, fun e => absurd e (by show (3 : Nat) ≠ 1; decide)⟩
    · exact ⟨by show (2 : Nat) ≤ 3; decide, fun e => absurd e (by show (2 : Nat) ≠ 1; decide)⟩
  obtain ⟨led0, hled⟩ : ∃ l, l = [(L + 1 + 1 + 1 + 1 + 1 + 1 + 1, oR), (L + 1 + 1 + 1 + 1 + 1 + 1, oM), (L + 1 + 1 + 1 + 1 + 1, oF), (L + 1 + 1 + 1 + 1, oS), (L + 1 + 1 + 1, oB), (L + 1 + 1, oC), (Fi, lstN [.int f0 z0, .int f1 z1, .int f2 z2, .int f3 z3] nfi), (Fa, lstN [.int far0 w0, .int gr w1] nf), (Ce, lstN [.int c0 v0, .int c1 v1, .int c2 v2, .int c3 v3, .int c4 v4, .int c5 v5, .int c6 v6] nc), (54, tabObj #[])] := ⟨_, rfl⟩
  rw [← hled] at N1 hG tyL
  have mR : (L + 1 + 1 + 1 + 1 + 1 + 1 + 1, oR) ∈ led0 := by rw [hled]; exact .head _
  have mM : (L + 1 + 1 + 1 + 1 + 1 + 1, oM) ∈ led0 := by rw [hled]; exact .tail _ (.head _)
  have mS : (L + 1 + 1 + 1 + 1, oS) ∈ led0 := by rw [hled]; exact .tail _ (.tail _ (.tail _ (.head _)))
  have mB : (L + 1 + 1 + 1, oB) ∈ led0 := by rw [hled]; exact .tail _ (.tail _ (.tail _ (.tail _ (.head _))))
  have mC : (L + 1 + 1, oC) ∈ led0 := by rw [hled]; exact .tail _ (.tail _ (.tail _ (.tail _ (.tail _ (.head _)))))
  have mFa : (Fa, lstN [.int far0 w0, .int gr w1] nf) ∈ led0 := by rw [hled]; exact .tail _ (.tail _ (.tail _ (.tail _ (.tail _ (.tail _ (.tail _ (.head _)))))))
  have mCe : (Ce, lstN [.int c0 v0, .int c1 v1, .int c2 v2, .int c3 v3, .int c4 v4, .int c5 v5, .int c6 v6] nc) ∈ led0 := by rw [hled]; exact .tail _ (.tail _ (.tail _ (.tail _ (.tail _ (.tail _ (.tail _ (.tail _ (.head _))))))))
  have mT : ((54 : Addr), tabObj #[]) ∈ led0 := by rw [hled]; exact .tail _ (.tail _ (.tail _ (.tail _ (.tail _ (.tail _ (.tail _ (.tail _ (.tail _ (.head _)))))))))
  clear hled N
  obtain ⟨c, hc⟩ : ∃ c : Nat → Nat, c = fun j => 97 + j := ⟨_, rfl⟩
  obtain ⟨x, hx⟩ : ∃ x : Nat → List Nat, x = fun j => tx (dg ([f0, f1, f2, f3].getD j 0).toNat) (j % 3) := ⟨_, rfl⟩
  have N1' : News h₀ L h1 ((G, lstN [.ref (T 0), .ref (T 1), .ref (T 2), .ref (T 3)] ng) :: (T 0, pairO (c 0) (x 0) (ta 0) (tb 0)) :: (T 1, pairO (c 1) (x 1) (ta 1) (tb 1)) :: (T 2, pairO (c 2) (x 2) (ta 2) (tb 2)) :: (T 3, pairO (c 3) (x 3) (ta 3) (tb 3)) :: led0) := by
    rw [hc, hx]; exact N1
  clear N1
  have fc : ∀ j, j < 4 → ∀ z ∈ [c j], Re.Fine z := fun j hj => by rw [hc]; exact low_fine hj
  have fx : ∀ j, ∀ z ∈ x j, Re.FineV z := fun j => by rw [hx]; exact S7.tx_fineV (dg_ok _) _
  have fl : ∀ j, (x j).length ≤ 1000 := fun j => by rw [hx]; exact S7.tx_len' (dg_ok _) _
  have ap : Apart [(G, lstN [.ref (T 0), .ref (T 1), .ref (T 2), .ref (T 3)] ng), (T 0, pairO (c 0) (x 0) (ta 0) (tb 0)), (T 1, pairO (c 1) (x 1) (ta 1) (tb 1)), (T 2, pairO (c 2) (x 2) (ta 2) (tb 2)), (T 3, pairO (c 3) (x 3) (ta 3) (tb 3))] led0 := by
    intro q hq r hr
    have hq' : q ∈ ((G, lstN [.ref (T 0), .ref (T 1), .ref (T 2), .ref (T 3)] ng) :: (T 0, pairO (c 0) (x 0) (ta 0) (tb 0)) :: (T 1, pairO (c 1) (x 1) (ta 1) (tb 1)) :: (T 2, pairO (c 2) (x 2) (ta 2) (tb 2)) :: (T 3, pairO (c 3) (x 3) (ta 3) (tb 3)) :: led0) := .tail _ (.tail _ (.tail _ (.tail _ (.tail _ hq))))
    have h3 := (tyL q hq).1
    have far : ∀ j, (T j, pairO (c j) (x j) (ta j) (tb j)) ∈ ((G, lstN [.ref (T 0), .ref (T 1), .ref (T 2), .ref (T 3)] ng) :: (T 0, pairO (c 0) (x 0) (ta 0) (tb 0)) :: (T 1, pairO (c 1) (x 1) (ta 1) (tb 1)) :: (T 2, pairO (c 2) (x 2) (ta 2) (tb 2)) :: (T 3, pairO (c 3) (x 3) (ta 3) (tb 3)) :: led0) → T j ≠ q.1 := fun j hj =>
      ne_ty N1' hj hq' (by show (5 : Nat) ≠ ty q.2; lia)
    simp only [List.mem_cons, List.not_mem_nil, or_false] at hr
    rcases hr with h | h | h | h | h <;> rw [h]
    · exact Ne.symm (hG q hq)
    · exact far 0 (.tail _ (.head _))
    · exact far 1 (.tail _ (.tail _ (.head _)))
    · exact far 2 (.tail _ (.tail _ (.tail _ (.head _))))
    · exact far 3 (.tail _ (.tail _ (.tail _ (.tail _ (.head _)))))
  refine Pc.lawB2 (s := { s with heap := h1, toks := tk1 }) hat X B' TT F1 N1' rfl ap (fc 0 (by decide)) (fc 1 (by decide)) (fc 2 (by decide)) (fc 3 (by decide)) (by simp) (by simp) (by simp) (by simp) (fx 0) (fx 1) (fx 2) (fx 3) (fl 0) (fl 1) (fl 2) (fl 3) ?_
  intro h2 tk2 Bk Dk tD F2 N2
  have N2' : News h₀ L h2 ((L + 1 + 1 + 1 + 1 + 1 + 1, oM) :: (book w Bk Dk G T c x ta tb tD ng ++ led0.filter fun q => decide (q.1 ≠ L + 1 + 1 + 1 + 1 + 1 + 1))) := by
    refine News.sub N2 (fun q hq => ?_)
    rcases List.mem_cons.mp hq with e | hq
    · rw [e]; exact List.mem_append_right _ mM
    · rcases List.mem_append.mp hq with hq | hq
      · exact List.mem_append_left _ hq
      · exact List.mem_append_right _ (List.mem_filter.mp hq).1
  have tyB := ty_book' (w := w) (B := Bk) (D := Dk) (G := G) (T := T) (c := c) (x := x) (a := ta) (b := tb) (tD := tD) (n := ng)
  refine Pd.lawB3 (s := { s with heap := h2, toks := tk2 }) hat X B' TT F2 N2' dM (fun q hq => ?_) ?_
  · rcases List.mem_append.mp hq with h | h
    · refine ne_ty N2' (.tail _ hq) (.head _) ?_
      show ty q.2 ≠ ty oM
      rw [ty_cell dM]
      rcases tyB q h with ⟨_, e⟩ | e <;> lia
    · exact of_decide_eq_true (List.mem_filter.mp h).2
  intro h3 tk3 Mv Bf oM' dM' F3 N3 hMv hBf hMB
  have fil : ∀ {q}, q ∈ led0 → q.1 ≠ L + 1 + 1 + 1 + 1 + 1 + 1 → q ∈ book w Bk Dk G T c x ta tb tD ng ++ led0.filter fun q => decide (q.1 ≠ L + 1 + 1 + 1 + 1 + 1 + 1) := fun h1 h2 => List.mem_append_right _ (List.mem_filter.mpr ⟨h1, decide_eq_true h2⟩)
  have lne : ∀ {a : Addr} {o : Obj}, (a, o) ∈ led0 → ty o ≠ 1 → a ≠ L + 1 + 1 + 1 + 1 + 1 + 1 := fun {a o} h1 h2 => by
    refine ne_ty N2 (p := (a, o)) (q := (L + 1 + 1 + 1 + 1 + 1 + 1, oM)) (List.mem_append_right _ h1) (List.mem_append_right _ mM) ?_
    show ty o ≠ ty oM
    rw [ty_cell dM]; exact h2
  have gR := fil mR (by show @Ne Nat _ _; dsimp only; lia)
  have gS := fil mS (by show @Ne Nat _ _; dsimp only; lia)
  have gB := fil mB (by show @Ne Nat _ _; dsimp only; lia)
  have gC := fil mC (by show @Ne Nat _ _; dsimp only; lia)
  have gFa := fil mFa (lne mFa (by show (3 : Nat) ≠ 1; decide))
  have gCe := fil mCe (lne mCe (by show (3 : Nat) ≠ 1; decide))
  have gT := fil mT (lne mT (by show (2 : Nat) ≠ 1; decide))
  have gG : (G, lstN [.ref (T 0), .ref (T 1), .ref (T 2), .ref (T 3)] ng) ∈ book w Bk Dk G T c x ta tb tD ng ++ led0.filter fun q => decide (q.1 ≠ L + 1 + 1 + 1 + 1 + 1 + 1) := List.mem_append_left _ (.tail _ (.tail _ (.head _)))
  have cst : Cst oM' oS oB oC base step unit far0 gr below c2 G Mv Ce Fa [.int c0 v0, .int c1 v1, .int c2 v2, .int c3 v3, .int c4 v4, .int c5 v5, .int c6 v6] [.int far0 w0, .int gr w1] :=
    ⟨dM', ⟨_, dS⟩, ⟨_, dB⟩, dC, ⟨_, _, _, _, _, _, _, _, _, _, _, _, _, rfl⟩, ⟨_, _, rfl⟩, C, ex, bl0, bl1, fr0, fr1, gg, hMv _ gG, Ne.symm (hG _ mCe), Ne.symm (hG _ mFa), Ne.symm (hMv _ gCe), Ne.symm (hMv _ gFa)⟩
  have N4 : News h₀ L h3 (ledT w L Bk Dk G Mv Bf Ce Fa oR oM' oS oB oC [] [] [.int c0 v0, .int c1 v1, .int c2 v2, .int c3 v3, .int c4 v4, .int c5 v5, .int c6 v6] [.int far0 w0, .int gr w1] 0 0 nc nf T c x ta tb tD ng [(54, tabObj #[])]) := by
    refine News.sub N3 (fun q hq => ?_)
    unfold ledT at hq
    rcases List.mem_cons.mp hq with h | hq
    · rw [h]; exact .tail _ (.tail _ (.tail _ gR))
    rcases List.mem_cons.mp hq with h | hq
    · rw [h]; exact .tail _ (.head _)
    rcases List.mem_append.mp hq with hq | hq
    · rcases List.mem_cons.mp hq with h | hq
      · rw [h]; exact .tail _ (.tail _ (.head _))
      rcases List.mem_cons.mp hq with h | hq
      · rw [h]; exact .tail _ (.tail _ (.tail _ gS))
      rcases List.mem_cons.mp hq with h | hq
      · rw [h]; exact .tail _ (.tail _ (.tail _ gB))
      rcases List.mem_cons.mp hq with h | hq
      · rw [h]; exact .tail _ (.tail _ (.tail _ gC))
      rcases List.mem_cons.mp hq with h | hq
      · rw [h]; exact .head _
      rcases List.mem_cons.mp hq with h | hq
      · rw [h]; exact .tail _ (.tail _ (.tail _ gCe))
      rcases List.mem_cons.mp hq with h | hq
      · rw [h]; exact .tail _ (.tail _ (.tail _ gFa))
      · cases hq
    · rcases List.mem_append.mp hq with hq | hq
      · exact .tail _ (.tail _ (.tail _ (List.mem_append_left _ hq)))
      · rw [List.mem_singleton.mp hq]; exact .tail _ (.tail _ (.tail _ gT))
  have Rg : Rng base (fun j => [f0, f1, f2, f3].getD j 0) := fun j hj => by
    rcases cases4 hj with rfl | rfl | rfl | rfl
    · exact r0
    · exact r1
    · exact r2
    · exact r3
  have hJ : J w L Bk Dk G Mv Ce Fa oM' oS oB oC base step unit below c2 [.int c0 v0, .int c1 v1, .int c2 v2, .int c3 v3, .int c4 v4, .int c5 v5, .int c6 v6] [.int far0 w0, .int gr w1] nc nf tD 0 _ _ :=
    ⟨T, c, x, ta, tb, ng, oR, vR, [], 0, Bf, [], 0, [(54, tabObj #[])], (fun j => [f0, f1, f2, f3].getD j 0), (fun j => j), (fun j => j), (fun j => j % 3), [], [], rfl, (⟨un, be, ff, rfl, rfl, rfl⟩ : FrmOk unit below Fa G Bk Bf (fun y => if y = Str.ofString "before" then some (.ref Bf) else if y = Str.ofString "book" then some (.ref Bk) else if y = Str.ofString "given" then some (.ref G) else m y)), dR, .nil, .nil, .empty, hBf _ gG, hMB, by rw [hc]; exact St.init C Rg hf0, fun j _ => by rw [hx]⟩
  refine Lo.loop1 (s := { s with heap := h3, toks := tk3 }) hat X B' TT cst hE F3 N4 hJ ?_
  intro h tk m9 led9 hJ9 F9 N9
  exact ending (s := { s with heap := h, toks := tk }) hat X B' TT cst hE F9 N9 hJ9 (fun h' tk' m' tabs T9 F' N' => k h' tk' m' tabs T9 F' N')
end Mine
end
section
open PySem PySem.W PyProof.Rows PySem.Builtin.Int
open PyProof.Rows.LCg Mine.LC Mine.Bk
namespace Mine.Lw
theorem lines69 : True := by
  k_with_none
  w_top off
  k_with "k_enter" => (case zzfresh => (refine' code_def ?zzk1 ?zzk2 ?zzk3 ?zzk4 ?zzk5 ?zzkA ?zzkF ?zzkK ?zzk6 ?zzk7 ?zzk8 ?zzk9 ?zzkB ?_ ?zzc2 ?zzc3 ?zzc4 ?zzc5; (case zzkA => exact rfl); (case zzkF => exact rfl); (case zzkK => first | exact rfl | assumption); (case zzk1 => k_asm); (case zzk2 => k_asm); (case zzk3 => k_asm); (case zzk4 => k_asm); (case zzk5 => k_asm); (case zzk6 => k_is); (case zzk7 => k_is); (case zzk8 => k_room); (case zzk9 => first | exact BindsTo.of_eq rfl | exact binds_K (by k_in) rfl (by k_is) rfl rfl rfl | (refine kp_binds (by k_in) ?_; exact fun _ => rfl) | fail "k_enter: no rule for these arguments"); (case zzc5 => decide); (case zzkB => exact locs rfl); (case zzc2 => exact rfl); (case zzc3 => exact rfl); (case zzc4 => exact rfl); k_whole; intro zzg' zzL' zzh' zzFG' zzF' zzN' zzB' zzX' zzT'; (try dsimp only); (try k_lift zzB'); (try k_fold)))
  k_with "k_enter" => (case zzfresh => (refine' code_defC ?zzk1 ?zzk2 ?zzk3 ?zzk4 ?zzk5 ?zzkA ?zzkF ?zzkK ?zzk6 ?zzk7 ?zzk8 ?zzk9 ?zzkB ?zzkD ?_ ?zzc2 ?zzc3 ?zzc4; (case zzkA => exact rfl); (case zzkF => exact rfl); (case zzkK => first | exact rfl | assumption); (case zzk1 => k_asm); (case zzk2 => k_asm); (case zzk3 => k_asm); (case zzk4 => k_asm); (case zzk5 => k_asm); (case zzk6 => k_is); (case zzk7 => k_is); (case zzk8 => k_room); (case zzk9 => first | exact BindsTo.of_eq rfl | exact binds_K (by k_in) rfl (by k_is) rfl rfl rfl | (refine kp_binds (by k_in) ?_; exact fun _ => rfl) | fail "k_enter: no rule for these arguments"); (case zzkB => exact rfl); (case zzkD => decide +kernel); (case zzc2 => exact rfl); (case zzc3 => exact rfl); (case zzc4 => exact rfl); k_whole; intro zzg' zzL' zzh' zztk' zzcells' zzFG' zzF' zzN' zzY' zzB' zzX' zzT' zzl1; (try k_lt zzl1); k_cells zzY'; (try simp only [List.cons_append, List.nil_append] at zzN'); (try dsimp only); (try k_lift zzB'); (try k_fold)))
  k_with "mine open" => ((refine wpAny_call ?_; k_dflt (first | k_enter | kc_enter)))
  k_with "mine open R" => (case zzfresh => (refine wpAny_call ?_; k_dflt (refine' code_defR ?zzk1 ?zzk2 ?zzk3 ?zzk4 ?zzkD ?zzk5 ?zzkA ?zzkF ?zzkK ?zzk6 ?zzk7 ?zzk8 ?zzk9 ?zzkB ?_ ?zzc2 ?zzc3 ?zzc4 ?zzc5; (case zzkA => exact rfl); (case zzkF => exact rfl); (case zzkK => first | exact rfl | assumption); (case zzk1 => k_asm); (case zzk2 => k_asm); (case zzk3 => k_asm); (case zzk4 => with_reducible assumption); (case zzkD => with_reducible assumption); (case zzk5 => k_asm); (case zzk6 => k_is); (case zzk7 => k_is); (case zzk8 => k_room); (case zzk9 => first | exact BindsTo.of_eq rfl | exact binds_K (by k_in) rfl (by k_is) rfl rfl rfl | (refine kp_binds (by k_in) ?_; exact fun _ => rfl) | fail "k_enter: no rule for these arguments"); (case zzc5 => decide); (case zzkB => exact locs rfl); (case zzc2 => exact rfl); (case zzc3 => exact rfl); (case zzc4 => exact rfl)); k_whole; intro zzg' zzL' zzh' zzFG' zzF' zzN' zzB' zzX' zzT' zzS'; (try dsimp only); (try k_lift zzB'); (try k_fold)))
  k_with "mine open CR" => (case zzfresh => (refine wpAny_call ?_; k_dflt (refine' code_defCR ?zzk1 ?zzk2 ?zzk3 ?zzk4 ?zzkR ?zzk5 ?zzkA ?zzkF ?zzkK ?zzk6 ?zzk7 ?zzk8 ?zzk9 ?zzkB ?zzkD ?_ ?zzc2 ?zzc3 ?zzc4; (case zzkA => exact rfl); (case zzkF => exact rfl); (case zzkK => first | exact rfl | assumption); (case zzk1 => k_asm); (case zzk2 => k_asm); (case zzk3 => k_asm); (case zzk4 => with_reducible assumption); (case zzkR => with_reducible assumption); (case zzk5 => k_asm); (case zzk6 => k_is); (case zzk7 => k_is); (case zzk8 => k_room); (case zzk9 => first | exact BindsTo.of_eq rfl | exact binds_K (by k_in) rfl (by k_is) rfl rfl rfl | (refine kp_binds (by k_in) ?_; exact fun _ => rfl) | fail "k_enter: no rule for these arguments"); (case zzkB => exact rfl); (case zzkD => decide +kernel); (case zzc2 => exact rfl); (case zzc3 => exact rfl); (case zzc4 => exact rfl)); k_whole; intro zzg' zzL' zzh' zztk' zzcells' zzFG' zzF' zzN' zzY' zzB' zzX' zzT' zzl1 zzS'; (try k_lt zzl1); k_cells zzY'; (try simp only [List.cons_append, List.nil_append] at zzN'); (try dsimp only); (try k_lift zzB'); (try k_fold)))
  k_with "mine open CR0" => (case zzfresh => (refine wpAny_call ?_; k_dflt (refine' code_defCR (own := []) ?zzk1 ?zzk2 ?zzk3 ?zzk4 ?zzkR ?zzk5 ?zzkA ?zzkF ?zzkK ?zzk6 ?zzk7 ?zzk8 ?zzk9 ?zzkB ?zzkD ?_ ?zzc2 ?zzc3 ?zzc4; (case zzkA => exact rfl); (case zzkF => exact rfl); (case zzkK => first | exact rfl | assumption); (case zzk1 => k_asm); (case zzk2 => k_asm); (case zzk3 => k_asm); (case zzk4 => k_asm); (case zzkR => exact Apart.zero); (case zzk5 => k_asm); (case zzk6 => k_is); (case zzk7 => k_is); (case zzk8 => k_room); (case zzk9 => first | exact BindsTo.of_eq rfl | exact binds_K (by k_in) rfl (by k_is) rfl rfl rfl | (refine kp_binds (by k_in) ?_; exact fun _ => rfl) | fail "k_enter: no rule for these arguments"); (case zzkB => exact rfl); (case zzkD => decide +kernel); (case zzc2 => exact rfl); (case zzc3 => exact rfl); (case zzc4 => exact rfl)); k_whole; intro zzg' zzL' zzh' zztk' zzcells' zzFG' zzF' zzN' zzY' zzB' zzX' zzT' zzl1 zzS'; clear zzl1; k_cells zzY'; (try simp only [List.cons_append, List.nil_append, List.append_nil] at zzN'); (try dsimp only); (try k_lift zzB'); (try k_fold)))
  k_with "mine open R0" => (case zzfresh => (refine wpAny_call ?_; k_dflt (refine' code_defR (own := []) ?zzk1 ?zzk2 ?zzk3 ?zzk4 ?zzkD ?zzk5 ?zzkA ?zzkF ?zzkK ?zzk6 ?zzk7 ?zzk8 ?zzk9 ?zzkB ?_ ?zzc2 ?zzc3 ?zzc4 ?zzc5; (case zzkA => exact rfl); (case zzkF => exact rfl); (case zzkK => first | exact rfl | assumption); (case zzk1 => k_asm); (case zzk2 => k_asm); (case zzk3 => k_asm); (case zzk4 => k_asm); (case zzkD => exact Apart.zero); (case zzk5 => k_asm); (case zzk6 => k_is); (case zzk7 => k_is); (case zzk8 => k_room); (case zzk9 => first | exact BindsTo.of_eq rfl | exact binds_K (by k_in) rfl (by k_is) rfl rfl rfl | (refine kp_binds (by k_in) ?_; exact fun _ => rfl) | fail "k_enter: no rule for these arguments"); (case zzc5 => decide); (case zzkB => exact locs rfl); (case zzc2 => exact rfl); (case zzc3 => exact rfl); (case zzc4 => exact rfl)); k_whole; intro zzg' zzL' zzh' zzFG' zzF' zzN' zzB' zzX' zzT' zzS'; (try dsimp only); (try k_lift zzB'); (try k_fold)))
  k_with "exec Assign cons ListComp" => ((k_here; (with_reducible show wpAny _ _ (exec (Stmt.Assign [Expr.Name _ _] (Expr.ListComp _ [Comprehension.mk (Expr.Name _ _) _ [] _] _ _) _) _) _ _ _); k_dflt (refine assign_M (F₀ := by k_asm) (by rfl) (by with_unfolding_all rfl) (by with_unfolding_all rfl) (by decide) (by rfl) (by decide) (by rfl) (by rfl) (by rfl) ?_)))
  k_with "exec Assign cons ListComp" => ((k_here; (with_reducible show wpAny _ _ (exec (Stmt.Assign [Expr.Name _ _] (Expr.ListComp _ [Comprehension.mk (Expr.Name _ _) _ [_] _] _ _) _) _) _ _ _); k_dflt (refine assign_MT (F₀ := by k_asm) (by rfl) (by with_unfolding_all rfl) (by with_unfolding_all rfl) (by decide) (by rfl) (by decide) (by rfl) (by rfl) (by rfl) ?_)))
  k_with "eval ListComp" => ((k_here; (with_reducible show wpAny _ _ (eval (Expr.ListComp _ [Comprehension.mk (Expr.Name _ _) _ [] _] _ _) _) _ _ _); k_dflt (refine comp_M (F₀ := by k_asm) (by with_unfolding_all rfl) (by decide) (by rfl) (by decide) (by rfl) ?_)))
  k_with "eval ListComp" => ((k_here; (with_reducible show wpAny _ _ (eval (Expr.ListComp _ [Comprehension.mk (Expr.Name _ _) _ [_] _] _ _) _) _ _ _); k_dflt (refine comp_MT (F₀ := by k_asm) (by with_unfolding_all rfl) (by decide) (by rfl) (by decide) (by rfl) ?_)))
  trivial
open PySem.Calls Gen Builtin.Int
theorem bits_item {ns : List Int} (h : PyData.layable0 (.list (ns.map .int)) = true) : ∀ x ∈ ns, intBits x ≤ 1048576 := fun x hx => PyData.bits_item_of_ints h hx
section
variable {prog : Program} {w : World} {A : Around} {E : Value → Shared → Prop} {s : Shared} {h₀ : Heap} {L : Addr} {m : Str → Option Value} {news : List (Addr × Obj)} {a b c : Int} {t u : Tok} {Q : Value → Shared → Prop}
theorem store_is {env : Env} {y : Str} {n k : Int} {Q : Unit → Shared → Prop} (e : n = k) (h : wpAny (model prog w) A (storeName env y (.int k t)) Q E s) : wpAny (model prog w) A (storeName env y (.int n t)) Q E s := e ▸ h
theorem item2_is {value slice : Expr} {l : Addr} {x y k z : Int} {t1 t2 u : Tok} (hl : s.heap.IsList l #[.int x t1, .int y t2]) (h0 : 0 ≤ k) (h1 : k < 2) (e : (if k = 0 then x else y) = z)
    (h : ∀ v, Q (.int z v) s)
    (hs : subscripted slice false (.ref l) (.int k u) = operate [.ref l, .int k u] (getItem (.ref l) (.int k u)) := by with_unfolding_all rfl) (hg : ∀ r, letTemporaryGo value (.ref l) r = pure () := by intro _; with_unfolding_all rfl) :
    wpAny (model prog w) A (subscriptTail value slice (.ref l) (.int k u)) Q E s :=
  item2 hl h0 h1 (fun z' v e' => by rw [e'.trans e]; exact h v) hs hg
theorem fdiv_is (hb : 0 < b) (hb' : b.natAbs.log2 < 9000) (e : a / b = c) (h : Q (.int c s.toks) { s with toks := s.toks + 1 }) : wpAny (model prog w) A (binaryOp .FloorDiv (.int a t) (.int b u)) Q E s :=
  fdiv_e hb (PyProof.noPylong_of_log2 hb') (by rw [e]; exact h)
theorem sum7 {l : Addr} {vs : List Value} {ms : List Int} {z : Int} (F : Fr h₀ L s.heap m) (N : News h₀ L s.heap news) (hh : A.handled = none) (hm : (l, PySem.W.listOf vs.toArray 0) ∈ news) (hi : IntsAre vs ms) (hz : z.natAbs < 2 ^ 40) (hb : intBits ms.sum ≤ 1050000)
    (h : ∀ c h' tk t', Fr h₀ L h' m → News h₀ L h' news → intBits (z + c) ≤ 1060000 → Q (.int c t') { s with heap := h', toks := tk }) : wpAny (model prog w) A (call (.builtin "sum") [.ref l]) Q E s :=
  LSm.sum_ints F N hh ⟨_, (N _ hm).1, rfl, _, rfl⟩ hi fun h' tk t' F' N' => h _ h' tk t' F' N' (add_bits hz hb)
end
/-- a fact of numbers that lia shall not see -/
structure Hid (p : Prop) : Prop where
  out : p
theorem lines70 : True := by
  k_with "binaryOp Mod int int" => (refine stop_here ?_)
  k_with "binaryOp Pow int int" => (refine stop_here ?_)
  k_with "binaryOp Mult int int" => (refine stop_here ?_)
  k_with "binaryOp FloorDiv int int" => (refine stop_here ?_)
  k_with "subscriptTail Name Slice ref ref" => (case zzfresh => (k_here; k_dflt (refine slice3 (by k_asm) (by k_asm) (by is_list) (by with_reducible assumption) (.int _ _) .none (.int _ _) (by decide) (by with_reducible assumption) (by with_reducible assumption) ?_ (by with_unfolding_all rfl) (by intro _; with_unfolding_all rfl)); intro zzD' zzws' zzms' zzh' zzF' zzN' zzl1 zzi1 zzi2))
  k_with "call builtin:sum" => (case zzfresh => (k_here; k_dflt (refine sum7 (by k_asm) (by k_asm) rfl (by k_mem) (by with_reducible assumption) (by with_reducible assumption) (by with_reducible assumption) ?_); intro zzc' zzh' zztk' zzt' zzF' zzN' zzb'))
  k_with "storeName" => ((k_here; (with_reducible show wpAny _ _ (storeName _ _ (Value.int _ _)) _ _ _); k_dflt (refine store_is (by with_reducible (refine Hid.out ?_; assumption)) ?_)))
  k_with "subscriptTail" => ((k_here; (with_reducible show wpAny _ _ (subscriptTail _ _ (Value.ref _) (Value.int _ _)) _ _ _); k_dflt (refine item2_is (by is_list) (by with_reducible (refine Hid.out ?_; assumption)) (by with_reducible (refine Hid.out ?_; assumption)) (by with_reducible (refine Hid.out ?_; assumption)) ?_); intro _))
  k_with "binaryOp Mod int int" => ((k_here; k_dflt (refine mod_is (by first | with_reducible (refine Hid.out ?_; assumption) | decide) (by with_reducible (refine Hid.out ?_; assumption)) ?_)))
  k_with "binaryOp FloorDiv int int" => ((k_here; k_dflt (refine fdiv_is (by first | with_reducible (refine Hid.out ?_; assumption) | decide) (by decide) (by with_reducible (refine Hid.out ?_; assumption)) ?_)))
  k_with "binaryOp Mult int int" => ((k_here; k_dflt (refine mul_int ?_ (by with_reducible (refine Hid.out ?_; assumption)))))
  k_with "binaryOp Pow int int" => ((k_here; k_dflt (refine pow_is (by first | with_reducible (refine Hid.out ?_; assumption) | decide) (by first | with_reducible (refine Hid.out ?_; assumption) | decide) (by decide) (by with_reducible (refine Hid.out ?_; assumption)) ?_)))
  k_with "subscriptTail Name Constant ref int" => ((k_here; (with_reducible show wpAny _ _ (subscriptTail _ _ (Value.ref _) (Value.int _ _)) _ _ _); k_dflt (refine item_listL (News.isList (by k_asm) (by k_mem)) (by decide) (by decide) (by rfl) ?_)))
  k_with "subscriptTail Name Name ref int" => ((k_here; (with_reducible show wpAny _ _ (subscriptTail _ _ (Value.ref _) (Value.int _ _)) _ _ _); k_dflt (refine item_listL (News.isList (by k_asm) (by k_mem)) (by decide) (by decide) (by rfl) ?_)))
  k_with "call builtin:bytes.decode" => ((k_here; k_dflt (refine Dec.decode (dg_ok _) ?_); intro _ _))
  k_with "call ref" => (case zzfresh => (k_here; (with_reducible show wpAny _ _ (call (Value.ref 66) _) _ _ _); k_dflt (refine' ConF.useE (Ap.int2ap (by with_reducible assumption) (by with_reducible assumption)) ?zzB ?zzF ?zzX ?zzN ?zzT ?zzhk ?zzhh ?zzhd ?zzhf ?zzhg ?zzhu ?_; (case zzhf => exact rfl); (case zzhk => exact rfl); (case zzhh => exact rfl); (case zzhg => exact rfl); (case zzF => k_asm); (case zzN => k_asm); (case zzB => k_asm); (case zzX => k_in); (case zzT => k_asm); (case zzhd => exact Nat.le_of_ble_eq_true rfl); (case zzhu => exact Nat.le_of_ble_eq_true rfl)); intro zzv' zzh' zztk' zzhpost' zzF' zzN'; k_dflt (obtain ⟨zzu1', zze1'⟩ := zzhpost'); subst zze1'))
  k_with "call ref" => (case zzfresh => (k_here; (with_reducible show wpAny _ _ (call (Value.ref 216) _) _ _ _); k_dflt (refine' ConF.useE (Wr.wr (dg_ok _)) ?zzB ?zzF ?zzX ?zzN ?zzT ?zzhk ?zzhh ?zzhd ?zzhf ?zzhg ?zzhu ?_; (case zzhf => exact rfl); (case zzhk => exact rfl); (case zzhh => exact rfl); (case zzhg => exact rfl); (case zzF => k_asm); (case zzN => k_asm); (case zzB => k_asm); (case zzX => k_in); (case zzT => k_asm); (case zzhd => exact Nat.le_of_ble_eq_true rfl); (case zzhu => exact Nat.le_of_ble_eq_true rfl)); intro zzv' zzh' zztk' zzhpost' zzF' zzN'; k_dflt (obtain ⟨zzu1', zze1'⟩ := zzhpost'); subst zze1'))
  trivial
theorem nums (c0 c1 c2 c3 c4 c5 c6 : Int) (b3 : intBits c3 ≤ 1060000) (b4 : intBits c4 ≤ 1060000) (b5 : intBits c5 ≤ 1060000) (b6 : intBits c6 ≤ 1060000)
    {G : Prop} (k : ∀ a0 q0 r0 e base a1 step q6 r6 unit pw gr p5 p7 far0 below f0 f1 f2 f3 : Int, Hid (c0 % 300 = a0) →
      Hid (c0 / 300 = q0) →
      Hid (q0 % 2 = r0) →
      Hid (0 ≤ r0) →
      Hid (r0 < 2) →
      Hid ([(1 : Int), -1].getD r0.toNat 0 = e) →
      Hid (6 * (a0 + 1) + [(1 : Int), -1].getD r0.toNat 0 = base) →
      Hid (0 < base - 1) →
      Hid (c1 % (base - 1) = a1) →
      Hid (a1 + 1 = step) →
      Hid (c0 / 600 = q6) →
      Hid (q6 % 300 = r6) →
      Hid (0 ≤ 2600 + r6) →
      Hid (2600 + r6 ≤ 1000000) →
      Hid ((3 : Int) ^ (2600 + r6).toNat = unit) →
      Hid (IntMulOk base unit) →
      Hid (0 ≤ ((intBits (base * unit) : Nat) : Int)) →
      Hid (((intBits (base * unit) : Nat) : Int) ≤ 1000000) →
      Hid ((2 : Int) ^ ((intBits (base * unit) : Nat) : Int).toNat = pw) →
      Hid (pw - 2 = gr) →
      Hid ((5 : Int) ^ (1950 : Int).toNat = p5) →
      Hid (IntMulOk c6 p5) →
      Hid (0 < gr + 1) →
      Hid (c6 * p5 % (gr + 1) = far0) →
      Hid ((7 : Int) ^ (1400 : Int).toNat = p7) →
      Hid (IntMulOk c6 p7) →
      Hid (0 < unit) →
      Hid (c6 * p7 % unit = below) →
      Hid (0 < base) →
      Hid (c2 % base = f0) →
      Hid (IntMulOk c3 step) →
      Hid ((c2 + c3 * step) % base = f1) →
      Hid (IntMulOk c4 step) →
      Hid ((c2 + c4 * step) % base = f2) →
      Hid (IntMulOk c5 step) →
      Hid ((c2 + c5 * step) % base = f3) →
      Hid (IntMulOk 6 (a0 + 1)) →
      (Pl.Cfg base step) →
      (far0 ≤ gr) →
      (0 ≤ far0) →
      (∃ x : Nat, unit = 3 ^ x ∧ 2600 ≤ x ∧ x ≤ 2899) →
      (0 ≤ below) →
      (below < unit) →
      (0 ≤ gr) →
      (2 ^ (intBits (base * unit)) - 2 = gr) → G) : G := by
  revert k
  have r0b : 0 ≤ c0 / 300 % 2 ∧ c0 / 300 % 2 < 2 := by lia
  have eb : [(1 : Int), -1].getD (c0 / 300 % 2).toNat 0 = 1 ∨ [(1 : Int), -1].getD (c0 / 300 % 2).toNat 0 = -1 := by
    rcases (show c0 / 300 % 2 = 0 ∨ c0 / 300 % 2 = 1 by lia) with h | h <;> rw [h]
    · exact .inl rfl
    · exact .inr rfl
  obtain ⟨e, he⟩ : ∃ e, [(1 : Int), -1].getD (c0 / 300 % 2).toNat 0 = e := ⟨_, rfl⟩
  rw [he] at eb
  have hb := base_facts (a := c0 % 300) (e := e) (by lia) (by lia) eb
  obtain ⟨base, hbase⟩ : ∃ b, 6 * (c0 % 300 + 1) + e = b := ⟨_, rfl⟩
  rw [hbase] at hb
  obtain ⟨hb5, hb1, hbo, hb3⟩ := hb
  have a10 := Int.emod_nonneg c1 (show base - 1 ≠ 0 by lia)
  have a11 := Int.emod_lt_of_pos c1 (show 0 < base - 1 by lia)
  have r6b : 0 ≤ c0 / 600 % 300 ∧ c0 / 600 % 300 < 300 := by lia
  obtain ⟨x, hx⟩ : ∃ x : Nat, (2600 + c0 / 600 % 300).toNat = x := ⟨_, rfl⟩
  have u0 : (0 : Int) < 3 ^ x := pow_pos_of (by decide) x
  have hxl : x ≤ 2899 := by lia
  have hxg : 2600 ≤ x := by lia
  have u1 := Nx.pow3_lt x hxl
  obtain ⟨unit, hu⟩ : ∃ u : Int, 3 ^ x = u := ⟨_, rfl⟩
  rw [hu] at u0 u1
  have hB0 : 0 < base * unit := Int.mul_pos (by lia) u0
  have hBu : base * unit < 2 ^ 4612 := by
    have h1 : base * unit ≤ 1801 * unit := Int.mul_le_mul_of_nonneg_right hb1 (by lia)
    have h2 : (2 : Int) ^ 4612 = 4096 * 2 ^ 4600 := by rw [show 4612 = 12 + 4600 from rfl, Div.p2_add]; rfl
    lia
  have hBn : intBits (base * unit) ≤ 4612 := Div.bits_le (by lia) hBu
  obtain ⟨k1, k2, k3⟩ := Nx.bits_eq hB0 _ rfl
  have bb : intBits base ≤ 11 := Div.bits_le (by lia) (by have : (2 : Int) ^ 11 = 2048 := rfl; lia)
  have bu : intBits unit ≤ 4600 := Div.bits_le (by lia) u1
  obtain ⟨pw, hpw⟩ : ∃ p : Int, 2 ^ (intBits (base * unit)) = p := ⟨_, rfl⟩
  have hpw5 : 5 ≤ pw := by
    have : (5 : Int) * 1 ≤ base * unit := Int.mul_le_mul hb5 (by lia) (by lia) (by lia)
    rw [hpw] at k2; lia
  obtain ⟨p5, hp5⟩ : ∃ p : Int, (5 : Int) ^ (1950 : Int).toNat = p := ⟨_, rfl⟩
  obtain ⟨p7, hp7⟩ : ∃ p : Int, (7 : Int) ^ (1400 : Int).toNat = p := ⟨_, rfl⟩
  have i5 : intBits p5 ≤ 15001 := by
    rw [← hp5]
    have h3 : intBits (5 : Int) ≤ 3 := intBits_le_iff.mpr (by decide)
    exact Nat.le_trans (intBits_pow_le h3 _) (by decide)
  have i7 : intBits p7 ≤ 15001 := by
    rw [← hp7]
    have h3 : intBits (7 : Int) ≤ 3 := intBits_le_iff.mpr (by decide)
    exact Nat.le_trans (intBits_pow_le h3 _) (by decide)
  have bs : intBits (c1 % (base - 1) + 1) ≤ 11 := Div.bits_le (by lia) (by have : (2 : Int) ^ 11 = 2048 := rfl; lia)
  have fr0 := Int.emod_nonneg (c6 * p5) (show pw - 2 + 1 ≠ 0 by lia)
  have fr1 := Int.emod_lt_of_pos (c6 * p5) (show 0 < pw - 2 + 1 by lia)
  have bw0 := Int.emod_nonneg (c6 * p7) (show unit ≠ 0 by lia)
  have bw1 := Int.emod_lt_of_pos (c6 * p7) u0
  exact fun k => k (c0 % 300) (c0 / 300) (c0 / 300 % 2) e base (c1 % (base - 1)) (c1 % (base - 1) + 1) (c0 / 600) (c0 / 600 % 300) unit pw (pw - 2) p5 p7 (c6 * p5 % (pw - 2 + 1)) (c6 * p7 % unit) (c2 % base) ((c2 + c3 * (c1 % (base - 1) + 1)) % base) ((c2 + c4 * (c1 % (base - 1) + 1)) % base) ((c2 + c5 * (c1 % (base - 1) + 1)) % base) ⟨rfl⟩ ⟨rfl⟩ ⟨rfl⟩ ⟨r0b.1⟩ ⟨r0b.2⟩ ⟨he⟩ ⟨by rw [he]; exact hbase⟩ ⟨by clear k; lia⟩ ⟨rfl⟩ ⟨rfl⟩ ⟨rfl⟩ ⟨rfl⟩ ⟨by clear k; lia⟩ ⟨by clear k; lia⟩ ⟨by rw [hx]; exact hu⟩ ⟨IntMulOk.of_le bb bu (by decide)⟩ ⟨by clear k; lia⟩ ⟨by clear k; lia⟩ ⟨by rw [Int.toNat_natCast]; exact hpw⟩ ⟨rfl⟩ ⟨hp5⟩ ⟨IntMulOk.of_le b6 i5 (by decide)⟩ ⟨by clear k; lia⟩ ⟨rfl⟩ ⟨hp7⟩ ⟨IntMulOk.of_le b6 i7 (by decide)⟩ ⟨u0⟩ ⟨rfl⟩ ⟨by clear k; lia⟩ ⟨rfl⟩ ⟨IntMulOk.of_le b3 bs (by decide)⟩ ⟨rfl⟩ ⟨IntMulOk.of_le b4 bs (by decide)⟩ ⟨rfl⟩ ⟨IntMulOk.of_le b5 bs (by decide)⟩ ⟨rfl⟩ ⟨IntMulOk.of_le (show intBits 6 ≤ 3 by decide) (Div.bits_le (k := 12) (by clear k; lia) (by have : (2 : Int) ^ 12 = 4096 := rfl; lia)) (by decide)⟩ ⟨hb5, hb1, hbo, hb3, by clear k; lia, by clear k; lia⟩ (by clear k; lia) fr0 ⟨x, hu.symm, hxg, hxl⟩ bw0 bw1 (by clear k; lia) (by rw [hpw])

theorem three {f : Nat → Int} {ys : List Value} (h : AreAll (fun j y => ∃ u, y = .int (f j) u) (List.range 3) ys) : ∃ u0 u1 u2, ys = [Value.int (f 0) u0, .int (f 1) u1, .int (f 2) u2] := by
  obtain ⟨us, h1, h2⟩ := toks_by h
  obtain ⟨p0, r0, e0, h1⟩ := uncons h1
  obtain ⟨p1, r1, e1, h1⟩ := uncons h1
  obtain ⟨p2, r2, e2, h1⟩ := uncons h1
  cases List.eq_nil_of_length_eq_zero h1
  rw [e0, e1, e2] at h2
  exact ⟨p0, p1, p2, h2⟩
theorem three_k {f : Nat → Int} {ys : List Value} {G : Prop} (h : AreAll (fun j y => ∃ u, y = .int (f j) u) (List.range 3) ys) (k : ∀ u0 u1 u2, ys = [Value.int (f 0) u0, .int (f 1) u1, .int (f 2) u2] → G) : G := by
  obtain ⟨u0, u1, u2, e⟩ := three h
  exact k _ _ _ e
theorem seven_small0 : ∀ i : Fin 7, ([2, 0, 17, 2, 1, 0, 1000000007].getD (0 + ((i.val : Nat) : Int)).toNat 0 : Int).natAbs < 2 ^ 40 := by decide
theorem seven_small (i : Nat) (h : i < 7) : ([2, 0, 17, 2, 1, 0, 1000000007].getD (0 + (i : Int)).toNat 0 : Int).natAbs < 2 ^ 40 := seven_small0 ⟨i, h⟩
theorem lines71 : True := by
  k_with "mine cj" => (first | with_reducible assumption | exact (And.left (by with_reducible assumption)) | exact (And.left (And.right (by with_reducible assumption))) | exact (And.right (by with_reducible assumption)) | exact (And.left (And.right (And.right (by with_reducible assumption)))) | exact (And.right (And.right (by with_reducible assumption))) | exact (And.left (And.right (And.right (And.right (by with_reducible assumption))))) | exact (And.right (And.right (And.right (by with_reducible assumption)))) | exact (And.left (And.right (And.right (And.right (And.right (by with_reducible assumption)))))) | exact (And.right (And.right (And.right (And.right (by with_reducible assumption))))) | exact (And.left (And.right (And.right (And.right (And.right (And.right (by with_reducible assumption))))))) | exact (And.right (And.right (And.right (And.right (And.right (by with_reducible assumption)))))) | exact (And.left (And.right (And.right (And.right (And.right (And.right (And.right (by with_reducible assumption)))))))) | exact (And.right (And.right (And.right (And.right (And.right (And.right (by with_reducible assumption))))))) | exact (And.left (And.right (And.right (And.right (And.right (And.right (And.right (And.right (by with_reducible assumption))))))))) | exact (And.right (And.right (And.right (And.right (And.right (And.right (And.right (by with_reducible assumption)))))))) | exact (And.left (And.right (And.right (And.right (And.right (And.right (And.right (And.right (And.right (by with_reducible assumption)))))))))) | exact (And.right (And.right (And.right (And.right (And.right (And.right (And.right (And.right (by with_reducible assumption))))))))) | exact (And.left (And.right (And.right (And.right (And.right (And.right (And.right (And.right (And.right (And.right (by with_reducible assumption))))))))))) | exact (And.right (And.right (And.right (And.right (And.right (And.right (And.right (And.right (And.right (by with_reducible assumption)))))))))) | exact (And.left (And.right (And.right (And.right (And.right (And.right (And.right (And.right (And.right (And.right (And.right (by with_reducible assumption)))))))))))) | exact (And.right (And.right (And.right (And.right (And.right (And.right (And.right (And.right (And.right (And.right (by with_reducible assumption))))))))))) | exact (And.left (And.right (And.right (And.right (And.right (And.right (And.right (And.right (And.right (And.right (And.right (And.right (by with_reducible assumption))))))))))))) | exact (And.right (And.right (And.right (And.right (And.right (And.right (And.right (And.right (And.right (And.right (And.right (by with_reducible assumption)))))))))))) | exact (And.left (And.right (And.right (And.right (And.right (And.right (And.right (And.right (And.right (And.right (And.right (And.right (And.right (by with_reducible assumption)))))))))))))) | exact (And.right (And.right (And.right (And.right (And.right (And.right (And.right (And.right (And.right (And.right (And.right (And.right (by with_reducible assumption))))))))))))) | exact (And.left (And.right (And.right (And.right (And.right (And.right (And.right (And.right (And.right (And.right (And.right (And.right (And.right (And.right (by with_reducible assumption))))))))))))))) | exact (And.right (And.right (And.right (And.right (And.right (And.right (And.right (And.right (And.right (And.right (And.right (And.right (And.right (by with_reducible assumption)))))))))))))))
  k_with "k_ne" => ((refine neN ?_; (try dsimp only); first | (refine Nat.ne_of_lt ?_; walk_at "mine cj") | (refine Nat.ne_of_gt ?_; walk_at "mine cj") | walk_at "mine cj" | (refine Ne.symm ?_; walk_at "mine cj") | omega))
  k_with "execs cons" => (((try dsimp only); refine toks_any ?_; intro _))
  k_with "execs cons" => ((k_here; (with_reducible show wpAny _ _ (execs (Stmt.Assign [Expr.Name (Str.ofString "given") _] _ _ :: _) _) _ _ _); refine stop_here ?_))
  trivial
set_option maxRecDepth 100000 in
set_option maxHeartbeats 8000000 in
theorem walk {w : World} {h₀ : Heap} {L fa : Addr} {cd : Value} {p : Program} {loose : List Str} {mean : ExcName → Option Value} {mg mb : Str → Option Value} {sc : Scope} {h : Heap} {sg sd so} {tk : Nat}
    {Q : Flow → Shared → Prop} {E : Value → Shared → Prop} {b0 b1 b2 b3 b4 b5 b6 b7 b8 b9 b10 b11 b12 b13 b14 b15 b16 : Stmt} (hat : lawAt w.params = some ([b0, b1, b2, b3, b4, b5, b6, b7, b8, b9, b10, b11, b12, b13, b14, b15, b16], sc))
    (X : (Mine.hd.heap_39 w.params).In h₀) (B' : Below callerA h₀ [] h₀) (TT : Top p loose mean mg mb h₀)
    {Sc : Addr} {vs : List Value} {ns : List Int} {o1 o2 o3 o4 o5 o6 o7 : Obj}
    (F : Fr h₀ L h (fun _ => none)) (N : News h₀ L h [(L + 1 + 1 + 1 + 1 + 1 + 1 + 1, o7), (L + 1 + 1 + 1 + 1 + 1 + 1, o6), (L + 1 + 1 + 1 + 1 + 1, o5), (L + 1 + 1 + 1 + 1, o4), (L + 1 + 1 + 1, o3), (L + 1 + 1, o2), (L + 1, o1), (54, tabObj #[])])
    (d1 : o1.data = .cell (some (.ref Sc))) (d2 : o2.data = .cell none) (d3 : o3.data = .cell none) (d4 : o4.data = .cell none) (d5 : o5.data = .cell none) (d6 : o6.data = .cell none) (d7 : o7.data = .cell none)
    (hL : h₀.IsList Sc vs.toArray) (hInt : IntsAre vs ns) (hLay : PyData.layable0 (.list (ns.map .int)) = true) (hLen : vs.length ≤ 1000) (l0 : @LT.lt Nat _ 54 L)
    (hE : PassesOwn (model PySem.Challenge.rw_wy0034_01.row.prog w) (callerA.deeper (envOfC (Str.ofString "law") sc L fa cd)) (envOfC (Str.ofString "law") sc L fa cd) E)
    (k : ∀ h' tk' m' tabs, Dig.Tab tabs → Fr h₀ L h' m' → News h₀ L h' tabs → Q (.ret (.bool true)) ⟨h', sg, sd, tk', so⟩) :
    wpAny (model PySem.Challenge.rw_wy0034_01.row.prog w) (callerA.deeper (envOfC (Str.ofString "law") sc L fa cd)) (execs [b0, b1, b2, b3, b4, b5, b6, b7, b8, b9, b10, b11, b12, b13, b14, b15, b16] (envOfC (Str.ofString "law") sc L fa cd)) Q E ⟨h, sg, sd, tk, so⟩ := by
  have e : lawAt w.params = some ([_, _, _, _, _, _, _, _, _, _, _, _, _, _, _, _, _], _) := rfl
  cases hat.symm.trans e
  clear hat e
  have hBits := bits_item hLay
  clear hLay
  revert X
  k_fill
  intro X
  k_steps
  refine SrcM.range rfl (by k_asm) (by k_asm) (by assumption) (n := 7) (by decide) (by decide) (by rw [sizeLine_eq]; decide) fun g' => ?_
  dsimp only
  refine rest_map (R := fun _ y => ∃ c u, y = .int c u ∧ Builtin.Int.intBits c ≤ 1060000) trivial ?_ ?_
  · intro i ys v I oI C oC D m₂ h tk E' hi hP hC hx F1 N1 off ne
    obtain ⟨u9, rfl⟩ := hP
    have hsm := seven_small i hi
    k_steps
    rename News _ _ _ (_ :: _ :: _ :: _ :: _ :: _) => NN
    exact ⟨_, _, rfl, by assumption, News.sub NN (fun p hp => by first | exact hp | exact .tail _ hp | exact .tail _ (.tail _ hp)), _, _, rfl, by assumption⟩
  · intro ys ha
    refine seven_k ha ?_
    clear ha
    intro c0 c1 c2 c3 c4 c5 c6 u0 u1 u2 u3 u4 u5 u6 e9 b3 b4 b5 b6
    subst e9
    refine nums c0 c1 c2 c3 c4 c5 c6 b3 b4 b5 b6 ?_
    clear b3 b4 b5 b6
    intro a0 q0 r0 e base a1 step q6 r6 unit pw gr p5 p7 far0 below f0 f1 f2 f3 k1 k2 k3 k4 k5 k6 k7 k8 k9 k10 k11 k12 k13 k14 k15 k16 k17 k18 k19 k20 k21 k22 k23 k24 k25 k26 k27 k28 k29 k30 k31 k32 k33 k34 k35 k36 k37 cfg fb f0' ex bl0 bl1 g0 gg
    have n4 := k4.out
    have n5 := k5.out
    (try dsimp only)
    k_steps
    refine SrcM.tup rfl (by k_asm) (by k_asm) (.head _) (Nat.le_of_ble_eq_true rfl) fun g' => ?_
    refine rest_map (R := fun i y => ∃ u, y = .int ([f1, f2, f3].getD i 0) u) ⟨_, .head _, rfl, _, rfl⟩ ?_ ?_
    · intro i ys x I oI C oC D m₂ h tk E' hi hP hC hx F1 N1 off ne
      rcases (show i = 0 ∨ i = 1 ∨ i = 2 by have : i < 3 := hi; lia) with rfl | rfl | rfl <;> lcg_open hP
      all_goals k_steps
      all_goals exact ⟨_, _, rfl, by assumption, by assumption, _, rfl⟩
    · intro ys ha
      refine three_k ha ?_
      clear ha
      intro w1 w2 w3 e9
      subst e9
      (try dsimp only)
      k_steps
      unfold Stop
      rename News _ _ _ (_ :: _ :: _ :: _) => N9
      rename Fr _ _ _ _ => F9
      have r1 : 0 ≤ f1 ∧ f1 < base := by rw [← k32.out]; exact ⟨Int.emod_nonneg _ (Int.ne_of_gt k29.out), Int.emod_lt_of_pos _ k29.out⟩
      have r2 : 0 ≤ f2 ∧ f2 < base := by rw [← k34.out]; exact ⟨Int.emod_nonneg _ (Int.ne_of_gt k29.out), Int.emod_lt_of_pos _ k29.out⟩
      have r3 : 0 ≤ f3 ∧ f3 < base := by rw [← k36.out]; exact ⟨Int.emod_nonneg _ (Int.ne_of_gt k29.out), Int.emod_lt_of_pos _ k29.out⟩
      refine' back (c0 := c0) (c1 := c1) (c2 := c2) (c3 := c3) (c4 := c4) (c5 := c5) (c6 := c6) (f0 := f0) (f1 := f1) (f2 := f2) (f3 := f3) (base := base) (step := step) (unit := unit) (far0 := far0) (gr := gr) (below := below) rfl (by assumption) (by assumption) (by assumption) F9 ⟨_, rfl⟩ ⟨_, rfl⟩ rfl ?N ?dR ?dM ?dF ?dS ?dB ?dC cfg ex bl0 bl1 f0' fb gg.symm k30.out.symm r1 r2 r3 ?hE ?_
      case N =>
        refine News.sub N9 ?_
        refine List.forall_mem_cons.mpr ⟨by k_mem, ?_⟩
        refine List.forall_mem_cons.mpr ⟨by k_mem, ?_⟩
        refine List.forall_mem_cons.mpr ⟨by k_mem, ?_⟩
        refine List.forall_mem_cons.mpr ⟨by k_mem, ?_⟩
        refine List.forall_mem_cons.mpr ⟨by k_mem, ?_⟩
        refine List.forall_mem_cons.mpr ⟨by k_mem, ?_⟩
        refine List.forall_mem_cons.mpr ⟨by k_mem, ?_⟩
        refine List.forall_mem_cons.mpr ⟨by k_mem, ?_⟩
        refine List.forall_mem_cons.mpr ⟨by k_mem, ?_⟩
        refine List.forall_mem_cons.mpr ⟨by k_mem, ?_⟩
        exact List.forall_mem_nil _
      case dR => assumption
      case dM => assumption
      case dF => assumption
      case dS => assumption
      case dB => assumption
      case dC => assumption
      case hE => exact hE
      exact k

set_option maxRecDepth 100000 in
set_option maxHeartbeats 8000000 in
theorem whole : PySem.Challenge.rw_wy0034_01.Holds := Mine.hd (by
  k_go0
  (all_goals try k_fold)
  rename IntsAre _ _ => hInt
  rename PyData.layable0 (.list (List.map PyData.int _)) = true => hLay
  rename ¬ (63 : Int) < _ => hLen
  have hLen1 := hInt.length
  have hLen2 : (_ : List Value).length ≤ 1000 := Nat.le_trans (Nat.le_of_eq hLen1) (by omega)
  rename Fr _ _ _ _ => F9
  rename News _ _ _ _ => N9
  refine' walk rfl ?X (by assumption) (by assumption) F9 N9 (by assumption) (by assumption) (by assumption) (by assumption) (by assumption) (by assumption) (by assumption) (by assumption) hInt hLay hLen2 (by assumption) ?hE ?_
  case X => k_in
  case hE => first | passes_own | with_unfolding_all passes_own
  intro h' tk' m' tabs T9 F' N'
  cases T9 with
  | empty =>
    refine ⟨?_, ⟨GrownAt.of N' (.head _), trivial⟩⟩
    k_steps
  | full d1 d2 he =>
    refine ⟨?_, ⟨GrownAt.of N' (.head _), trivial⟩⟩
    k_steps
)

end Mine.Lw
end
theorem PySem.Challenge.cw_wy0034_01_holds : PySem.Challenge.rw_wy0034_01.Holds :=
  Mine.Lw.whole
