import PyProof.Rows.All
import Wide.All
import OpenK.AllK
import Wide.FinOn
import PySem.Challenge.RW_ak5001_01
open PySem PySem.W PyProof.Rows
set_option Elab.async false
set_option maxRecDepth 100000
set_option maxHeartbeats 8000000

-- HeadA
namespace Mine
open_top hd for PySem.Challenge.rw_ak5001_01
end Mine

-- FloA
namespace Mine
open PySem.Float64

theorem exact_mag {r : UInt64} {neg : Bool} {n : Nat} (hn : 0 < n) (hb : n ≤ 2 ^ 52) (h : Right r neg (n * 2 ^ 1073) 1) : ∃ m e, decode r = .fin neg m e ∧ val r = sgn neg (n * 2 ^ 1073) := by
  obtain ⟨t, hr, _, hov, hnear⟩ := h
  have h2 : n < 2 ^ 53 := by omega
  have hl1 : 2 ^ n.log2 ≤ n := Nat.log2_self_le (by omega)
  have hl2 : n < 2 ^ (n.log2 + 1) := Nat.lt_log2_self
  have hlog : n.log2 ≤ 52 := by
    have : n.log2 < 53 := (Nat.log2_lt (by omega)).mpr h2
    omega
  have hq1 : 2 ^ 52 ≤ n * 2 ^ (52 - n.log2) := by
    have := Nat.mul_le_mul_right (2 ^ (52 - n.log2)) hl1
    rw [← Nat.pow_add] at this
    rwa [show n.log2 + (52 - n.log2) = 52 by omega] at this
  have hq2 : n * 2 ^ (52 - n.log2) < 2 ^ 53 := by
    have := Nat.mul_lt_mul_of_pos_right hl2 (Nat.two_pow_pos (52 - n.log2))
    rw [← Nat.pow_add] at this
    rwa [show n.log2 + 1 + (52 - n.log2) = 53 by omega] at this
  have hV : V ((1021 + n.log2) * 2 ^ 52 + n * 2 ^ (52 - n.log2)) = n * 2 ^ 1073 := by
    rw [V_at (by omega) (.inl hq1), Nat.mul_assoc, ← Nat.pow_add]
    congr 2
    omega
  have hlt : t < infMag := by
    by_cases h9 : t = infMag
    · have h8 := hov.mp h9
      exfalso
      have h7 : 2 * (n * 2 ^ 1073) ≤ 2 * (2 ^ 52 * 2 ^ 1073) := Nat.mul_le_mul_left 2 (Nat.mul_le_mul_right _ hb)
      have h6 : 2 * (2 ^ 52 * 2 ^ 1073) < 1 * ((2 ^ 54 - 1) * 2 ^ 2045) := by decide +kernel
      exact absurd (Nat.lt_of_le_of_lt (Nat.le_trans h8 h7) h6) (Nat.lt_irrefl _)
    · omega
  have hd := (hnear hlt ((1021 + n.log2) * 2 ^ 52 + n * 2 ^ (52 - n.log2))).1
  rw [hV] at hd
  have hVt : V t = n * 2 ^ 1073 := by
    generalize n * 2 ^ 1073 = W at hd ⊢
    unfold dist at hd
    omega
  obtain ⟨m, e, h1, _⟩ := decode_pack neg hlt
  refine ⟨m, e, hr ▸ h1, ?_⟩
  rw [hr, val_pack neg hlt, hVt]

/-- x is the double k / 2 -/
def IsH (x : UInt64) (k : Int) : Prop := (∃ a m e, decode x = .fin a m e) ∧ val x = k * 2 ^ 1073

theorem pow_cast (n : Nat) : (2 : Int) ^ n = ((2 ^ n : Nat) : Int) := by simp
theorem pow_pos' (n : Nat) : (0 : Int) < 2 ^ n := by rw [pow_cast]; exact Int.ofNat_lt.mpr (Nat.two_pow_pos _)

theorem isH_of_right {r : UInt64} {k : Int} (hk : k ≠ 0) (hb : k.natAbs ≤ 2 ^ 52) (h : Right r (decide (k < 0)) (k.natAbs * 2 ^ 1073) 1) : IsH r k := by
  obtain ⟨m, e, h1, h2⟩ := exact_mag (by omega) hb h
  refine ⟨⟨_, m, e, h1⟩, ?_⟩
  rw [h2, sgn_mul, pow_cast]
  congr 1
  unfold sgn
  by_cases h : k < 0
  · simp [h]; omega
  · simp [h]; omega

theorem isH_zero (b : Bool) : IsH (zero b) 0 := by
  have hi : 0 < infMag := by decide
  obtain ⟨m, e, h, _⟩ := decode_pack b hi
  refine ⟨⟨_, m, e, h⟩, ?_⟩
  show val (pack b 0) = _
  rw [val_pack b hi, V_zero, Int.zero_mul]
  cases b <;> rfl

theorem natAbs_pow (k : Int) : (k * 2 ^ 1073).natAbs = k.natAbs * 2 ^ 1073 := by
  rw [Int.natAbs_mul, pow_cast, Int.natAbs_natCast]
theorem neg_pow (k : Int) : decide (k * 2 ^ 1073 < 0) = decide (k < 0) := by
  apply decide_eq_decide.mpr
  constructor
  · intro h
    by_cases h2 : k < 0
    · exact h2
    · have := Int.mul_nonneg (show 0 ≤ k by omega) (Int.le_of_lt (pow_pos' 1073))
      exact absurd (Int.lt_of_lt_of_le h this) (Int.lt_irrefl _)
  · intro h
    exact Int.mul_neg_of_neg_of_pos h (pow_pos' 1073)
theorem zero_pow {k : Int} (h : k * 2 ^ 1073 = 0) : k = 0 := by
  rcases Int.mul_eq_zero.mp h with h | h
  · exact h
  · exact absurd h (Int.ne_of_gt (pow_pos' 1073))

theorem IsH.add {x y : UInt64} {p q : Int} (hx : IsH x p) (hy : IsH y q) (hb : (p + q).natAbs ≤ 2 ^ 52) : IsH (Float64.add x y) (p + q) := by
  obtain ⟨⟨_, _, _, dx⟩, vx⟩ := hx
  obtain ⟨⟨_, _, _, dy⟩, vy⟩ := hy
  obtain ⟨h0, h1⟩ := add_right dx dy
  rw [vx, vy, ← Int.add_mul] at h0 h1
  by_cases h : p + q = 0
  · rw [h0 (by rw [h, Int.zero_mul]), h]
    exact isH_zero _
  · have h2 := h1 fun e => h (zero_pow e)
    rw [natAbs_pow, neg_pow] at h2
    exact isH_of_right h hb h2

theorem IsH.sub {x y : UInt64} {p q : Int} (hx : IsH x p) (hy : IsH y q) (hb : (p - q).natAbs ≤ 2 ^ 52) : IsH (Float64.sub x y) (p - q) := by
  obtain ⟨⟨_, _, _, dx⟩, vx⟩ := hx
  obtain ⟨⟨_, _, _, dy⟩, vy⟩ := hy
  obtain ⟨h0, h1⟩ := sub_right dx dy
  rw [vx, vy, ← Int.sub_mul] at h0 h1
  by_cases h : p - q = 0
  · rw [h0 (by rw [h, Int.zero_mul]), h]
    exact isH_zero _
  · have h2 := h1 fun e => h (zero_pow e)
    rw [natAbs_pow, neg_pow] at h2
    exact isH_of_right h hb h2

theorem isH_ofInt {i : Int} (hb : i.natAbs ≤ 2 ^ 51) : IsH (ofInt i) (2 * i) := by
  by_cases h : i = 0
  · subst h
    rw [show ofInt 0 = zero false by decide +kernel]
    exact isH_zero false
  · refine isH_of_right (by omega) (by omega) ?_
    have h2 := ofInt_right i
    have e1 : i.natAbs * 2 ^ 1074 = (2 * i).natAbs * 2 ^ 1073 := by
      rw [Int.natAbs_mul, show (2 : Int).natAbs = 2 from rfl, Nat.mul_comm 2, Nat.mul_assoc, show (1074 : Nat) = 1073 + 1 from rfl, Nat.pow_succ, Nat.mul_comm 2]
    have e2 : decide (i < 0) = decide (2 * i < 0) := by apply decide_eq_decide.mpr; omega
    rw [e1, e2] at h2
    exact h2

theorem isH_half : IsH 4602678819172646912 1 := by
  have h : decode 4602678819172646912 = .fin false (2 ^ 52) (-53) := by kernel_rfl
  refine ⟨⟨_, _, _, h⟩, ?_⟩
  rw [val_eq h]
  decide +kernel

theorem IsH.cmp {x y : UInt64} {p q : Int} (hx : IsH x p) (hy : IsH y q) : Float64.cmp x y = some (compare p q) := by
  obtain ⟨⟨_, _, _, dx⟩, vx⟩ := hx
  obtain ⟨⟨_, _, _, dy⟩, vy⟩ := hy
  rw [cmp_right dx dy, vx, vy]
  congr 1
  have hK := pow_pos' 1073
  generalize (2 : Int) ^ 1073 = K at hK
  rcases Int.lt_trichotomy p q with h | h | h
  · rw [Int.compare_eq_lt.mpr h, Int.compare_eq_lt.mpr (Int.mul_lt_mul_of_pos_right h hK)]
  · subst h; simp
  · rw [Int.compare_eq_gt.mpr h, Int.compare_eq_gt.mpr (Int.mul_lt_mul_of_pos_right h hK)]

theorem IsH.trunc {x : UInt64} {i : Int} {a : Bool} {m : Nat} {e : Int} (hx : IsH x (2 * i)) (hd : decode x = .fin a m e) : truncOf a m e = i := by
  obtain ⟨_, vx⟩ := hx
  rw [val_eq hd] at vx
  have he := decode_ge hd
  rw [sgn_mul] at vx
  have key : sgn a m * 2 ^ (e + 1074).toNat = i * 2 ^ 1074 := by
    rw [pow_cast (e + 1074).toNat, vx, Int.mul_comm 2 i, Int.mul_assoc, show (2 : Int) ^ 1074 = 2 * 2 ^ 1073 by rw [Int.mul_comm]; exact Int.pow_succ 2 1073]
  clear vx
  have fl : ∀ (b : Bool) (j : Int), sgn b m * 2 ^ (e + 1074).toNat = j * 2 ^ 1074 → floorOf b m e = j := by
    intro b j hj
    unfold floorOf
    split
    · rename_i h
      have e1 : (e + 1074).toNat = e.toNat + 1074 := by omega
      rw [e1, Int.pow_add, ← Int.mul_assoc] at hj
      exact Int.eq_of_mul_eq_mul_right (Int.ne_of_gt (pow_pos' 1074)) hj
    · rename_i h
      have e1 : (1074 : Nat) = (-e).toNat + (e + 1074).toNat := by omega
      have e2 : j * 2 ^ 1074 = j * 2 ^ (-e).toNat * 2 ^ (e + 1074).toNat := by
        rw [Int.mul_assoc, ← Int.pow_add, ← e1]
      rw [e2] at hj
      have h3 := Int.eq_of_mul_eq_mul_right (Int.ne_of_gt (pow_pos' _)) hj
      rw [h3]
      exact Int.mul_fdiv_cancel _ (Int.ne_of_gt (pow_pos' _))
  unfold truncOf
  cases a with
  | false => simp only [Bool.false_eq_true, if_false]; exact fl false i key
  | true =>
    simp only [if_true]
    unfold ceilOf
    rw [fl (!true) (-i) ?_, Int.neg_neg]
    rw [sgn_not, Int.neg_mul, Int.neg_mul, key]

theorem IsH.fin {x : UInt64} {k : Int} (hx : IsH x k) : ∃ a m e, decode x = .fin a m e := hx.1
theorem IsH.finite {x : UInt64} {k : Int} (hx : IsH x k) : Float64.isFinite x = true := by
  obtain ⟨⟨_, _, _, d⟩, _⟩ := hx
  unfold Float64.isFinite
  rw [d]
end Mine

theorem Mine.anewC1 : True ∧ True := by
  w_top off
  first | (walk1; done) | exact ⟨trivial, trivial⟩

-- C1
namespace Mine
open PySem.Calls

/-- what a pure def's body hands back: all that stood stands, and the answer is as told -/
def RetG (s : Shared) (g : Heap) (G : Heap → Heap → Value → Prop) (v : Value) (s' : Shared) : Prop :=
  (∃ L' m', Fr g L' s'.heap m') ∧ (∃ h' tk', s' = { s with heap := h', toks := tk' }) ∧ G s.heap s'.heap v

/-- a call of a def from any frame of a def: it ends, raises nothing, turns nothing that stood, and hands back what G tells -/
def Pure (w : World) (p : Program) (loose : List Str) (mean : ExcName → Option Value) (mg mb : Str → Option Value) (f : Addr) (d : Nat) (vs : List Value) (G : Heap → Heap → Value → Prop) : Prop :=
  ∀ (dp un : Nat) (gd : Option (List Code)) (cn : Str) (cs : Scope) (a : Addr) (ccd : Value) (cl : List (Str × Addr)) (outer : List Env) (A₀ : Around) (base h₀ : Heap) (L : Addr) (m : Str → Option Value) (s : Shared) (Q E : Value → Shared → Prop),
    Below A₀ base outer h₀ → Fr h₀ L s.heap m → (Mine.hd.heap_39 w.params).In h₀ → Top p loose mean mg mb h₀ → cs.kind = .function → dp + d < recursionLimit → un + 8 * d < cLine →
    (∀ r h' tk', (∀ b o, s.heap.get? b = some o → h'.get? b = some o) → G s.heap h' r → Q r { s with heap := h', toks := tk' }) →
    wpAny (model PySem.Challenge.rw_ak5001_01.row.prog w) (ktrTop dp un gd cn cs L a ccd cl outer) (call (.ref f) vs) Q E s

section
variable {w : World} {p : Program} {loose : List Str} {mean : ExcName → Option Value} {mg mb : Str → Option Value} {d : Nat} {vs : List Value} {G : Heap → Heap → Value → Prop}
theorem pure_def {K : Frag} {name qual : Str} {params : Arguments} {body : List Stmt} {scope : Scope} {dV kV doc pm cdv ct oc : Value} {an od : Option Addr} {osl : Array (Option Value)} {f : Addr} {binds : List (Str × Value)}
    (hK : K = Mine.hd.heap_39 w.params)
    (ho : K.lookup f = some ⟨oc, od, .func (fnOf name qual params body scope dV kV doc pm an cdv ct), osl⟩) (hcd : codeIn K cdv qual = true)
    (hbind : ∀ s, BindsTo s (fnOf name qual params body scope dV kV doc pm an cdv ct) ⟨vs, []⟩ binds) (hloc : ∀ y ∈ binds, scope.names.lookup y.1 = some .local)
    (h : ∀ (s : Shared) (dp un : Nat) (gd : Option (List Code)) (outer : List Env) (A₀ : Around) (base g : Heap) (L' : Addr) (h₁ : Heap) (tk : Nat), Fr g L' h₁ (fun y => binds.reverse.lookup y) → News g L' h₁ [] → Below A₀ base outer g → K.In g → Top p loose mean mg mb g →
      (∀ b o, s.heap.get? b = some o → g.get? b = some o) → dp + d < recursionLimit → un + 8 * d < cLine →
      wpAny (model PySem.Challenge.rw_ak5001_01.row.prog w) (ktrTop (dp + 1) (un + 3) gd qual scope L' f cdv [] outer) (execs body (envOf qual scope L' f cdv))
        (fun fl s' => RetG s g G (match fl with | .ret v => v | _ => .none) s') (fun _ _ => False) { s with heap := h₁, toks := tk })
    (hd : 1 ≤ d) (hco : scope.isCoroutine = false) (hgen : scope.isGenerator = false) (hk : scope.kind = .function)
    (hcell : ∀ x ∈ scope.names, x.2 ≠ .cell) : Pure w p loose mean mg mb f d vs G := by
  intro dp un gd cn cs a ccd cl outer A₀ base h₀ L m s Q E B F X T hkk hdp hun hret
  subst hK
  refine wpAny_call ?_
  refine code_defG (news := []) B F X (fun _ hp => nomatch hp) T rfl rfl hkk ho hcd (by show dp < _; omega) (hbind s) hloc ?_ hco hgen hk hcell
  intro g L' h₁ _ F' N' B' X' T' kG
  have kG' : ∀ b o, s.heap.get? b = some o → g.get? b = some o := fun b o e => kG b o e (fun q => nomatch q)
  refine wpAny_mono (h s dp un gd (envX cn cs L a ccd cl :: outer) _ base g L' h₁ _ F' N' B' X' T' kG' hdp hun) (fun fl s' hr => ?_) fun _ _ e => e.elim
  obtain ⟨⟨L₂, m₂, F₂⟩, ⟨h', tk', rfl⟩, hG⟩ := hr
  exact ⟨L₂, m₂, [], F₂, fun _ hp => (nomatch hp), fun _ _ => hret _ h' tk' (fun b o e => F₂.keep b o (kG' b o e)) hG⟩
end

theorem fillOf {w : World} {P : Prop} (h : (Mine.hd.heap_39 w.params = Mine.hd.heap_39 w.params ∧ PySem.Challenge.rw_ak5001_01 = PySem.Challenge.rw_ak5001_01) → P) : P := h ⟨rfl, rfl⟩


theorem Pure.use {w : World} {p : Program} {loose : List Str} {mean : ExcName → Option Value} {mg mb : Str → Option Value} {f : Addr} {d : Nat} {vs : List Value} {G : Heap → Heap → Value → Prop} {dp un : Nat} {gd : Option (List Code)} {cn : Str} {cs : Scope} {a : Addr} {ccd : Value} {cl : List (Str × Addr)} {outer : List Env} {A₀ : Around} {base h₀ : Heap} {L : Addr} {m : Str → Option Value} {news : List (Addr × Obj)} {s : Shared} {Q E : Value → Shared → Prop}
    (C : Pure w p loose mean mg mb f d vs G) (B : Below A₀ base outer h₀) (F : Fr h₀ L s.heap m) (X : (Mine.hd.heap_39 w.params).In h₀) (N : News h₀ L s.heap news) (T : Top p loose mean mg mb h₀) (hk : cs.kind = .function) (hd : dp + d < recursionLimit) (hu : un + 8 * d < cLine)
    (ret : ∀ r h' tk', Fr h₀ L h' m → News h₀ L h' news → G s.heap h' r → Q r { s with heap := h', toks := tk' }) :
    wpAny (model PySem.Challenge.rw_ak5001_01.row.prog w) (ktrTop dp un gd cn cs L a ccd cl outer) (call (.ref f) vs) Q E s :=
  C dp un gd cn cs a ccd cl outer A₀ base h₀ L m s Q E B F X T hk hd hu fun r h' tk' hk' hG => ret r h' tk' (F.keeps hk') (N.grown hk') hG

theorem toInt_H {x : UInt64} {i : Int} (h : IsH x (2 * i)) : Flt.toInt Float64.truncOf x = i := by
  obtain ⟨a, m, e, hd⟩ := h.fin
  unfold Flt.toInt
  rw [hd]
  exact h.trunc hd
theorem not_nan {x : UInt64} {k : Int} (h : IsH x k) (e : Float64.isNaN x = true) : False := by
  obtain ⟨a, m, e', hd⟩ := h.fin
  unfold Float64.isNaN at e
  rw [hd] at e
  cases e
theorem not_inf {x : UInt64} {k : Int} (h : IsH x k) (e : Float64.isInf x = true) : False := by
  obtain ⟨a, m, e', hd⟩ := h.fin
  unfold Float64.isInf at e
  rw [hd] at e
  cases e
theorem fmod7 (a : Int) : a.fmod 7 = a % 7 := Int.fmod_eq_emod_of_nonneg a (by decide)

theorem jwday_c {w : World} {p : Program} {loose : List Str} {mean : ExcName → Option Value} {mg mb : Str → Option Value} {x : UInt64} {t : Tok} {n : Int} (hx : IsH x (2 * n - 1)) (hn : n.natAbs ≤ 2 ^ 40) :
    Pure w p loose mean mg mb 66 1 [.float x t] (fun _ _ v => ∃ t, v = .int (n % 7) t) := by
  have h1 : IsH (Float64.add x 4602678819172646912) (2 * n) := by
    have h := hx.add isH_half (by omega)
    rwa [show 2 * n - 1 + 1 = 2 * n by omega] at h
  refine fillOf (w := w) ?_
  k_fill
  intro _
  k_dflt (refine' pure_def (K := Mine.hd.heap_39 w.params) (binds := [(PySem.Str.ofString "j", .float x t)]) rfl ?k6 ?k7 ?k9 ?kB ?_ ?c1 ?c2 ?c3 ?c4 ?c5; (case k6 => k_is); (case k7 => k_is); (case k9 => intro s; exact BindsTo.of_eq rfl); (case c5 => decide); (case kB => exact locs rfl); (case c1 => decide); (case c2 => exact rfl); (case c3 => exact rfl); (case c4 => exact rfl); k_whole; intro s dp un gd outer A₀ base g L' h' tk F' N' B' X' T' hkeep hdp hun; (try dsimp only); (try k_fold))
  k_steps
  all_goals first
    | exact not_nan h1 (by assumption)
    | exact not_inf h1 (by assumption)
    | (rw [toInt_H h1, fmod7]; exact ⟨⟨_, _, by k_asm⟩, ⟨_, _, rfl⟩, _, rfl⟩)


local macro_rules | `(tactic| walk_at "call ref") => `(tactic| (k_here; (with_reducible show wpAny _ _ (PySem.call (Value.ref 66) [Value.float _ _]) _ _ _); k_dflt (refine' Pure.use (jwday_c ?hx ?hn) ?k1 ?k2 ?k3 ?k4 ?k5 ?kK ?kd ?ku ?_; (case hx => assumption); (case hn => omega); (case k1 => k_asm); (case k2 => k_asm); (case k3 => k_asm); (case k4 => k_asm); (case k5 => k_asm); (case kK => first | exact rfl | assumption); (case kd => first | omega | ktr_room); (case ku => first | omega | ktr_units); k_whole; intro r' h' tk' F' N' hG'; obtain ⟨t', hr'⟩ := hG'; subst hr'; (try dsimp only); (try k_sweep); (try k_fold))))

theorem weekday_before_c {w : World} {p : Program} {loose : List Str} {mean : ExcName → Option Value} {mg mb : Str → Option Value} {x : UInt64} {t t' : Tok} {n d : Int} (hx : IsH x (2 * n - 1)) (hn : n.natAbs ≤ 2 ^ 39) (hd0 : 0 ≤ d) (hd6 : d ≤ 6) :
    Pure w p loose mean mg mb 73 2 [.int d t', .float x t] (fun _ _ v => ∃ y t, v = .float y t ∧ IsH y (2 * (n - (n - d) % 7) - 1)) := by
  have h1 : IsH (Float64.sub x (Float64.ofInt d)) (2 * (n - d) - 1) := by
    have h := hx.sub (isH_ofInt (i := d) (by omega)) (by omega)
    rwa [show 2 * n - 1 - 2 * d = 2 * (n - d) - 1 by omega] at h
  have h2 : IsH (Float64.sub x (Float64.ofInt ((n - d) % 7))) (2 * (n - (n - d) % 7) - 1) := by
    have h := hx.sub (isH_ofInt (i := (n - d) % 7) (by omega)) (by omega)
    rwa [show 2 * n - 1 - 2 * ((n - d) % 7) = 2 * (n - (n - d) % 7) - 1 by omega] at h
  refine fillOf (w := w) ?_
  k_fill
  intro _
  k_dflt (refine' pure_def (K := Mine.hd.heap_39 w.params) (binds := [(PySem.Str.ofString "weekday", .int d t'), (PySem.Str.ofString "jd", .float x t)]) rfl ?k6 ?k7 ?k9 ?kB ?_ ?c1 ?c2 ?c3 ?c4 ?c5; (case k6 => k_is); (case k7 => k_is); (case k9 => intro s; exact BindsTo.of_eq rfl); (case c5 => decide); (case kB => exact locs rfl); (case c1 => decide); (case c2 => exact rfl); (case c3 => exact rfl); (case c4 => exact rfl); k_whole; intro s dp un gd outer A₀ base g L' h' tk F' N' B' X' T' hkeep hdp hun; (try dsimp only); (try k_fold))
  k_steps
  all_goals exact ⟨⟨_, _, by k_asm⟩, ⟨_, _, rfl⟩, _, _, rfl, h2⟩

local macro_rules | `(tactic| walk_at "call ref") => `(tactic| (k_here; (with_reducible show wpAny _ _ (PySem.call (Value.ref 73) [Value.int _ _, Value.float _ _]) _ _ _); k_dflt (refine' Pure.use (weekday_before_c ?hx ?hn ?h0 ?h6) ?k1 ?k2 ?k3 ?k4 ?k5 ?kK ?kd ?ku ?_; (case hx => assumption); (case hn => omega); (case h0 => assumption); (case h6 => assumption); (case k1 => k_asm); (case k2 => k_asm); (case k3 => k_asm); (case k4 => k_asm); (case k5 => k_asm); (case kK => first | exact rfl | assumption); (case kd => first | omega | ktr_room); (case ku => first | omega | ktr_units); k_whole; intro r' h' tk' F' N' hG'; obtain ⟨y', t', hr', hy'⟩ := hG'; subst hr'; (try dsimp only); (try k_sweep); (try k_fold))))

theorem search_p_c {w : World} {p : Program} {loose : List Str} {mean : ExcName → Option Value} {mg mb : Str → Option Value} {x : UInt64} {t t' t₂ t₃ : Tok} {n d k : Int} (hx : IsH x (2 * n - 1)) (hn : n.natAbs ≤ 2 ^ 38) (hk : k.natAbs ≤ 2 ^ 37) (hd0 : 0 ≤ d) (hd6 : d ≤ 6) :
    Pure w p loose mean mg mb 80 3 [.int d t', .float x t, .int 1 t₂, .int k t₃] (fun _ _ v => ∃ y t, v = .float y t ∧ IsH y (2 * ((n + k) - (n + k - d) % 7) - 1)) := by
  have h1 : IsH (Float64.add x (Float64.ofInt (1 * k))) (2 * (n + k) - 1) := by
    have h := hx.add (isH_ofInt (i := 1 * k) (by omega)) (by omega)
    rwa [show 2 * n - 1 + 2 * (1 * k) = 2 * (n + k) - 1 by omega] at h
  refine fillOf (w := w) ?_
  k_fill
  intro _
  k_dflt (refine' pure_def (K := Mine.hd.heap_39 w.params) (binds := [(PySem.Str.ofString "weekday", .int d t'), (PySem.Str.ofString "jd", .float x t), (PySem.Str.ofString "direction", .int 1 t₂), (PySem.Str.ofString "offset", .int k t₃)]) rfl ?k6 ?k7 ?k9 ?kB ?_ ?c1 ?c2 ?c3 ?c4 ?c5; (case k6 => k_is); (case k7 => k_is); (case k9 => intro s; exact BindsTo.of_eq rfl); (case c5 => decide); (case kB => exact locs rfl); (case c1 => decide); (case c2 => exact rfl); (case c3 => exact rfl); (case c4 => exact rfl); k_whole; intro s dp un gd outer A₀ base g L' h' tk F' N' B' X' T' hkeep hdp hun; (try dsimp only); (try k_fold))
  k_steps
  all_goals exact ⟨⟨_, _, by k_asm⟩, ⟨_, _, rfl⟩, _, _, rfl, by assumption⟩

theorem search_m_c {w : World} {p : Program} {loose : List Str} {mean : ExcName → Option Value} {mg mb : Str → Option Value} {x : UInt64} {t t' t₂ t₃ : Tok} {n d k : Int} (hx : IsH x (2 * n - 1)) (hn : n.natAbs ≤ 2 ^ 38) (hk : k.natAbs ≤ 2 ^ 37) (hd0 : 0 ≤ d) (hd6 : d ≤ 6) :
    Pure w p loose mean mg mb 80 3 [.int d t', .float x t, .int (-1) t₂, .int k t₃] (fun _ _ v => ∃ y t, v = .float y t ∧ IsH y (2 * ((n + -k) - (n + -k - d) % 7) - 1)) := by
  have h1 : IsH (Float64.add x (Float64.ofInt ((-1) * k))) (2 * (n + -k) - 1) := by
    have h := hx.add (isH_ofInt (i := (-1) * k) (by omega)) (by omega)
    rwa [show 2 * n - 1 + 2 * ((-1) * k) = 2 * (n + -k) - 1 by omega] at h
  refine fillOf (w := w) ?_
  k_fill
  intro _
  k_dflt (refine' pure_def (K := Mine.hd.heap_39 w.params) (binds := [(PySem.Str.ofString "weekday", .int d t'), (PySem.Str.ofString "jd", .float x t), (PySem.Str.ofString "direction", .int (-1) t₂), (PySem.Str.ofString "offset", .int k t₃)]) rfl ?k6 ?k7 ?k9 ?kB ?_ ?c1 ?c2 ?c3 ?c4 ?c5; (case k6 => k_is); (case k7 => k_is); (case k9 => intro s; exact BindsTo.of_eq rfl); (case c5 => decide); (case kB => exact locs rfl); (case c1 => decide); (case c2 => exact rfl); (case c3 => exact rfl); (case c4 => exact rfl); k_whole; intro s dp un gd outer A₀ base g L' h' tk F' N' B' X' T' hkeep hdp hun; (try dsimp only); (try k_fold))
  k_steps
  all_goals exact ⟨⟨_, _, by k_asm⟩, ⟨_, _, rfl⟩, _, _, rfl, by assumption⟩

local macro_rules | `(tactic| walk_at "call ref") => `(tactic| (k_here; (with_reducible show wpAny _ _ (PySem.call (Value.ref 80) [Value.int _ _, Value.float _ _, Value.int 1 _, Value.int _ _]) _ _ _); k_dflt (refine' Pure.use (search_p_c ?hx ?hn ?hk ?h0 ?h6) ?k1 ?k2 ?k3 ?k4 ?k5 ?kK ?kd ?ku ?_; (case hx => assumption); (case hn => omega); (case hk => omega); (case h0 => assumption); (case h6 => assumption); (case k1 => k_asm); (case k2 => k_asm); (case k3 => k_asm); (case k4 => k_asm); (case k5 => k_asm); (case kK => first | exact rfl | assumption); (case kd => first | omega | ktr_room); (case ku => first | omega | ktr_units); k_whole; intro r' h' tk' F' N' hG'; obtain ⟨y', t', hr', hy'⟩ := hG'; subst hr'; (try dsimp only); (try k_sweep); (try k_fold))))

local macro_rules | `(tactic| walk_at "call ref") => `(tactic| (k_here; (with_reducible show wpAny _ _ (PySem.call (Value.ref 80) [Value.int _ _, Value.float _ _, Value.int (-1) _, Value.int _ _]) _ _ _); k_dflt (refine' Pure.use (search_m_c ?hx ?hn ?hk ?h0 ?h6) ?k1 ?k2 ?k3 ?k4 ?k5 ?kK ?kd ?ku ?_; (case hx => assumption); (case hn => omega); (case hk => omega); (case h0 => assumption); (case h6 => assumption); (case k1 => k_asm); (case k2 => k_asm); (case k3 => k_asm); (case k4 => k_asm); (case k5 => k_asm); (case kK => first | exact rfl | assumption); (case kd => first | omega | ktr_room); (case ku => first | omega | ktr_units); k_whole; intro r' h' tk' F' N' hG'; obtain ⟨y', t', hr', hy'⟩ := hG'; subst hr'; (try dsimp only); (try k_sweep); (try k_fold))))

theorem nearest_weekday_c {w : World} {p : Program} {loose : List Str} {mean : ExcName → Option Value} {mg mb : Str → Option Value} {x : UInt64} {t t' : Tok} {n d : Int} (hx : IsH x (2 * n - 1)) (hn : n.natAbs ≤ 2 ^ 37) (hd0 : 0 ≤ d) (hd6 : d ≤ 6) :
    Pure w p loose mean mg mb 87 4 [.int d t', .float x t] (fun _ _ v => ∃ y t, v = .float y t ∧ IsH y (2 * ((n + 3) - (n + 3 - d) % 7) - 1)) := by
  refine fillOf (w := w) ?_
  k_fill
  intro _
  k_dflt (refine' pure_def (K := Mine.hd.heap_39 w.params) (binds := [(PySem.Str.ofString "weekday", .int d t'), (PySem.Str.ofString "jd", .float x t)]) rfl ?k6 ?k7 ?k9 ?kB ?_ ?c1 ?c2 ?c3 ?c4 ?c5; (case k6 => k_is); (case k7 => k_is); (case k9 => intro s; exact BindsTo.of_eq rfl); (case c5 => decide); (case kB => exact locs rfl); (case c1 => decide); (case c2 => exact rfl); (case c3 => exact rfl); (case c4 => exact rfl); k_whole; intro s dp un gd outer A₀ base g L' h' tk F' N' B' X' T' hkeep hdp hun; (try dsimp only); (try k_fold))
  k_steps
  all_goals exact ⟨⟨_, _, by k_asm⟩, ⟨_, _, rfl⟩, _, _, rfl, by assumption⟩

local macro_rules | `(tactic| walk_at "call ref") => `(tactic| (k_here; (with_reducible show wpAny _ _ (PySem.call (Value.ref 87) [Value.int _ _, Value.float _ _]) _ _ _); k_dflt (refine' Pure.use (nearest_weekday_c ?hx ?hn ?h0 ?h6) ?k1 ?k2 ?k3 ?k4 ?k5 ?kK ?kd ?ku ?_; (case hx => assumption); (case hn => omega); (case h0 => assumption); (case h6 => assumption); (case k1 => k_asm); (case k2 => k_asm); (case k3 => k_asm); (case k4 => k_asm); (case k5 => k_asm); (case kK => first | exact rfl | assumption); (case kd => first | omega | ktr_room); (case ku => first | omega | ktr_units); k_whole; intro r' h' tk' F' N' hG'; obtain ⟨y', t', hr', hy'⟩ := hG'; subst hr'; (try dsimp only); (try k_sweep); (try k_fold))))

theorem next_weekday_c {w : World} {p : Program} {loose : List Str} {mean : ExcName → Option Value} {mg mb : Str → Option Value} {x : UInt64} {t t' : Tok} {n d : Int} (hx : IsH x (2 * n - 1)) (hn : n.natAbs ≤ 2 ^ 37) (hd0 : 0 ≤ d) (hd6 : d ≤ 6) :
    Pure w p loose mean mg mb 94 4 [.int d t', .float x t] (fun _ _ v => ∃ y t, v = .float y t ∧ IsH y (2 * ((n + 7) - (n + 7 - d) % 7) - 1)) := by
  refine fillOf (w := w) ?_
  k_fill
  intro _
  k_dflt (refine' pure_def (K := Mine.hd.heap_39 w.params) (binds := [(PySem.Str.ofString "weekday", .int d t'), (PySem.Str.ofString "jd", .float x t)]) rfl ?k6 ?k7 ?k9 ?kB ?_ ?c1 ?c2 ?c3 ?c4 ?c5; (case k6 => k_is); (case k7 => k_is); (case k9 => intro s; exact BindsTo.of_eq rfl); (case c5 => decide); (case kB => exact locs rfl); (case c1 => decide); (case c2 => exact rfl); (case c3 => exact rfl); (case c4 => exact rfl); k_whole; intro s dp un gd outer A₀ base g L' h' tk F' N' B' X' T' hkeep hdp hun; (try dsimp only); (try k_fold))
  k_steps
  all_goals exact ⟨⟨_, _, by k_asm⟩, ⟨_, _, rfl⟩, _, _, rfl, by assumption⟩

local macro_rules | `(tactic| walk_at "call ref") => `(tactic| (k_here; (with_reducible show wpAny _ _ (PySem.call (Value.ref 94) [Value.int _ _, Value.float _ _]) _ _ _); k_dflt (refine' Pure.use (next_weekday_c ?hx ?hn ?h0 ?h6) ?k1 ?k2 ?k3 ?k4 ?k5 ?kK ?kd ?ku ?_; (case hx => assumption); (case hn => omega); (case h0 => assumption); (case h6 => assumption); (case k1 => k_asm); (case k2 => k_asm); (case k3 => k_asm); (case k4 => k_asm); (case k5 => k_asm); (case kK => first | exact rfl | assumption); (case kd => first | omega | ktr_room); (case ku => first | omega | ktr_units); k_whole; intro r' h' tk' F' N' hG'; obtain ⟨y', t', hr', hy'⟩ := hG'; subst hr'; (try dsimp only); (try k_sweep); (try k_fold))))

theorem next_or_current_weekday_c {w : World} {p : Program} {loose : List Str} {mean : ExcName → Option Value} {mg mb : Str → Option Value} {x : UInt64} {t t' : Tok} {n d : Int} (hx : IsH x (2 * n - 1)) (hn : n.natAbs ≤ 2 ^ 37) (hd0 : 0 ≤ d) (hd6 : d ≤ 6) :
    Pure w p loose mean mg mb 101 4 [.int d t', .float x t] (fun _ _ v => ∃ y t, v = .float y t ∧ IsH y (2 * ((n + 6) - (n + 6 - d) % 7) - 1)) := by
  refine fillOf (w := w) ?_
  k_fill
  intro _
  k_dflt (refine' pure_def (K := Mine.hd.heap_39 w.params) (binds := [(PySem.Str.ofString "weekday", .int d t'), (PySem.Str.ofString "jd", .float x t)]) rfl ?k6 ?k7 ?k9 ?kB ?_ ?c1 ?c2 ?c3 ?c4 ?c5; (case k6 => k_is); (case k7 => k_is); (case k9 => intro s; exact BindsTo.of_eq rfl); (case c5 => decide); (case kB => exact locs rfl); (case c1 => decide); (case c2 => exact rfl); (case c3 => exact rfl); (case c4 => exact rfl); k_whole; intro s dp un gd outer A₀ base g L' h' tk F' N' B' X' T' hkeep hdp hun; (try dsimp only); (try k_fold))
  k_steps
  all_goals exact ⟨⟨_, _, by k_asm⟩, ⟨_, _, rfl⟩, _, _, rfl, by assumption⟩

local macro_rules | `(tactic| walk_at "call ref") => `(tactic| (k_here; (with_reducible show wpAny _ _ (PySem.call (Value.ref 101) [Value.int _ _, Value.float _ _]) _ _ _); k_dflt (refine' Pure.use (next_or_current_weekday_c ?hx ?hn ?h0 ?h6) ?k1 ?k2 ?k3 ?k4 ?k5 ?kK ?kd ?ku ?_; (case hx => assumption); (case hn => omega); (case h0 => assumption); (case h6 => assumption); (case k1 => k_asm); (case k2 => k_asm); (case k3 => k_asm); (case k4 => k_asm); (case k5 => k_asm); (case kK => first | exact rfl | assumption); (case kd => first | omega | ktr_room); (case ku => first | omega | ktr_units); k_whole; intro r' h' tk' F' N' hG'; obtain ⟨y', t', hr', hy'⟩ := hG'; subst hr'; (try dsimp only); (try k_sweep); (try k_fold))))

theorem previous_weekday_c {w : World} {p : Program} {loose : List Str} {mean : ExcName → Option Value} {mg mb : Str → Option Value} {x : UInt64} {t t' : Tok} {n d : Int} (hx : IsH x (2 * n - 1)) (hn : n.natAbs ≤ 2 ^ 37) (hd0 : 0 ≤ d) (hd6 : d ≤ 6) :
    Pure w p loose mean mg mb 108 4 [.int d t', .float x t] (fun _ _ v => ∃ y t, v = .float y t ∧ IsH y (2 * ((n + -1) - (n + -1 - d) % 7) - 1)) := by
  refine fillOf (w := w) ?_
  k_fill
  intro _
  k_dflt (refine' pure_def (K := Mine.hd.heap_39 w.params) (binds := [(PySem.Str.ofString "weekday", .int d t'), (PySem.Str.ofString "jd", .float x t)]) rfl ?k6 ?k7 ?k9 ?kB ?_ ?c1 ?c2 ?c3 ?c4 ?c5; (case k6 => k_is); (case k7 => k_is); (case k9 => intro s; exact BindsTo.of_eq rfl); (case c5 => decide); (case kB => exact locs rfl); (case c1 => decide); (case c2 => exact rfl); (case c3 => exact rfl); (case c4 => exact rfl); k_whole; intro s dp un gd outer A₀ base g L' h' tk F' N' B' X' T' hkeep hdp hun; (try dsimp only); (try k_fold))
  k_steps
  all_goals exact ⟨⟨_, _, by k_asm⟩, ⟨_, _, rfl⟩, _, _, rfl, by assumption⟩

local macro_rules | `(tactic| walk_at "call ref") => `(tactic| (k_here; (with_reducible show wpAny _ _ (PySem.call (Value.ref 108) [Value.int _ _, Value.float _ _]) _ _ _); k_dflt (refine' Pure.use (previous_weekday_c ?hx ?hn ?h0 ?h6) ?k1 ?k2 ?k3 ?k4 ?k5 ?kK ?kd ?ku ?_; (case hx => assumption); (case hn => omega); (case h0 => assumption); (case h6 => assumption); (case k1 => k_asm); (case k2 => k_asm); (case k3 => k_asm); (case k4 => k_asm); (case k5 => k_asm); (case kK => first | exact rfl | assumption); (case kd => first | omega | ktr_room); (case ku => first | omega | ktr_units); k_whole; intro r' h' tk' F' N' hG'; obtain ⟨y', t', hr', hy'⟩ := hG'; subst hr'; (try dsimp only); (try k_sweep); (try k_fold))))

theorem previous_or_current_weekday_c {w : World} {p : Program} {loose : List Str} {mean : ExcName → Option Value} {mg mb : Str → Option Value} {x : UInt64} {t t' : Tok} {n d : Int} (hx : IsH x (2 * n - 1)) (hn : n.natAbs ≤ 2 ^ 37) (hd0 : 0 ≤ d) (hd6 : d ≤ 6) :
    Pure w p loose mean mg mb 115 4 [.int d t', .float x t] (fun _ _ v => ∃ y t, v = .float y t ∧ IsH y (2 * ((n + 0) - (n + 0 - d) % 7) - 1)) := by
  refine fillOf (w := w) ?_
  k_fill
  intro _
  k_dflt (refine' pure_def (K := Mine.hd.heap_39 w.params) (binds := [(PySem.Str.ofString "weekday", .int d t'), (PySem.Str.ofString "jd", .float x t)]) rfl ?k6 ?k7 ?k9 ?kB ?_ ?c1 ?c2 ?c3 ?c4 ?c5; (case k6 => k_is); (case k7 => k_is); (case k9 => intro s; exact BindsTo.of_eq rfl); (case c5 => decide); (case kB => exact locs rfl); (case c1 => decide); (case c2 => exact rfl); (case c3 => exact rfl); (case c4 => exact rfl); k_whole; intro s dp un gd outer A₀ base g L' h' tk F' N' B' X' T' hkeep hdp hun; (try dsimp only); (try k_fold))
  k_steps
  all_goals exact ⟨⟨_, _, by k_asm⟩, ⟨_, _, rfl⟩, _, _, rfl, by assumption⟩

local macro_rules | `(tactic| walk_at "call ref") => `(tactic| (k_here; (with_reducible show wpAny _ _ (PySem.call (Value.ref 115) [Value.int _ _, Value.float _ _]) _ _ _); k_dflt (refine' Pure.use (previous_or_current_weekday_c ?hx ?hn ?h0 ?h6) ?k1 ?k2 ?k3 ?k4 ?k5 ?kK ?kd ?ku ?_; (case hx => assumption); (case hn => omega); (case h0 => assumption); (case h6 => assumption); (case k1 => k_asm); (case k2 => k_asm); (case k3 => k_asm); (case k4 => k_asm); (case k5 => k_asm); (case kK => first | exact rfl | assumption); (case kd => first | omega | ktr_room); (case ku => first | omega | ktr_units); k_whole; intro r' h' tk' F' N' hG'; obtain ⟨y', t', hr', hy'⟩ := hG'; subst hr'; (try dsimp only); (try k_sweep); (try k_fold))))

end Mine

theorem Mine.anewC2 : True ∧ True := by
  w_top off
  first | (walk1; done) | exact ⟨trivial, trivial⟩

-- C2
namespace Mine
open PySem.Calls

def PureN (w : World) (p : Program) (loose : List Str) (mean : ExcName → Option Value) (mg mb : Str → Option Value) (f : Addr) (d : Nat) (vs : List Value) (G : Value → Prop) : Prop :=
  ∀ (dp un : Nat) (gd : Option (List Code)) (cn : Str) (cs : Scope) (a : Addr) (ccd : Value) (cl : List (Str × Addr)) (outer : List Env) (A₀ : Around) (base h₀ : Heap) (L : Addr) (m : Str → Option Value) (news : List (Addr × Obj)) (s : Shared) (Q E : Value → Shared → Prop),
    Below A₀ base outer h₀ → Fr h₀ L s.heap m → (Mine.hd.heap_39 w.params).In h₀ → News h₀ L s.heap news → Top p loose mean mg mb h₀ → cs.kind = .function → dp + d < recursionLimit → un + 8 * d < cLine →
    (∀ r h' tk', Fr h₀ L h' m → News h₀ L h' news → G r → Q r { s with heap := h', toks := tk' }) →
    wpAny (model PySem.Challenge.rw_ak5001_01.row.prog w) (ktrTop dp un gd cn cs L a ccd cl outer) (call (.ref f) vs) Q E s

/-- a list of values told item by item -/
inductive All2 (El : Int → Value → Prop) : List Int → List Value → Prop
  | nil : All2 El [] []
  | cons {k : Int} {y : Value} {ks : List Int} {ys : List Value} : El k y → All2 El ks ys → All2 El (k :: ks) (y :: ys)
theorem All2.snoc {El : Int → Value → Prop} {k : Int} {y : Value} (h : El k y) : ∀ {ks : List Int} {ys : List Value}, All2 El ks ys → All2 El (ks ++ [k]) (ys ++ [y])
  | _, _, .nil => .cons h .nil
  | _, _, .cons a r => .cons a (All2.snoc h r)
theorem All2.one {El : Int → Value → Prop} {k : Int} {ys : List Value} (h : All2 El [k] ys) : ∃ y, ys = [y] ∧ El k y := by
  cases h with
  | cons a r => cases r; exact ⟨_, rfl, a⟩

def CfEl (b : Int → Bool) (El : Int → Value → Prop) (news : List (Addr × Obj)) (k : Int) (y : Value) (news' : List (Addr × Obj)) : Prop := news' = news ∧ b k = true ∧ El k y
def CfNo (b : Int → Bool) (news : List (Addr × Obj)) (k : Int) (news' : List (Addr × Obj)) : Prop := news' = news ∧ b k = false
def CfDone (P : Prop) : Prop := P

theorem cf_range {prog : Program} {w : World} {A : Around} {h₀ : Heap} {L : Addr} {m : Str → Option Value} {env : Env} {ct elt : Expr} {x : Str} {scope : Scope} {cl : List (Str × Addr)} {s : Shared} {S : List (Addr × Obj) → Prop} {Fin : List Value → List (Addr × Obj) → Prop} {news : List (Addr × Obj)}
    {n : Nat} {a : Int} (b : Int → Bool) (El : Int → Value → Prop)
    (turn : ∀ k t I oI C oC D m₂ ys h tk (E' : Value → Shared → Prop), a ≤ k → k < a + (n : Int) → LCg.NsObj oC m₂ → m₂ x = some (.int k t) → Fr h₀ L h m → News h₀ L h ((I, oI) :: (C, oC) :: (D, LCg.lst ys) :: news) → LCg.Off3 I C D news → ((@Ne Nat I C) ∧ (@Ne Nat I D) ∧ (@Ne Nat C D)) →
      wpAny (model prog w) A (isTrue ct (compEnvC scope cl C env) (eval ct (compEnvC scope cl C env))) (fun ok s' => if ok = true then wpAny (model prog w) A (eval elt (compEnvC scope cl C env)) (LCg.CompEnd h₀ L m { s with heap := h, toks := tk } I oI C oC D (LCg.lst ys) S (fun y news' => CfEl b El news k y news')) E' s'
        else LCg.CompEnd h₀ L m { s with heap := h, toks := tk } I oI C oC D (LCg.lst ys) S (fun _ news' => CfNo b news k news') Value.none s') E' { s with heap := h, toks := tk })
    (fin : CfDone (∀ ys, All2 El ((rangeKs a n).filter b) ys → Fin ys news)) : LCt.CompRestT prog w A h₀ L m env ct elt x scope cl s S (fun i v => ∃ t, v = .int (a + (i : Int)) t) Fin n 0 [] news := by
  unfold CfDone at fin
  have key : ∀ (j i : Nat) (ys : List Value), i + j = n → All2 El (((rangeKs a n).take i).filter b) ys → LCt.CompRestT prog w A h₀ L m env ct elt x scope cl s S (fun i v => ∃ t, v = .int (a + (i : Int)) t) Fin j i ys news := by
    intro j
    induction j with
    | zero =>
      intro i ys hi hy
      have e : i = (rangeKs a n).length := by rw [rangeKs_length]; omega
      subst e
      rw [List.take_length] at hy
      exact LCt.CompRestT.zero (fin ys hy)
    | succ j ih =>
      intro i ys hi hy
      refine LCt.CompRestT.succ ?_
      intro v I oI C oC D m₂ h tk E' hv hC hx F N off ne
      obtain ⟨t, hv'⟩ := hv
      subst hv'
      have hk : (rangeKs a n)[i]? = some (a + (i : Int)) := by simp [rangeKs, show i < n by omega]
      have hs : ((rangeKs a n).take (i + 1)).filter b = ((rangeKs a n).take i).filter b ++ (if b (a + (i : Int)) = true then [a + (i : Int)] else []) := by
        rw [List.take_add_one, hk, List.filter_append]
        cases hb : b (a + (i : Int)) <;> simp [hb]
      refine wpAny_mono (turn _ t I oI C oC D m₂ ys h tk E' (by omega) (by omega) hC hx F N off ne) (fun ok s₂ hq => ?_) fun _ _ e => e
      cases ok with
      | true =>
        simp only [if_true] at hq ⊢
        refine wpAny_mono hq (fun y s₃ hr => ?_) fun _ _ e => e
        obtain ⟨h', tk', nw, e, F', N', off', hS, hn, hb, hE⟩ := hr
        rw [hn] at N' off' hS
        refine ⟨h', tk', news, e, F', N', off', hS, ih (i + 1) _ (by omega) ?_⟩
        rw [hs, if_pos hb]
        exact hy.snoc hE
      | false =>
        simp only [Bool.false_eq_true, if_false] at hq ⊢
        obtain ⟨h', tk', nw, e, F', N', off', hS, hn, hb⟩ := hq
        rw [hn] at N' off' hS
        refine ⟨h', tk', news, e, F', N', off', hS, ih (i + 1) _ (by omega) ?_⟩
        rw [hs, hb]
        simpa using hy
  exact key n 0 [] (by omega) (by simp only [List.take_zero, List.filter_nil]; exact .nil)

/-- of seven days in a row one has the weekday -/
theorem only_one {a d : Int} (hd0 : 0 ≤ d) (hd6 : d ≤ 6) : (rangeKs a 7).filter (fun k => decide ((k - 2451545 + 5) % 7 = d)) = [a + 6 - (a + 6 - d) % 7] := by
  have e : rangeKs a 7 = [a, a + 1, a + 2, a + 3, a + 4, a + 5, a + 6] := by simp [rangeKs, List.range_succ]
  rw [e]
  have h : (a + 6 - d) % 7 = 0 ∨ (a + 6 - d) % 7 = 1 ∨ (a + 6 - d) % 7 = 2 ∨ (a + 6 - d) % 7 = 3 ∨ (a + 6 - d) % 7 = 4 ∨ (a + 6 - d) % 7 = 5 ∨ (a + 6 - d) % 7 = 6 := by omega
  have f : ∀ (k : Int) (q : Bool), (decide ((k - 2451545 + 5) % 7 = d) = q) ↔ (if q = true then (k - 2451545 + 5) % 7 = d else (k - 2451545 + 5) % 7 ≠ d) := by
    intro k q; cases q <;> simp
  rcases h with h | h | h | h | h | h | h <;> rw [h]
  · simp only [List.filter_cons, List.filter_nil, (f a false).mpr (by simp; omega), (f (a+1) false).mpr (by simp; omega), (f (a+2) false).mpr (by simp; omega), (f (a+3) false).mpr (by simp; omega), (f (a+4) false).mpr (by simp; omega), (f (a+5) false).mpr (by simp; omega), (f (a+6) true).mpr (by simp; omega)]; simp
  · simp only [List.filter_cons, List.filter_nil, (f a false).mpr (by simp; omega), (f (a+1) false).mpr (by simp; omega), (f (a+2) false).mpr (by simp; omega), (f (a+3) false).mpr (by simp; omega), (f (a+4) false).mpr (by simp; omega), (f (a+5) true).mpr (by simp; omega), (f (a+6) false).mpr (by simp; omega)]; simp; omega
  · simp only [List.filter_cons, List.filter_nil, (f a false).mpr (by simp; omega), (f (a+1) false).mpr (by simp; omega), (f (a+2) false).mpr (by simp; omega), (f (a+3) false).mpr (by simp; omega), (f (a+4) true).mpr (by simp; omega), (f (a+5) false).mpr (by simp; omega), (f (a+6) false).mpr (by simp; omega)]; simp; omega
  · simp only [List.filter_cons, List.filter_nil, (f a false).mpr (by simp; omega), (f (a+1) false).mpr (by simp; omega), (f (a+2) false).mpr (by simp; omega), (f (a+3) true).mpr (by simp; omega), (f (a+4) false).mpr (by simp; omega), (f (a+5) false).mpr (by simp; omega), (f (a+6) false).mpr (by simp; omega)]; simp; omega
  · simp only [List.filter_cons, List.filter_nil, (f a false).mpr (by simp; omega), (f (a+1) false).mpr (by simp; omega), (f (a+2) true).mpr (by simp; omega), (f (a+3) false).mpr (by simp; omega), (f (a+4) false).mpr (by simp; omega), (f (a+5) false).mpr (by simp; omega), (f (a+6) false).mpr (by simp; omega)]; simp; omega
  · simp only [List.filter_cons, List.filter_nil, (f a false).mpr (by simp; omega), (f (a+1) true).mpr (by simp; omega), (f (a+2) false).mpr (by simp; omega), (f (a+3) false).mpr (by simp; omega), (f (a+4) false).mpr (by simp; omega), (f (a+5) false).mpr (by simp; omega), (f (a+6) false).mpr (by simp; omega)]; simp; omega
  · simp only [List.filter_cons, List.filter_nil, (f a true).mpr (by simp; omega), (f (a+1) false).mpr (by simp; omega), (f (a+2) false).mpr (by simp; omega), (f (a+3) false).mpr (by simp; omega), (f (a+4) false).mpr (by simp; omega), (f (a+5) false).mpr (by simp; omega), (f (a+6) false).mpr (by simp; omega)]; simp

theorem size7 {n low high : Int} (hh : high = low + 6) : Builtin.Range.rangeSize (n + low) (n + high + 1) 1 = ((7 : Nat) : Int) := by
  rw [rangeSize_nat]; omega

structure DayMark (d : Int) : Prop where
  lo : 0 ≤ d
  hi : d ≤ 6
def dayIs (d k : Int) : Bool := decide ((k - 2451545 + 5) % 7 = d)
def nightOf (k : Int) (y : Value) : Prop := ∃ t, y = Value.float (Float64.sub (Float64.ofInt k) 4602678819172646912) t

theorem cf_only {prog : Program} {w : World} {A : Around} {h₀ : Heap} {L : Addr} {m : Str → Option Value} {env : Env} {ct elt : Expr} {x : Str} {scope : Scope} {cl : List (Str × Addr)} {s : Shared} {S : List (Addr × Obj) → Prop} {Fin : List Value → List (Addr × Obj) → Prop} {news : List (Addr × Obj)} {a d : Int}
    (hm : DayMark d)
    (turn : ∀ k t I oI C oC D m₂ ys h tk (E' : Value → Shared → Prop), a ≤ k → k < a + ((7 : Nat) : Int) → LCg.NsObj oC m₂ → m₂ x = some (.int k t) → Fr h₀ L h m → News h₀ L h ((I, oI) :: (C, oC) :: (D, LCg.lst ys) :: news) → LCg.Off3 I C D news → ((@Ne Nat I C) ∧ (@Ne Nat I D) ∧ (@Ne Nat C D)) →
      wpAny (model prog w) A (isTrue ct (compEnvC scope cl C env) (eval ct (compEnvC scope cl C env))) (fun ok s' => if ok = true then wpAny (model prog w) A (eval elt (compEnvC scope cl C env)) (LCg.CompEnd h₀ L m { s with heap := h, toks := tk } I oI C oC D (LCg.lst ys) S (fun y news' => CfEl (dayIs d) nightOf news k y news')) E' s'
        else LCg.CompEnd h₀ L m { s with heap := h, toks := tk } I oI C oC D (LCg.lst ys) S (fun _ news' => CfNo (dayIs d) news k news') Value.none s') E' { s with heap := h, toks := tk })
    (fin : CfDone (∀ t, Fin [Value.float (Float64.sub (Float64.ofInt (a + 6 - (a + 6 - d) % 7)) 4602678819172646912) t] news)) : LCt.CompRestT prog w A h₀ L m env ct elt x scope cl s S (fun i v => ∃ t, v = .int (a + (i : Int)) t) Fin 7 0 [] news := by
  refine cf_range (dayIs d) nightOf turn fun ys hys => ?_
  have e := only_one (a := a) hm.lo hm.hi
  unfold dayIs at hys
  rw [e] at hys
  obtain ⟨y, hy, t, ht⟩ := hys.one
  subst hy ht
  exact fin t

local macro_rules | `(tactic| walk_at "CompSrcT") => `(tactic| (k_here; k_dflt (refine LCt.CompSrcT.range (n := 7) (by rfl) (by k_asm) (by k_asm) (by assumption) (small_one (by omega) (by omega) (by omega) (by omega)) (size7 (by assumption)) (by decide) ?_; intro g'; (refine' cf_only (by assumption) (fun k' t' I' oI' C' oC' D' m' ys' h' tk' E' hlo' hhi' hC' hx' F' N' off' ne' => ?_) ?_); (all_goals (try ((have off0' := off'); simp only [LCg.Off3, and_true] at off'))))))
local macro_rules | `(tactic| walk_at "CompEnd") => `(tactic| (k_here; k_dflt (refine' LCg.CompEnd.intro ?F ?N _ (fun _ h => h) ?off ?S ?_; (case F => k_asm); (case N => k_asm); (case off => assumption); (case S => exact trivial))))
local macro_rules | `(tactic| walk_at "CfDone") => `(tactic| (unfold CfDone; intro t'))
local macro_rules | `(tactic| walk_at "CfEl") => `(tactic| (refine ⟨rfl, ?_, _, rfl⟩; simp only [dayIs, decide_eq_true_eq, decide_eq_false_iff_not, fmod7] at *; first | assumption | omega))
local macro_rules | `(tactic| walk_at "CfNo") => `(tactic| (refine ⟨rfl, ?_⟩; simp only [dayIs, decide_eq_true_eq, decide_eq_false_iff_not, fmod7] at *; first | assumption | omega))

theorem night_H {k : Int} (hk : k.natAbs ≤ 2 ^ 50) : IsH (Float64.sub (Float64.ofInt k) 4602678819172646912) (2 * k - 1) := (isH_ofInt (by omega)).sub isH_half (by omega)

theorem law_only_c {w : World} {p : Program} {loose : List Str} {mean : ExcName → Option Value} {mg mb : Str → Option Value} {d low high n : Int} {t t₁ t₂ t₃ : Tok} (hn : n.natAbs ≤ 2 ^ 36) (hd0 : 0 ≤ d) (hd6 : d ≤ 6) (hl : low.natAbs ≤ 7) (hh : high = low + 6) :
    PureN w p loose mean mg mb 482 2 [.int d t, .int low t₁, .int high t₂, .int n t₃] (fun v => ∃ y t, v = .float y t ∧ IsH y (2 * ((n + high) - (n + high - d) % 7) - 1)) := by
  refine fillOf (w := w) ?_
  k_fill
  intro _
  intro dp un gd cn cs a ccd cl outer A₀ base h₀ L m news s Q E B F X N T hkk hdp hun hret
  have hm : DayMark d := ⟨hd0, hd6⟩
  refine wpAny_call ?_
  k_dflt (refine' code_defC (binds := [(Str.ofString "day", Value.int d t), (Str.ofString "low", Value.int low t₁), (Str.ofString "high", Value.int high t₂), (Str.ofString "number", Value.int n t₃)]) ?k1 ?k2 ?k3 ?k4 ?k5 ?kA ?kF ?kK ?k6 ?k7 ?k8 ?k9 ?kB ?kD ?_ ?c2 ?c3 ?c4; (case kA => exact rfl); (case kF => exact rfl); (case kK => assumption); (case k1 => k_asm); (case k2 => k_asm); (case k3 => k_asm); (case k4 => k_asm); (case k5 => k_asm); (case k6 => k_is); (case k7 => k_is); (case k8 => ktr_room); (case k9 => exact BindsTo.of_eq rfl); (case kB => exact rfl); (case kD => decide +kernel); (case c2 => exact rfl); (case c3 => exact rfl); (case c4 => exact rfl); k_whole; intro g' L' h' tk' cells' FG' F' N' Y' B' X' T' l1; (try k_lt l1); k_cells Y'; (try simp only [List.cons_append, List.nil_append] at N'); (try dsimp only); (try k_lift B'); (try k_fold))
  k_steps
  all_goals (refine hret _ _ _ (by k_asm) (cb_drop (by k_asm) (fun _ hp => .tail _ (.tail _ hp))) ⟨_, _, rfl, ?_⟩; rw [show n + high - (n + high - d) % 7 = n + low + 6 - (n + low + 6 - d) % 7 by subst hh; rw [Int.add_assoc n low 6]]; exact night_H (by omega))
end Mine

theorem Mine.anewC3 : True ∧ True := by
  w_top off
  first | (walk1; done) | exact ⟨trivial, trivial⟩

-- C3
namespace Mine
open PySem.Calls

local macro_rules | `(tactic| walk_at "call ref") => `(tactic| (k_here; (with_reducible show wpAny _ _ (PySem.call (Value.ref 108) [Value.int _ _, Value.float _ _]) _ _ _); k_dflt (refine' Pure.use (previous_weekday_c ?hx ?hn ?h0 ?h6) ?k1 ?k2 ?k3 ?k4 ?k5 ?kK ?kd ?ku ?_; (case hx => assumption); (case hn => omega); (case h0 => assumption); (case h6 => assumption); (case k1 => k_asm); (case k2 => k_asm); (case k3 => k_asm); (case k4 => k_asm); (case k5 => k_asm); (case kK => first | exact rfl | assumption); (case kd => first | omega | ktr_room); (case ku => first | omega | ktr_units); k_whole; intro r' h' tk' F' N' hG'; obtain ⟨y', t', hr', hy'⟩ := hG'; subst hr'; (try dsimp only); (try k_sweep); (try k_fold))))

local macro_rules | `(tactic| walk_at "call ref") => `(tactic| (k_here; (with_reducible show wpAny _ _ (PySem.call (Value.ref 94) [Value.int _ _, Value.float _ _]) _ _ _); k_dflt (refine' Pure.use (next_weekday_c ?hx ?hn ?h0 ?h6) ?k1 ?k2 ?k3 ?k4 ?k5 ?kK ?kd ?ku ?_; (case hx => assumption); (case hn => omega); (case h0 => assumption); (case h6 => assumption); (case k1 => k_asm); (case k2 => k_asm); (case k3 => k_asm); (case k4 => k_asm); (case k5 => k_asm); (case kK => first | exact rfl | assumption); (case kd => first | omega | ktr_room); (case ku => first | omega | ktr_units); k_whole; intro r' h' tk' F' N' hG'; obtain ⟨y', t', hr', hy'⟩ := hG'; subst hr'; (try dsimp only); (try k_sweep); (try k_fold))))

theorem nw_end {y : UInt64} {e k : Int} (hy : IsH y (2 * e - 1)) (hk : k.natAbs ≤ 2 ^ 40) (he : e.natAbs ≤ 2 ^ 40) : IsH (Float64.add (Float64.ofInt (7 * k)) y) (2 * (e + 7 * k) - 1) := by
  have h := (isH_ofInt (i := 7 * k) (by omega)).add hy (by omega)
  rwa [show 2 * (7 * k) + (2 * e - 1) = 2 * (e + 7 * k) - 1 by omega] at h

theorem n_weeks_p_c {w : World} {p : Program} {loose : List Str} {mean : ExcName → Option Value} {mg mb : Str → Option Value} {x : UInt64} {t t' t₂ : Tok} {n d k : Int} (hx : IsH x (2 * n - 1)) (hn : n.natAbs ≤ 2 ^ 36) (hk : k.natAbs ≤ 2 ^ 36) (hks : 0 < k) (hd0 : 0 ≤ d) (hd6 : d ≤ 6) :
    Pure w p loose mean mg mb 122 5 [.int d t', .float x t, .int k t₂] (fun _ _ v => ∃ y t, v = .float y t ∧ IsH y (2 * (((n + -1) - (n + -1 - d) % 7) + 7 * k) - 1)) := by
  refine fillOf (w := w) ?_
  k_fill
  intro _
  k_dflt (refine' pure_def (K := Mine.hd.heap_39 w.params) (binds := [(PySem.Str.ofString "weekday", .int d t'), (PySem.Str.ofString "jd", .float x t), (PySem.Str.ofString "nthweek", .int k t₂)]) rfl ?k6 ?k7 ?k9 ?kB ?_ ?c1 ?c2 ?c3 ?c4 ?c5; (case k6 => k_is); (case k7 => k_is); (case k9 => intro s; exact BindsTo.of_eq rfl); (case c5 => decide); (case kB => exact locs rfl); (case c1 => decide); (case c2 => exact rfl); (case c3 => exact rfl); (case c4 => exact rfl); k_whole; intro s dp un gd outer A₀ base g L' h' tk F' N' B' X' T' hkeep hdp hun; (try dsimp only); (try k_fold))
  k_steps
  all_goals first
    | (exfalso; omega)
    | exact ⟨⟨_, _, by k_asm⟩, ⟨_, _, rfl⟩, _, _, rfl, nw_end (by assumption) (by omega) (by omega)⟩

theorem n_weeks_m_c {w : World} {p : Program} {loose : List Str} {mean : ExcName → Option Value} {mg mb : Str → Option Value} {x : UInt64} {t t' t₂ : Tok} {n d k : Int} (hx : IsH x (2 * n - 1)) (hn : n.natAbs ≤ 2 ^ 36) (hk : k.natAbs ≤ 2 ^ 36) (hks : k < 0) (hd0 : 0 ≤ d) (hd6 : d ≤ 6) :
    Pure w p loose mean mg mb 122 5 [.int d t', .float x t, .int k t₂] (fun _ _ v => ∃ y t, v = .float y t ∧ IsH y (2 * (((n + 7) - (n + 7 - d) % 7) + 7 * k) - 1)) := by
  refine fillOf (w := w) ?_
  k_fill
  intro _
  k_dflt (refine' pure_def (K := Mine.hd.heap_39 w.params) (binds := [(PySem.Str.ofString "weekday", .int d t'), (PySem.Str.ofString "jd", .float x t), (PySem.Str.ofString "nthweek", .int k t₂)]) rfl ?k6 ?k7 ?k9 ?kB ?_ ?c1 ?c2 ?c3 ?c4 ?c5; (case k6 => k_is); (case k7 => k_is); (case k9 => intro s; exact BindsTo.of_eq rfl); (case c5 => decide); (case kB => exact locs rfl); (case c1 => decide); (case c2 => exact rfl); (case c3 => exact rfl); (case c4 => exact rfl); k_whole; intro s dp un gd outer A₀ base g L' h' tk F' N' B' X' T' hkeep hdp hun; (try dsimp only); (try k_fold))
  k_steps
  all_goals first
    | (exfalso; omega)
    | exact ⟨⟨_, _, by k_asm⟩, ⟨_, _, rfl⟩, _, _, rfl, nw_end (by assumption) (by omega) (by omega)⟩

def lawFirst (y : Int) : Int := 2451545 + 146097 * ((y - 2000) / 400) + 365 * ((y - 2000) % 400) + ((y - 2000) % 400 + 3) / 4 - max 0 ((y - 2000) % 400 - 1) / 100
theorem fdivp (a : Int) {b : Int} (h : 0 ≤ b) : a.fdiv b = a / b := Int.fdiv_eq_ediv_of_nonneg a h
theorem fmodp (a : Int) {b : Int} (h : 0 ≤ b) : a.fmod b = a % b := Int.fmod_eq_emod_of_nonneg a h
theorem first_eq (y : Int) : 2451545 + 146097 * (y - 2000).fdiv 400 + 365 * (y - 2000).fmod 400 + ((y - 2000).fmod 400 + 3).fdiv 4 - (if (y - 2000).fmod 400 - 1 > 0 then (y - 2000).fmod 400 - 1 else 0).fdiv 100 = lawFirst y := by
  unfold lawFirst
  rw [fdivp _ (by decide), fmodp _ (by decide), fdivp _ (by decide), fdivp _ (by decide)]
  congr 2
  split <;> omega

theorem law_first_c {w : World} {p : Program} {loose : List Str} {mean : ExcName → Option Value} {mg mb : Str → Option Value} {t : Tok} {y : Int} (hy : y.natAbs ≤ 2 ^ 30) :
    Pure w p loose mean mg mb 477 2 [.int y t] (fun _ _ v => ∃ t, v = .int (lawFirst y) t) := by
  refine fillOf (w := w) ?_
  k_fill
  intro _
  k_dflt (refine' pure_def (K := Mine.hd.heap_39 w.params) (binds := [(PySem.Str.ofString "year", .int y t)]) rfl ?k6 ?k7 ?k9 ?kB ?_ ?c1 ?c2 ?c3 ?c4 ?c5; (case k6 => k_is); (case k7 => k_is); (case k9 => intro s; exact BindsTo.of_eq rfl); (case c5 => decide); (case kB => exact locs rfl); (case c1 => decide); (case c2 => exact rfl); (case c3 => exact rfl); (case c4 => exact rfl); k_whole; intro s dp un gd outer A₀ base g L' h' tk F' N' B' X' T' hkeep hdp hun; (try dsimp only); (try k_fold))
  k_steps
  all_goals (rw [first_eq]; exact ⟨⟨_, _, by k_asm⟩, ⟨_, _, rfl⟩, _, rfl⟩)
end Mine

theorem Mine.anewD1 : True ∧ True := by
  w_top off
  first | (walk1; done) | exact ⟨trivial, trivial⟩

-- D1
namespace Mine
open PySem.Calls
open PySem.Builtin._datetime

theorem sub_date : isSubtype (.type "datetime.date") (.type "datetime.date") = pure true := by rw [isSubtype_type]; kernel_rfl
theorem sub_datetime : isSubtype (.type "datetime.date") (.type "datetime.datetime") = pure false := by rw [isSubtype_type]; kernel_rfl
theorem isType_date : isType (.type "datetime.date") = pure true := by kernel_rfl
theorem mro_date : mroOf (.type "datetime.date") = pure [.type "datetime.date", .type "object"] := by rw [mroOf_type]; kernel_rfl
theorem lookup_date_new : typeLookup (.type "datetime.date") "__new__" = pure (some (.builtin "datetime.date.__new__")) := by rw [typeLookup_type, builtinLookup_eq_fast]; kernel_rfl
theorem slot_date_init : Slot "datetime.date" "__init__" "object.__init__" :=
  .of (owner := "object") (n := "__init__") (by rw [typeLookup_type, builtinLookup_eq_fast]; kernel_rfl) (by decide +kernel) (by decide +kernel) (by decide +kernel)
    (by first | exact .inl (by decide +kernel) | exact .inr (by decide +kernel)) (by rw [isSubtype_type]; kernel_rfl)
theorem called_date : TypeCalled "datetime.date" "datetime.date.__new__" "object.__init__" :=
  ⟨by decide +kernel, by decide +kernel, ⟨_, _, mro_date⟩, madeBy_type mro_date lookup_date_new (by decide +kernel), by decide +kernel, sub_date, slot_date_init⟩
theorem typeCall_date_3 (a b c : Value) : checkTypeCall "datetime.date" ⟨[a, b, c], []⟩ = pure () := by kernel_rfl
theorem newCall_date_3 (a b c : Value) : checkBuiltinCall "datetime.date.__new__" ⟨[.type "datetime.date", a, b, c], []⟩ = pure () := by kernel_rfl
theorem entry_date_new : entryFor table "datetime.date.__new__" = some Builtin.«datetime.date.__new__» := entryFor_of_tree (by kernel_rfl)
theorem initArgs_date_3 (obj a b c : Value) : argsOk "object.__init__" ⟨[obj, a, b, c], []⟩ := by
  unfold argsOk; rw [signature?_of (id := "object.__init__") (n := ['_', '_', 't', 'i', 'n', 'i', '_', '_']) (o := ['t', 'c', 'e', 'j', 'b', 'o']) (by kernel_rfl) F.owner_object]; kernel_rfl

theorem dim_ge (y m : Int) (hm1 : 1 ≤ m) (hm2 : m ≤ 12) : 1 ≤ daysInMonth y m := by
  unfold daysInMonth
  split
  · decide
  · have h : m = 1 ∨ m = 2 ∨ m = 3 ∨ m = 4 ∨ m = 5 ∨ m = 6 ∨ m = 7 ∨ m = 8 ∨ m = 9 ∨ m = 10 ∨ m = 11 ∨ m = 12 := by omega
    rcases h with h | h | h | h | h | h | h | h | h | h | h | h <;> subst h <;> decide
theorem long_ok {y : Int} (h1 : -(2 ^ 30) ≤ y) (h2 : y ≤ 2 ^ 30) : (decide (y ≥ 2 ^ 63) || decide (y < -2 ^ 63)) = false := by
  have a : ¬ y ≥ 2 ^ 63 := by omega
  have b : ¬ y < -2 ^ 63 := by omega
  simp only [a, b, decide_false, Bool.or_false]
theorem pair_ok {y a b : Int} (h1 : a ≤ y) (h2 : y ≤ b) : (decide (y < a) || decide (y > b)) = false := by
  have a : ¬ y < a := by omega
  have b : ¬ y > b := by omega
  simp only [a, b, decide_false, Bool.or_false]

theorem iteF {M : Model} {A : Around} {E : Value → Shared → Prop} {s : Shared} {α : Type} {c : Bool} {a b : Sem α} {Q : α → Shared → Prop} (hc : c = false) (h : wpAny M A b Q E s) : wpAny M A (if c = true then a else b) Q E s := by
  subst hc; exact h
theorem iteN {M : Model} {A : Around} {E : Value → Shared → Prop} {s : Shared} {α : Type} {c : Prop} [Decidable c] {a b : Sem α} {Q : α → Shared → Prop} (hc : ¬ c) (h : wpAny M A b Q E s) : wpAny M A (if c then a else b) Q E s := by
  rw [if_neg hc]; exact h

theorem cint_ok {M : Model} {A : Around} {E : Value → Shared → Prop} {s : Shared} {y : Int} {t : Tok} {Q : Int → Shared → Prop} (h1 : -(2 ^ 30) ≤ y) (h2 : y ≤ 2 ^ 30) (h : Q y s) : wpAny M A (dtCInt (.int y t)) Q E s := by
  have a1 := long_ok h1 h2
  have a2 : ¬ y ≥ 2 ^ 31 := by omega
  have a3 : ¬ y < -2 ^ 31 := by omega
  wp_walk using (iteF a1), (iteN a2), (iteN a3)
  exact h
theorem bind_ok {M : Model} {A : Around} {E : Value → Shared → Prop} {s : Shared} {a b c : Value} {Q : List (Option Value) → Shared → Prop} (h : ∀ l, Q l s) : wpAny M A (dtBind "datetime.date.__new__" "function" ["year", "month", "day"] 0 [a, b, c] []) Q E s := by
  wp_walk
  exact h _
theorem bindInts_ok {M : Model} {A : Around} {E : Value → Shared → Prop} {s : Shared} {y m d : Int} {t u v : Tok} {Q : List (Option Int) → Shared → Prop} (h1 : -(2 ^ 30) ≤ y) (h2 : y ≤ 2 ^ 30) (h3 : -(2 ^ 30) ≤ m) (h4 : m ≤ 2 ^ 30) (h5 : -(2 ^ 30) ≤ d) (h6 : d ≤ 2 ^ 30)
    (h : Q [some y, some m, some d] s) : wpAny M A (dtBindInts "datetime.date.__new__" "function" ["year", "month", "day"] 3 [.int y t, .int m u, .int d v] []) Q E s := by
  wp_walk using (cint_ok h1 h2), (cint_ok h3 h4), (cint_ok h5 h6), bind_ok
  intro l
  wp_walk
  exact h

theorem date_new (y m : Int) (t u v : Tok) (hy1 : 1 ≤ y) (hy2 : y ≤ 9999) (hm1 : 1 ≤ m) (hm2 : m ≤ 12) :
    Meets (Builtin.«datetime.date.__new__» ⟨[.type "datetime.date", .int y t, .int m u, .int 1 v], []⟩) (fun _ R s => R (.ok (.ret (Value.ref s.heap.objs.size))) { s with heap := s.heap.push { cls := Value.type "datetime.date", data := Data.fields #[rawInt y, rawInt m, rawInt 1] } }) :=
  .of_wp fun prog w A R s h => by
    obtain ⟨hp, g, d, tk, os⟩ := s
    have h1 := sub_date
    have h2 := sub_datetime
    have h3 := isType_date
    have c1 := pair_ok hy1 hy2
    have c2 := pair_ok hm1 hm2
    have c3 := pair_ok (Int.le_refl 1) (dim_ge y m hm1 hm2)
    wp_walk using (bindInts_ok (by omega) (by omega) (by omega) (by omega) (by omega) (by omega)), (iteF c1), (iteF c2), (iteF c3)
    exact ⟨_, rfl, h⟩
end Mine

theorem Mine.anewD2 : True ∧ True := by
  w_top off
  first | (walk1; done) | exact ⟨trivial, trivial⟩

-- D2
namespace Mine
open PySem.Calls
open PySem.Builtin._datetime

theorem call_date {prog : Program} {w : World} {A : Around} {E : Value → Shared → Prop} {s : Shared} {y m : Int} {t u v : Tok} {Q : Value → Shared → Prop} (hy1 : 1 ≤ y) (hy2 : y ≤ 9999) (hm1 : 1 ≤ m) (hm2 : m ≤ 12)
    (h : Q (.ref s.heap.objs.size) { s with heap := s.heap.push { cls := .type "datetime.date", data := .fields #[rawInt y, rawInt m, rawInt 1] } }) :
    wpAny (model prog w) A (call (.type "datetime.date") [.int y t, .int m u, .int 1 v]) Q E s :=
  callType_new called_date (by decide) (typeCall_date_3 _ _ _) (newCall_date_3 _ _ _) (fun obj => initArgs_date_3 obj _ _ _) entry_date_new
    (date_new y m t u v hy1 hy2 hm1 hm2) ⟨⟨_, Heap.get?_push_size _ rfl, rfl⟩, h⟩

theorem plainAttrs_date : PlainAttrs "datetime.date" where
  ga := ⟨"object.__getattribute__", by rw [typeLookup_type, builtinLookup_eq_fast]; kernel_rfl, by decide +kernel⟩
  noGetattr := by rw [typeLookup_type, builtinLookup_eq_fast]; kernel_rfl
theorem slot_date_weekday : Slot "datetime.date" "weekday" "datetime.date.weekday" :=
  .of (owner := "datetime.date") (n := "weekday") (by rw [typeLookup_type, builtinLookup_eq_fast]; kernel_rfl) (by decide +kernel) (by decide +kernel) (by decide +kernel)
    (by first | exact .inl (by decide +kernel) | exact .inr (by decide +kernel)) sub_date
theorem type_date_weekday : typeOf (.builtin "datetime.date.weekday") = pure (.type "method_descriptor") := by show builtinType _ = _; rw [builtinType_eq_fast]; kernel_rfl
theorem entry_date_weekday : entryFor table "datetime.date.weekday" = some Builtin.«datetime.date.weekday» := entryFor_of_tree (by kernel_rfl)
theorem args_date_weekday (a : Value) : argsOk "datetime.date.weekday" ⟨[a], []⟩ := by unfold argsOk; kernel_rfl

theorem date_weekday (x : Addr) (y m d : Int) :
    Meets (Builtin.«datetime.date.weekday» ⟨[.ref x], []⟩) (fun _ R s => s.heap.get? x = some { cls := .type "datetime.date", dict := none, data := .fields #[rawInt y, rawInt m, rawInt d], slots := #[] } ∧ R (.ok (.ret (Value.int (weekdayOf (toOrdinal y m d)) s.toks))) { s with toks := s.toks + 1 }) :=
  .of_wp fun prog w A R s h => by
    obtain ⟨hp, g, dr, tk, os⟩ := s
    obtain ⟨hl, h⟩ := h
    have hT : ({ heap := hp, gens := g, drawn := dr, toks := tk, os := os } : Shared).TypeIs (.ref x) "datetime.date" := ⟨_, hl, rfl⟩
    have h1 := sub_date
    wp_walk
    exact ⟨_, rfl, h⟩

theorem getMethod_weekday {M : Model} {A : Around} {E : Value → Shared → Prop} {s : Shared} {x : Addr} {y m d : Int} {pl : Sem Bool} {Q : Value × List Value → Shared → Prop} (ho : s.heap.get? x = some { cls := .type "datetime.date", data := .fields #[rawInt y, rawInt m, rawInt d] })
    (h : Q (.builtin "datetime.date.weekday", [.ref x]) s) : wpAny M A (getMethod (.ref x) "weekday" pl) Q E s :=
  getMethod_builtin ⟨_, ho, rfl⟩ plainAttrs_date slot_date_weekday type_date_weekday (fun a e => by cases e; exact ⟨_, ho, rfl⟩) h
theorem call_weekday {prog : Program} {w : World} {A : Around} {E : Value → Shared → Prop} {s : Shared} {x : Addr} {y m d : Int} {Q : Value → Shared → Prop} (ho : s.heap.get? x = some { cls := .type "datetime.date", data := .fields #[rawInt y, rawInt m, rawInt d] })
    (h : Q (.int (weekdayOf (toOrdinal y m d)) s.toks) { s with toks := s.toks + 1 }) : wpAny (model prog w) A (call (.builtin "datetime.date.weekday") [.ref x]) Q E s :=
  call_meets slot_date_weekday ⟨_, ho, rfl⟩ entry_date_weekday (args_date_weekday _) (date_weekday x y m d) ⟨ho, h⟩
end Mine

theorem Mine.anewE1 : True ∧ True := by
  w_top off
  first | (walk1; done) | exact ⟨trivial, trivial⟩

-- E1
namespace Mine
open PySem.Calls
section
variable {prog : Program} {w : World} {A : Around} {E : Value → Shared → Prop} {s : Shared}

theorem int_sub_ref (d n : Int) (t tk : Tok) (x dx : Addr) (C : Addr) :
    Meets (Builtin.«int.__sub__» ⟨[.int d t, .ref x], []⟩) (fun _ R s => s.heap.get? x = some { cls := .ref C, dict := some dx, data := .prim (.int n tk), slots := #[] } ∧ R (.ok (.ret (.int (d - n) s.toks))) { s with toks := s.toks + 1 }) :=
  .of_wp fun prog w A R s h => by
    obtain ⟨hp, g, dr, tk, os⟩ := s
    obtain ⟨hl, h⟩ := h
    wp_walk
    exact ⟨_, rfl, h⟩

theorem sub_day {X C dx : Addr} {d n : Int} {t tk : Tok} {Q : Value → Shared → Prop} (ho : s.heap.get? X = some { cls := .ref C, dict := some dx, data := .prim (.int n tk), slots := #[] })
    (k1 : Looks (model prog w) s.heap (fillsNumberSlot (.ref C) "sub") true) (k2 : Looks (model prog w) s.heap (isSubtype (.ref C) (.type "int")) true) (k3 : Looks (model prog w) s.heap (reflectedDiffers (.type "int") (.ref C) "sub") false)
    (k4 : Looks (model prog w) s.heap (fillsNumberSlot (.type "int") "sub") true) (k5 : Looks (model prog w) s.heap (numberSlotInPython (.type "int") "sub") false)
    (hQ : Q (.int (d - n) s.toks) { s with toks := s.toks + 1 }) : wpAny (model prog w) A (binaryOp .Sub (.int d t) (.ref X)) Q E s := by
  have T : Looks (model prog w) s.heap (typeOf (.ref X)) (.ref C) := (Looks.ld ho).andThen .now
  unfold binaryOp
  refine wpAny_holding (wpAny_bind ?_)
  show wpAny _ _ (binaryOp1 "sub" (.int d t) (.ref X)) _ _ _
  unfold binaryOp1
  refine wpAny_bind (wpAny_pure (wpAny_bind (T.here ?_)))
  refine wpAny_bind (k4.here ?_)
  refine wpAny_bind ?_
  show wpAny _ _ (if (Value.type "int" == Value.ref C) = true then pure false else fillsNumberSlot (.ref C) "sub") _ _ _
  rw [if_neg (by simp)]
  refine k1.here ?_
  refine wpAny_bind (k2.here ?_)
  refine wpAny_bind (k3.here ?_)
  refine wpAny_bind (k5.here ?_)
  show wpAny _ _ (tryMethod (.int d t) (PySem.dunder "sub") (.ref X) >>= _) _ _ _
  refine wpAny_bind ?_
  with_reducible refine wpAny_tryMethod_slot (typeIs_int s d t) F.slot_int_sub ?_
  refine call_meets F.slot_int_sub (typeIs_int s d t) F.entry_int_sub (F.args_int_sub_2 _ _) (int_sub_ref d n t tk X dx C) ?_
  exact ⟨ho, (fun e => by cases e), wpAny_pure (wpAny_pure hQ)⟩

theorem call_look {id : String} {B : Builtin} {args : List Value} {S : PySem.Spec} {Q : Value → Shared → Prop} (plain : plainId id = true) (entry : entryFor table id = some B)
    (k : Looks (model prog w) s.heap (checkBuiltinCall id ⟨args, []⟩) ()) (g : Meets (B ⟨args, []⟩) S) (h : S A (wants Q E) s) : wpAny (model prog w) A (call (.builtin id) args) Q E s :=
  wpAny_call (codeAny_call_builtin plain entry (k.here (g prog w A (wants Q E) s h)))

theorem int_eq_ref (m n : Int) (t tk : Tok) (x dx : Addr) (C : Addr) :
    Meets (Builtin.«int.__eq__» ⟨[.ref x, .int m t], []⟩) (fun _ R s => s.heap.get? x = some { cls := .ref C, dict := some dx, data := .prim (.int n tk), slots := #[] } ∧ R (.ok (.ret (.bool (n == m)))) s) :=
  .of_wp fun prog w A R s h => by
    obtain ⟨hp, g, dr, tk, os⟩ := s
    obtain ⟨hl, h⟩ := h
    wp_walk
    exact ⟨_, rfl, h⟩

theorem eq_ref {X C dx : Addr} {m n : Int} {t tk : Tok} {Q : Value → Shared → Prop} (ho : s.heap.get? X = some { cls := .ref C, dict := some dx, data := .prim (.int n tk), slots := #[] })
    (k1 : Looks (model prog w) s.heap (isSubtype (.ref C) (.type "int")) true) (k2 : Looks (model prog w) s.heap (typeLookup (.ref C) "__eq__") (some (.builtin "int.__eq__")))
    (k3 : Looks (model prog w) s.heap (checkBuiltinCall "int.__eq__" ⟨[.ref X, .int m t], []⟩) ()) (hu : A.units < cLine)
    (hQ : Q (.bool (n == m)) s) : wpAny (model prog w) A (compareOp .Eq (.int m t) (.ref X)) Q E s := by
  have T : Looks (model prog w) s.heap (typeOf (.ref X)) (.ref C) := (Looks.ld ho).andThen .now
  refine cmp_ofEq ?_
  have one : wpAny (model prog w) A (tryCompare (.ref X) "__eq__" (.int m t)) (fun r s' => ∃ v, r = some v ∧ Q v s') E s := by
    unfold tryCompare callSpecialIfBound? bindSpecialIfBound?
    refine wpAny_bind (wpAny_holding (wpAny_bind (wpAny_bind (wpAny_bind (T.here (k2.here ?_))))))
    refine wpAny_bind (wpAny_askSetting (wpAny_ite ?_))
    have fin : wpAny (model prog w) A (call (.builtin "int.__eq__") [.ref X, .int m t] >>= fun v => pure (some v)) (fun r s' => wpAny (model prog w) A (match r with | some .notImplemented | none => pure none | some v => pure (some v)) (fun r s' => ∃ v, r = some v ∧ Q v s') E s') E s := by
      refine wpAny_bind (call_look F.slot_int_eq.plain F.entry_int_eq k3 (int_eq_ref m n t tk X dx C) ⟨ho, ?_⟩)
      exact wpAny_pure (wpAny_pure ⟨_, rfl, hQ⟩)
    split
    · exact wpAny_bind (wpAny_pure (wpAny_pure fin))
    · exact wpAny_tryCatch (wpAny_bind (wpAny_pure (wpAny_pure fin)))
  unfold richCompare
  have h0 : oneThing? .Eq (.int m t) (.ref X) = none := rfl
  simp only [h0]
  refine wpAny_holding ?_
  refine wpAny_bind ?_
  refine wpAny_cRoomFor hu ?_
  show wpAny _ _ (typeOf (.int m t) >>= _) _ _ _
  refine wpAny_bind (wpAny_pure ?_)
  refine wpAny_bind ?_
  refine T.here ?_
  refine wpAny_bind ?_
  show wpAny _ _ (if (Value.type "int" != Value.ref C) = true then isSubtype (.ref C) (.type "int") else pure false) _ _ _
  rw [if_pos (by simp)]
  refine k1.here ?_
  show wpAny _ _ (tryCompare (.ref X) "__eq__" (.int m t) >>= _) _ _ _
  refine wpAny_bind (wpAny_mono one (fun r s' z => ?_) fun _ _ e => e)
  obtain ⟨v, rfl, hq⟩ := z
  exact wpAny_bind (wpAny_rule (wpAny_pure hq))
end
end Mine

theorem Mine.anewE2 : True ∧ True := by
  w_top off
  first | (walk1; done) | exact ⟨trivial, trivial⟩

-- E2
namespace Mine
open PySem.Calls
open PySem.Builtin._datetime

def DayRef (w : World) (x : Addr) (n : Int) : Prop := ∃ dx tk, ∀ h, (Mine.hd.heap_39 w.params).In h → h.get? x = some { cls := .ref 363, dict := some dx, data := .prim (.int n tk), slots := #[] }

section
variable {prog : Program} {w : World} {A : Around} {E : Value → Shared → Prop} {s : Shared} {h₀ : Heap} {L : Addr} {m : Str → Option Value} {news : List (Addr × Obj)}

theorem fills_ref {h : Heap} (X : (Mine.hd.heap_39 w.params).In h) : Looks (model prog w) h (fillsNumberSlot (.ref 363) "sub") true := Looks.of_peek X (by kernel_rfl)
theorem refl_ref {h : Heap} (X : (Mine.hd.heap_39 w.params).In h) : Looks (model prog w) h (reflectedDiffers (.type "int") (.ref 363) "sub") false := Looks.of_peek X (by kernel_rfl)
theorem fills_int {h : Heap} (X : (Mine.hd.heap_39 w.params).In h) : Looks (model prog w) h (fillsNumberSlot (.type "int") "sub") true := Looks.of_peek X (by kernel_rfl)
theorem nsip_int {h : Heap} (X : (Mine.hd.heap_39 w.params).In h) : Looks (model prog w) h (numberSlotInPython (.type "int") "sub") false := Looks.of_peek X (by kernel_rfl)
theorem sub_ref {h : Heap} (X : (Mine.hd.heap_39 w.params).In h) : Looks (model prog w) h (isSubtype (.ref 363) (.type "int")) true := Looks.of_peek X (by kernel_rfl)
theorem sub_month {h : Heap} (X : (Mine.hd.heap_39 w.params).In h) : Looks (model prog w) h (isSubtype (.ref 253) (.type "int")) true := Looks.of_peek X (by kernel_rfl)
theorem eq_month {h : Heap} (X : (Mine.hd.heap_39 w.params).In h) : Looks (model prog w) h (typeLookup (.ref 253) "__eq__") (some (.builtin "int.__eq__")) := Looks.of_peek X (by kernel_rfl)
theorem chk_month {h : Heap} {m : Int} {t : Tok} (X : (Mine.hd.heap_39 w.params).In h) : Looks (model prog w) h (checkBuiltinCall "int.__eq__" ⟨[.ref 382, .int m t], []⟩) () := Looks.of_peek X (by kernel_rfl)

theorem sub_dayref {x : Addr} {d n : Int} {t : Tok} {Q : Value → Shared → Prop} (F : Fr h₀ L s.heap m) (X₀ : (Mine.hd.heap_39 w.params).In h₀) (hx : DayRef w x n) (hQ : Q (.int (d - n) s.toks) { s with toks := s.toks + 1 }) :
    wpAny (model prog w) A (binaryOp .Sub (.int d t) (.ref x)) Q E s := by
  have X := X₀.keeps F.keep
  obtain ⟨dx, tk, hx⟩ := hx
  exact sub_day (hx _ X) (fills_ref X) (sub_ref X) (refl_ref X) (fills_int X) (nsip_int X) hQ

theorem eq_february {k : Int} {t : Tok} {Q : Value → Shared → Prop} (F : Fr h₀ L s.heap m) (X₀ : (Mine.hd.heap_39 w.params).In h₀) (hu : A.units < cLine) (hQ : Q (.bool (2 == k)) s) :
    wpAny (model prog w) A (compareOp .Eq (.int k t) (.ref 382)) Q E s := by
  have X := X₀.keeps F.keep
  exact eq_ref (X 382 { cls := .ref 253, dict := some 381, data := .prim (.int 2 839), slots := #[] } (by kernel_rfl)) (sub_month X) (eq_month X) (chk_month X) hu hQ

theorem date_K {y k : Int} {t u v : Tok} {Q : Value → Shared → Prop} (F : Fr h₀ L s.heap m) (N : News h₀ L s.heap news) (hy1 : 1 ≤ y) (hy2 : y ≤ 9999) (hm1 : 1 ≤ k) (hm2 : k ≤ 12)
    (h : ∀ x h', Fr h₀ L h' m → News h₀ L h' ((x, { cls := .type "datetime.date", data := .fields #[rawInt y, rawInt k, rawInt 1] }) :: news) → Q (.ref x) { s with heap := h' }) :
    wpAny (model prog w) A (call (.type "datetime.date") [.int y t, .int k u, .int 1 v]) Q E s :=
  call_date hy1 hy2 hm1 hm2 (h _ _ (F.push _) (N.push F _))

theorem days_tuple : (Mine.hd.heap_39 w.params).lookup 434 = some ⟨.type "tuple", none, .seq [Value.ref 415, Value.ref 418, Value.ref 421, Value.ref 424, Value.ref 427, Value.ref 430, Value.ref 433].toArray 0, #[]⟩ := by kernel_rfl

theorem days_item {value slice : Expr} {k : Int} {u : Tok} {Q : Value → Shared → Prop} (F : Fr h₀ L s.heap m) (X₀ : (Mine.hd.heap_39 w.params).In h₀) (hk0 : 0 ≤ k) (hk6 : k ≤ 6) (h : ∀ x, DayRef w x k → Q (.ref x) s)
    (hs : subscripted slice false (.ref 434) (.int k u) = operate [.ref 434, .int k u] (getItem (.ref 434) (.int k u))) :
    wpAny (model prog w) A (subscriptTail value slice (.ref 434) (.int k u)) Q E s := by
  have hc : k = 0 ∨ k = 1 ∨ k = 2 ∨ k = 3 ∨ k = 4 ∨ k = 5 ∨ k = 6 := by omega
  rcases hc with e | e | e | e | e | e | e <;> subst e
  · exact topTup_K F X₀ days_tuple (by decide) (by decide) rfl rfl (h 415 ⟨414, 982, fun h X => X _ _ (by kernel_rfl)⟩) hs
  · exact topTup_K F X₀ days_tuple (by decide) (by decide) rfl rfl (h 418 ⟨417, 995, fun h X => X _ _ (by kernel_rfl)⟩) hs
  · exact topTup_K F X₀ days_tuple (by decide) (by decide) rfl rfl (h 421 ⟨420, 1008, fun h X => X _ _ (by kernel_rfl)⟩) hs
  · exact topTup_K F X₀ days_tuple (by decide) (by decide) rfl rfl (h 424 ⟨423, 1021, fun h X => X _ _ (by kernel_rfl)⟩) hs
  · exact topTup_K F X₀ days_tuple (by decide) (by decide) rfl rfl (h 427 ⟨426, 1034, fun h X => X _ _ (by kernel_rfl)⟩) hs
  · exact topTup_K F X₀ days_tuple (by decide) (by decide) rfl rfl (h 430 ⟨429, 1047, fun h X => X _ _ (by kernel_rfl)⟩) hs
  · exact topTup_K F X₀ days_tuple (by decide) (by decide) rfl rfl (h 433 ⟨432, 1060, fun h X => X _ _ (by kernel_rfl)⟩) hs
end
end Mine

theorem Mine.anewC4 : True ∧ True := by
  w_top off
  first | (walk1; done) | exact ⟨trivial, trivial⟩

-- C4
namespace Mine
open PySem.Calls
open PySem.Builtin._datetime

def leap (y : Int) : Bool := y % 4 == 0 && (y % 100 != 0 || y % 400 == 0)
theorem leap_0 {y : Int} (h : y.fmod 4 ≠ 0) : (y.fmod 4 == 0) = leap y := by
  rw [Int.fmod_eq_emod_of_nonneg _ (by decide)] at h ⊢
  unfold leap
  simp [h]
theorem leap_1 {y : Int} (h : y.fmod 4 = 0) (h2 : y.fmod 100 ≠ 0) : (y.fmod 100 != 0) = leap y := by
  rw [Int.fmod_eq_emod_of_nonneg _ (by decide)] at h h2 ⊢
  unfold leap
  simp [h, h2]
theorem leap_2 {y : Int} (h : y.fmod 4 = 0) (h2 : y.fmod 100 = 0) : (y.fmod 400 == 0) = leap y := by
  rw [Int.fmod_eq_emod_of_nonneg _ (by decide)] at h h2 ⊢
  unfold leap
  simp [h, h2]
theorem isleap_c {w : World} {p : Program} {loose : List Str} {mean : ExcName → Option Value} {mg mb : Str → Option Value} {t : Tok} {y : Int} (hy : y.natAbs ≤ 2 ^ 30) :
    Pure w p loose mean mg mb 442 1 [.int y t] (fun _ _ v => v = .bool (leap y)) := by
  refine fillOf (w := w) ?_
  k_fill
  intro _
  k_dflt (refine' pure_def (K := Mine.hd.heap_39 w.params) (binds := [(PySem.Str.ofString "year", .int y t)]) rfl ?k6 ?k7 ?k9 ?kB ?_ ?c1 ?c2 ?c3 ?c4 ?c5; (case k6 => k_is); (case k7 => k_is); (case k9 => intro s; exact BindsTo.of_eq rfl); (case c5 => decide); (case kB => exact locs rfl); (case c1 => decide); (case c2 => exact rfl); (case c3 => exact rfl); (case c4 => exact rfl); k_whole; intro s dp un gd outer A₀ base g L' h' tk F' N' B' X' T' hkeep hdp hun; (try dsimp only); (try k_fold))
  k_steps
  all_goals first
    | exact ⟨⟨_, _, by k_asm⟩, ⟨_, _, rfl⟩, congrArg Value.bool (leap_0 (by assumption))⟩
    | exact ⟨⟨_, _, by k_asm⟩, ⟨_, _, rfl⟩, congrArg Value.bool (leap_1 (by assumption) (by assumption))⟩
    | exact ⟨⟨_, _, by k_asm⟩, ⟨_, _, rfl⟩, congrArg Value.bool (leap_2 (by assumption) (by assumption))⟩

def yearIn (y : Int) : Int := if 1 ≤ y ∧ y ≤ 9999 then y else 2000 + y % 400
def wkd (y m : Int) : Int := weekdayOf (toOrdinal (yearIn y) m 1)
theorem wkd_in (y m : Int) : 0 ≤ weekdayOf (toOrdinal y m 1) ∧ weekdayOf (toOrdinal y m 1) ≤ 6 := by
  unfold weekdayOf; omega
theorem yearIn_1 {y : Int} (h1 : 1 ≤ y) (h2 : y ≤ 9999) : yearIn y = y := by unfold yearIn; rw [if_pos ⟨h1, h2⟩]
theorem yearIn_2 {y : Int} (h1 : ¬ (1 ≤ y ∧ y ≤ 9999)) : yearIn y = 2000 + y.fmod 400 := by unfold yearIn; rw [if_neg h1, Int.fmod_eq_emod_of_nonneg _ (by decide)]
theorem fmod400 (y : Int) : 0 ≤ y.fmod 400 ∧ y.fmod 400 < 400 := by rw [Int.fmod_eq_emod_of_nonneg _ (by decide)]; omega

local macro_rules | `(tactic| walk_at "call type:datetime.date") => `(tactic| (k_here; k_dflt (refine' date_K ?F ?N ?h1 ?h2 ?h3 ?h4 ?_; (case F => k_asm); (case N => k_asm); (case h1 => first | assumption | omega); (case h2 => first | assumption | omega); (case h3 => assumption); (case h4 => assumption); k_whole; intro x' h' F' N'; (try k_sweep))))
local macro_rules | `(tactic| walk_at "getMethod ref") => `(tactic| (k_here; (with_reducible show wpAny _ _ (getMethod (Value.ref _) (Str.ofString "weekday") _) _ _ _); k_dflt (refine' getMethod_weekday ?h ?_; (case h => exact News.get (by k_asm) (by k_mem)); k_whole)))
local macro_rules | `(tactic| walk_at "call builtin:datetime.date.weekday") => `(tactic| (k_here; k_dflt (refine' call_weekday ?h ?_; (case h => exact News.get (by k_asm) (by k_mem)); k_whole)))
local macro_rules | `(tactic| walk_at "subscriptTail") => `(tactic| (k_here; (with_reducible show wpAny _ _ (subscriptTail _ _ (Value.ref 434) (Value.int _ _)) _ _ _); k_dflt (refine' days_item ?F ?X ?h0 ?h6 ?_ ?hs; (case F => k_asm); (case X => k_asm); (case h0 => exact (wkd_in _ _).1); (case h6 => exact (wkd_in _ _).2); (case hs => with_unfolding_all rfl); k_whole; intro x' hx')))

theorem weekday_c {w : World} {p : Program} {loose : List Str} {mean : ExcName → Option Value} {mg mb : Str → Option Value} {t t₂ t₃ : Tok} {y m : Int} (hy : y.natAbs ≤ 2 ^ 30) (hm1 : 1 ≤ m) (hm2 : m ≤ 12) :
    Pure w p loose mean mg mb 449 1 [.int y t, .int m t₂, .int 1 t₃] (fun _ _ v => ∃ x, v = .ref x ∧ DayRef w x (wkd y m)) := by
  have hf := fmod400 y
  refine fillOf (w := w) ?_
  k_fill
  intro _
  k_dflt (refine' pure_def (K := Mine.hd.heap_39 w.params) (binds := [(PySem.Str.ofString "year", .int y t), (PySem.Str.ofString "month", .int m t₂), (PySem.Str.ofString "day", .int 1 t₃)]) rfl ?k6 ?k7 ?k9 ?kB ?_ ?c1 ?c2 ?c3 ?c4 ?c5; (case k6 => k_is); (case k7 => k_is); (case k9 => intro s; exact BindsTo.of_eq rfl); (case c5 => decide); (case kB => exact locs rfl); (case c1 => decide); (case c2 => exact rfl); (case c3 => exact rfl); (case c4 => exact rfl); k_whole; intro s dp un gd outer A₀ base g L' h' tk F' N' B' X' T' hkeep hdp hun; (try dsimp only); (try k_fold))
  k_steps
  all_goals first
    | exact ⟨⟨_, _, by k_asm⟩, ⟨_, _, rfl⟩, _, rfl, by unfold wkd; rw [yearIn_1 (by assumption) (by assumption)]; assumption⟩
    | exact ⟨⟨_, _, by k_asm⟩, ⟨_, _, rfl⟩, _, rfl, by unfold wkd; rw [yearIn_2 (by omega)]; assumption⟩

local macro_rules | `(tactic| walk_at "call ref") => `(tactic| (k_here; (with_reducible show wpAny _ _ (PySem.call (Value.ref 449) [Value.int _ _, Value.int _ _, Value.int 1 _]) _ _ _); k_dflt (refine' Pure.use (weekday_c ?hx ?hn ?hm) ?k1 ?k2 ?k3 ?k4 ?k5 ?kK ?kd ?ku ?_; (case hx => omega); (case hn => omega); (case hm => omega); (case k1 => k_asm); (case k2 => k_asm); (case k3 => k_asm); (case k4 => k_asm); (case k5 => k_asm); (case kK => first | exact rfl | assumption); (case kd => first | omega | ktr_room); (case ku => first | omega | ktr_units); k_whole; intro r' h' tk' F' N' hG'; obtain ⟨x', hr', hx'⟩ := hG'; subst hr'; (try dsimp only); (try k_sweep); (try k_fold))))
local macro_rules | `(tactic| walk_at "call ref") => `(tactic| (k_here; (with_reducible show wpAny _ _ (PySem.call (Value.ref 442) [Value.int _ _]) _ _ _); k_dflt (refine' Pure.use (isleap_c ?hx) ?k1 ?k2 ?k3 ?k4 ?k5 ?kK ?kd ?ku ?_; (case hx => omega); (case k1 => k_asm); (case k2 => k_asm); (case k3 => k_asm); (case k4 => k_asm); (case k5 => k_asm); (case kK => first | exact rfl | assumption); (case kd => first | omega | ktr_room); (case ku => first | omega | ktr_units); k_whole; intro r' h' tk' F' N' hG'; subst hG'; (try dsimp only); (try k_sweep); (try k_fold))))

theorem validate_c {w : World} {p : Program} {loose : List Str} {mean : ExcName → Option Value} {mg mb : Str → Option Value} {t : Tok} {m : Int} (hm1 : 1 ≤ m) (hm2 : m ≤ 12) :
    Pure w p loose mean mg mb 456 1 [.int m t] (fun _ _ v => v = .none) := by
  refine fillOf (w := w) ?_
  k_fill
  intro _
  k_dflt (refine' pure_def (K := Mine.hd.heap_39 w.params) (binds := [(PySem.Str.ofString "month", .int m t)]) rfl ?k6 ?k7 ?k9 ?kB ?_ ?c1 ?c2 ?c3 ?c4 ?c5; (case k6 => k_is); (case k7 => k_is); (case k9 => intro s; exact BindsTo.of_eq rfl); (case c5 => decide); (case kB => exact locs rfl); (case c1 => decide); (case c2 => exact rfl); (case c3 => exact rfl); (case c4 => exact rfl); k_whole; intro s dp un gd outer A₀ base g L' h' tk F' N' B' X' T' hkeep hdp hun; (try dsimp only); (try k_fold))
  k_steps
  all_goals first
    | exact ⟨⟨_, _, by k_asm⟩, ⟨_, _, rfl⟩, rfl⟩
    | (exfalso; omega)
local macro_rules | `(tactic| walk_at "call ref") => `(tactic| (k_here; (with_reducible show wpAny _ _ (PySem.call (Value.ref 456) [Value.int _ _]) _ _ _); k_dflt (refine' Pure.use (validate_c ?hx ?hn) ?k1 ?k2 ?k3 ?k4 ?k5 ?kK ?kd ?ku ?_; (case hx => omega); (case hn => omega); (case k1 => k_asm); (case k2 => k_asm); (case k3 => k_asm); (case k4 => k_asm); (case k5 => k_asm); (case kK => first | exact rfl | assumption); (case kd => first | omega | ktr_room); (case ku => first | omega | ktr_units); k_whole; intro r' h' tk' F' N' hG'; subst hG'; (try dsimp only); (try k_sweep); (try k_fold))))

def mdaysOf (m : Int) : Int := [0, 31, 28, 31, 30, 31, 30, 31, 31, 30, 31, 30, 31].getD m.toNat 0
def mlen (y m : Int) : Int := mdaysOf m + (if m = 2 && leap y then 1 else 0)

theorem mdays_list {P : Params} : (Mine.hd.heap_39 P).lookup 435 = some ⟨.type "list", none, .seq [Value.int 0 1106, Value.int 31 1107, Value.int 28 1108, Value.int 31 1109, Value.int 30 1110, Value.int 31 1111, Value.int 30 1112, Value.int 31 1113, Value.int 31 1114, Value.int 30 1115, Value.int 31 1116, Value.int 30 1117, Value.int 31 1118].toArray 0, #[]⟩ := by kernel_rfl
theorem mdays_item {prog : Program} {w : World} {A : Around} {E : Value → Shared → Prop} {s : Shared} {h₀ : Heap} {L : Addr} {m : Str → Option Value} {value slice : Expr} {k : Int} {u : Tok} {Q : Value → Shared → Prop} (F : Fr h₀ L s.heap m) (X₀ : (Mine.hd.heap_39 w.params).In h₀) (hk0 : 1 ≤ k) (hk6 : k ≤ 12) (h : ∀ t, Q (.int (mdaysOf k) t) s)
    (hs : subscripted slice false (.ref 435) (.int k u) = operate [.ref 435, .int k u] (getItem (.ref 435) (.int k u))) :
    wpAny (model prog w) A (subscriptTail value slice (.ref 435) (.int k u)) Q E s := by
  have hc : k = 1 ∨ k = 2 ∨ k = 3 ∨ k = 4 ∨ k = 5 ∨ k = 6 ∨ k = 7 ∨ k = 8 ∨ k = 9 ∨ k = 10 ∨ k = 11 ∨ k = 12 := by omega
  rcases hc with e | e | e | e | e | e | e | e | e | e | e | e <;> subst e <;> exact topList_K F X₀ mdays_list (by decide) (by decide) rfl (h _) hs

local macro_rules | `(tactic| walk_at "subscriptTail") => `(tactic| (k_here; (with_reducible show wpAny _ _ (subscriptTail _ _ (Value.ref 435) (Value.int _ _)) _ _ _); k_dflt (refine' mdays_item ?F ?X ?h0 ?h6 ?_ ?hs; (case F => k_asm); (case X => k_asm); (case h0 => omega); (case h6 => omega); (case hs => with_unfolding_all rfl); k_whole; intro t')))
local macro_rules | `(tactic| walk_at "compareOp Eq int ref") => `(tactic| (k_here; (with_reducible show wpAny _ _ (compareOp _ (Value.int _ _) (Value.ref 382)) _ _ _); k_dflt (refine' eq_february ?F ?X ?hu ?_; (case F => k_asm); (case X => k_asm); (case hu => first | omega | ktr_units | (show _ < _; omega)); k_whole)))

theorem mlen_1 {y m : Int} (h : (2 == m) = true) : mdaysOf m + (if leap y = true then 1 else 0) = mlen y m := by
  have h2 : m = 2 := (of_decide_eq_true h).symm
  subst h2
  unfold mlen
  cases leap y <;> rfl
theorem mlen_0 {y m : Int} (h : (2 == m) = false) : mdaysOf m + (if (2 == m) = true then 1 else 0) = mlen y m := by
  have h2 : ¬ m = 2 := fun e => by subst e; cases h
  unfold mlen
  rw [h]
  simp [h2]
theorem fresh_of {g h' H : Heap} {L' a : Addr} {o : Obj} {news : List (Addr × Obj)} (N : News g L' h' ((a, o) :: news)) (hk : ∀ b o, H.get? b = some o → g.get? b = some o) : H.get? a = none := by
  cases e : H.get? a with
  | none => rfl
  | some o' => have := (N _ (.head _)).2.2; rw [hk _ _ e] at this; cases this
def IsRange2 (w : World) (y m : Int) (H h' : Heap) (v : Value) : Prop := ∃ a x t, v = .ref a ∧ H.get? a = none ∧ h'.get? a = some { cls := .type "tuple", data := .seq #[.ref x, .int (mlen y m) t] } ∧ DayRef w x (wkd y m)
theorem mr_end {w : World} {y m : Int} {H g h' : Heap} {L' a x : Addr} {v : Int} {t : Tok} {news : List (Addr × Obj)} (N : News g L' h' ((a, { cls := .type "tuple", data := .seq #[.ref x, .int v t] }) :: news)) (hk : ∀ b o, H.get? b = some o → g.get? b = some o) (hx : DayRef w x (wkd y m)) (e : v = mlen y m) :
    IsRange2 w y m H h' (.ref a) := ⟨a, x, t, rfl, fresh_of N hk, e ▸ N.get (.head _), hx⟩

theorem monthrange_c {w : World} {p : Program} {loose : List Str} {mean : ExcName → Option Value} {mg mb : Str → Option Value} {t t₂ : Tok} {y m : Int} (hy : y.natAbs ≤ 2 ^ 30) (hm1 : 1 ≤ m) (hm2 : m ≤ 12) :
    Pure w p loose mean mg mb 463 2 [.int y t, .int m t₂] (fun H h' v => IsRange2 w y m H h' v) := by
  refine fillOf (w := w) ?_
  k_fill
  intro _
  k_dflt (refine' pure_def (K := Mine.hd.heap_39 w.params) (binds := [(PySem.Str.ofString "year", .int y t), (PySem.Str.ofString "month", .int m t₂)]) rfl ?k6 ?k7 ?k9 ?kB ?_ ?c1 ?c2 ?c3 ?c4 ?c5; (case k6 => k_is); (case k7 => k_is); (case k9 => intro s; exact BindsTo.of_eq rfl); (case c5 => decide); (case kB => exact locs rfl); (case c1 => decide); (case c2 => exact rfl); (case c3 => exact rfl); (case c4 => exact rfl); k_whole; intro s dp un gd outer A₀ base g L' h' tk F' N' B' X' T' hkeep hdp hun; (try dsimp only); (try k_fold))
  k_steps
  all_goals first
    | exact ⟨⟨_, _, by k_asm⟩, ⟨_, _, rfl⟩, mr_end (by k_asm) hkeep (by assumption) (mlen_1 (by first | assumption | simp_all))⟩
    | exact ⟨⟨_, _, by k_asm⟩, ⟨_, _, rfl⟩, mr_end (by k_asm) hkeep (by assumption) (mlen_0 (by first | assumption | simp_all))⟩
end Mine

theorem Mine.anewC5 : True ∧ True := by
  w_top off
  first | (walk1; done) | exact ⟨trivial, trivial⟩

-- C5
namespace Mine
open PySem.Calls
open PySem.Builtin._datetime

/-- what the law's frame wants of its call of _law_asked: the frame and the ledger stand (a caught exception may turn the slots of the frame's own object) -/
def Asked (w : World) (p : Program) (loose : List Str) (mean : ExcName → Option Value) (mg mb : Str → Option Value) (f : Addr) (d : Nat) (vs : List Value) (G : List (Addr × Obj) → List (Addr × Obj) → Value → Prop) : Prop :=
  ∀ (dp un : Nat) (gd : Option (List Code)) (cn : Str) (cs : Scope) (a : Addr) (ccd : Value) (cl : List (Str × Addr)) (A₀ : Around) (base h₀ : Heap) (L : Addr) (m : Str → Option Value) (news : List (Addr × Obj)) (s : Shared) (Q E : Value → Shared → Prop),
    Below A₀ base [] h₀ → Fr h₀ L s.heap m → (Mine.hd.heap_39 w.params).In base → (Mine.hd.heap_39 w.params).In h₀ → News h₀ L s.heap news → Top p loose mean mg mb base → Top p loose mean mg mb h₀ → cs.kind = .function → dp + d < recursionLimit → un + 8 * d < cLine →
    (∀ r h' tk' news', Fr h₀ L h' m → News h₀ L h' news' → G news news' r → Q r { s with heap := h', toks := tk' }) →
    wpAny (model PySem.Challenge.rw_ak5001_01.row.prog w) (ktrTop dp un gd cn cs L a ccd cl []) (call (.ref f) vs) Q E s

section
variable {w : World} {p : Program} {loose : List Str} {mean : ExcName → Option Value} {mg mb : Str → Option Value} {d : Nat} {vs : List Value} {G : List (Addr × Obj) → List (Addr × Obj) → Value → Prop}
theorem asked_def {K : Frag} {name qual : Str} {params : Arguments} {body : List Stmt} {scope : Scope} {dV kV doc pm cdv ct oc : Value} {an od : Option Addr} {osl : Array (Option Value)} {f : Addr} {binds : List (Str × Value)}
    (hK : K = Mine.hd.heap_39 w.params)
    (ho : K.lookup f = some ⟨oc, od, .func (fnOf name qual params body scope dV kV doc pm an cdv ct), osl⟩) (hcd : codeIn K cdv qual = true)
    (hbind : ∀ s, BindsTo s (fnOf name qual params body scope dV kV doc pm an cdv ct) ⟨vs, []⟩ binds) (hloc : ∀ y ∈ binds, scope.names.lookup y.1 = some .local)
    (h : ∀ (dp un : Nat) (gd : Option (List Code)) (cn : Str) (cs : Scope) (a : Addr) (ccd : Value) (cl : List (Str × Addr)) (A₀ : Around) (base h₀ : Heap) (L : Addr) (m : Str → Option Value) (news : List (Addr × Obj)) (s : Shared) (Q E : Value → Shared → Prop),
      Below A₀ base [] h₀ → Fr h₀ L s.heap m → K.In base → K.In h₀ → News h₀ L s.heap news → Top p loose mean mg mb base → Top p loose mean mg mb h₀ → cs.kind = .function → dp + d < recursionLimit → un + 8 * d < cLine →
      (∀ r h' tk' news', Fr h₀ L h' m → News h₀ L h' news' → G news news' r → Q r { s with heap := h', toks := tk' }) →
      ∀ (g : Heap) (L' : Addr) (h₁ : Heap) (tk : Nat), Fr g L' h₁ (fun y => binds.reverse.lookup y) → News g L' h₁ news → Below (ktrTop dp un gd cn cs L a ccd cl []) base [envX cn cs L a ccd cl] g → K.In g → Top p loose mean mg mb g → KtsDicts ([envX cn cs L a ccd cl].filterMap (·.frame)) g →
      wpAny (model PySem.Challenge.rw_ak5001_01.row.prog w) ((ktrTop dp un gd cn cs L a ccd cl []).deeper (envOf qual scope L' f cdv)) (execs body (envOf qual scope L' f cdv))
        (fun fl s' => LeaveS0 ([envX cn cs L a ccd cl].filterMap (·.frame)) h₀ L m g (fun r s' => match r with | .ok (.ret v) => Q v s' | .ok _ => False | .error e => E e s') (match fl with | .ret v => v | _ => .none) s')
        (fun e s' => wpAny (model PySem.Challenge.rw_ak5001_01.row.prog w) ((ktrTop dp un gd cn cs L a ccd cl []).deeper (envOf qual scope L' f cdv)) (leaving (envOf qual scope L' f cdv) e) (fun _ s'' => E e s'') (fun e' s'' => E e' s'') s')
        { s with heap := h₁, toks := tk })
    (hd : 1 ≤ d) (hco : scope.isCoroutine = false) (hgen : scope.isGenerator = false) (hk : scope.kind = .function)
    (hcell : ∀ x ∈ scope.names, x.2 ≠ .cell) : Asked w p loose mean mg mb f d vs G := by
  intro dp un gd cn cs a ccd cl A₀ base h₀ L m news s Q E B F XB X₀ N TB T hkk hdp hun hret
  subst hK
  refine wpAny_call ?_
  have X := X₀.keeps F.keep
  refine codeAny_call_def (fd := fnOf name qual params body scope dV kV doc pm an cdv ct) (body := body) (binds := binds) (by show dp < _; omega) (X _ _ ho) rfl (T.nolimit.keeps F.keep) (codeRec_of X hcd) rfl (hbind s) hcell hloc (fun h₁ hns hk₁ => ?_) hco hgen hk
  have nm : ∀ b o, h₀.get? b = some o → b ∉ news.map (·.1) := fun b o e q => by
    obtain ⟨q', hq', rfl⟩ := List.mem_map.mp q
    rw [(N q' hq').2.2] at e; cases e
  have st : h₀.StaysIn (hideAll s.heap (news.map (·.1))) := fun b o e => hideAll_get _ (F.keep b o e) (nm b o e)
  obtain ⟨oL, es, ep, hL, hLd, hLk, hLf⟩ := F.ns
  have nL : L ∉ news.map (·.1) := fun q => by
    obtain ⟨q', hq', e⟩ := List.mem_map.mp q
    exact (N q' hq').2.1 e
  have hLg := hideAll_get (news.map (·.1)) hL nL
  have B₁ := pushX (env := envX cn cs L a ccd cl) B F rfl hkk
  have Bg : Below (ktrTop dp un gd cn cs L a ccd cl []) base [envX cn cs L a ccd cl] (hideAll s.heap (news.map (·.1))) :=
    ⟨rfl, fun b o e => st b o (B.stays b o e), funFrames_hideAll B₁.frames fun env he b hb hf => by
      cases he with
      | head => exact nL ((Option.some.inj hf : L = b) ▸ hb)
      | tail _ he => cases he⟩
  refine wpAny_mono (h dp un gd cn cs a ccd cl A₀ base h₀ L m news s Q E B F XB X₀ N TB T hkk hdp hun hret _ s.heap.objs.size h₁ _ ⟨hns, fun b o e => hk₁ b o (of_hideAll _ e), Nat.le_of_eq (hideAll_size _ _)⟩
    (fun q hq => ⟨hk₁ _ _ (N q hq).1, Nat.ne_of_lt (Heap.lt_size (N q hq).1), hideAll_none _ (List.mem_map_of_mem hq)⟩) Bg (X₀.keeps st) (T.keeps st) (fun b hb => by
      have e : b = L := List.mem_singleton.mp hb
      subst e
      exact ⟨oL, es, ep, hLg, hLd⟩)) (fun fl s' hl => ?_) fun _ _ y => y
  obtain ⟨g', L', m', news', T', F', N', k⟩ := hl
  have nL₀ : h₀.get? L = none := kts_self F
  obtain ⟨sl, hs⟩ := T'.up hLg
  have z := F'.keep _ _ hs
  refine k ⟨⟨_, es, ep, z, hLd, hLk, hLf⟩, fun b o e => F'.keep b o (T'.other b o (st b o e) (fun q => ?_)), F.above⟩ fun q hq => ⟨(N' q hq).1, fun e => ?_, ?_⟩
  · have e' : b = L := List.mem_singleton.mp q
    subst e'
    rw [nL₀] at e; cases e
  · have := (N' q hq).2.2
    rw [e, hs] at this; cases this
  · cases e : h₀.get? q.1 with
    | none => rfl
    | some o =>
      obtain ⟨sl', hs'⟩ := T'.up (st _ _ e)
      have := (N' q hq).2.2
      rw [hs'] at this; cases this
end

local macro_rules | `(tactic| walk_at "call ref") => `(tactic| (k_here; k_dflt (refine wpAny_call ?_; refine' code_def ?k1 ?k2 ?k3 ?k4 ?k5 ?kA ?kF ?kK ?k6 ?k7 ?k8 ?k9 ?kB ?_ ?c2 ?c3 ?c4 ?c5; (case kA => exact rfl); (case kF => exact rfl); (case kK => first | exact rfl | assumption); (case k1 => k_asm); (case k2 => k_asm); (case k3 => k_asm); (case k4 => k_asm); (case k5 => k_asm); (case k6 => k_is); (case k7 => k_is); (case k8 => first | (show _ < _; omega) | ktr_room); (case k9 => first | exact BindsTo.of_eq rfl | exact binds_K (by k_in) rfl (by k_is) rfl rfl rfl); (case c5 => decide); (case kB => exact locs rfl); (case c2 => exact rfl); (case c3 => exact rfl); (case c4 => exact rfl); k_whole; intro g' L' h' FG' F' N' B' X' T'; (try dsimp only); (try k_lift B'); (try k_fold))))

theorem asked_A1_c {w : World} {p : Program} {loose : List Str} {mean : ExcName → Option Value} {mg mb : Str → Option Value} {t t₂ t₃ t₄ : Tok} {d m y : Int} :
    Asked w p loose mean mg mb 489 6 [.int (-1) t, .int d t₂, .int m t₃, .int y t₄] (fun news news' v => (∃ t, v = .str (Str.ofString "IndexError") t) ∧ news' = news) := by
  refine fillOf (w := w) ?_
  k_fill
  intro _
  k_dflt (refine' asked_def (K := Mine.hd.heap_39 w.params) (binds := [(PySem.Str.ofString "place", .int (-1) t), (PySem.Str.ofString "day", .int d t₂), (PySem.Str.ofString "month", .int m t₃), (PySem.Str.ofString "year", .int y t₄)]) rfl ?k6 ?k7 ?k9 ?kB ?_ ?c1 ?c2 ?c3 ?c4 ?c5; (case k6 => k_is); (case k7 => k_is); (case k9 => intro s; exact BindsTo.of_eq rfl); (case c5 => decide); (case kB => exact locs rfl); (case c1 => decide); (case c2 => exact rfl); (case c3 => exact rfl); (case c4 => exact rfl); k_whole; intro dp un gd cn cs a ccd cl A₀ base h₀ L m news s Q E B F XB X₀ N TB T hkk hdp hun hret g L' h' tk F' N' B' X' T' D'; (try dsimp only); (try k_fold))
  k_steps
  all_goals exact hret _ _ _ _ (by k_asm) (by k_asm) ⟨⟨_, rfl⟩, rfl⟩

theorem asked_A2_c {w : World} {p : Program} {loose : List Str} {mean : ExcName → Option Value} {mg mb : Str → Option Value} {t t₂ t₃ t₄ : Tok} {d m y : Int} :
    Asked w p loose mean mg mb 489 6 [.int 6 t, .int d t₂, .int m t₃, .int y t₄] (fun news news' v => (∃ t, v = .str (Str.ofString "IndexError") t) ∧ news' = news) := by
  refine fillOf (w := w) ?_
  k_fill
  intro _
  k_dflt (refine' asked_def (K := Mine.hd.heap_39 w.params) (binds := [(PySem.Str.ofString "place", .int 6 t), (PySem.Str.ofString "day", .int d t₂), (PySem.Str.ofString "month", .int m t₃), (PySem.Str.ofString "year", .int y t₄)]) rfl ?k6 ?k7 ?k9 ?kB ?_ ?c1 ?c2 ?c3 ?c4 ?c5; (case k6 => k_is); (case k7 => k_is); (case k9 => intro s; exact BindsTo.of_eq rfl); (case c5 => decide); (case kB => exact locs rfl); (case c1 => decide); (case c2 => exact rfl); (case c3 => exact rfl); (case c4 => exact rfl); k_whole; intro dp un gd cn cs a ccd cl A₀ base h₀ L m news s Q E B F XB X₀ N TB T hkk hdp hun hret g L' h' tk F' N' B' X' T' D'; (try dsimp only); (try k_fold))
  k_steps
  all_goals exact hret _ _ _ _ (by k_asm) (by k_asm) ⟨⟨_, rfl⟩, rfl⟩

theorem asked_B_c {w : World} {p : Program} {loose : List Str} {mean : ExcName → Option Value} {mg mb : Str → Option Value} {t t₂ t₃ t₄ : Tok} {n d m y : Int} (hn0 : 0 ≤ n) (hn5 : n ≤ 5) (hd : ¬ (0 ≤ d ∧ d ≤ 6)) :
    Asked w p loose mean mg mb 489 6 [.int n t, .int d t₂, .int m t₃, .int y t₄] (fun news news' v => (∃ t, v = .str (Str.ofString "IndexError") t) ∧ news' = news) := by
  refine fillOf (w := w) ?_
  k_fill
  intro _
  k_dflt (refine' asked_def (K := Mine.hd.heap_39 w.params) (binds := [(PySem.Str.ofString "place", .int n t), (PySem.Str.ofString "day", .int d t₂), (PySem.Str.ofString "month", .int m t₃), (PySem.Str.ofString "year", .int y t₄)]) rfl ?k6 ?k7 ?k9 ?kB ?_ ?c1 ?c2 ?c3 ?c4 ?c5; (case k6 => k_is); (case k7 => k_is); (case k9 => intro s; exact BindsTo.of_eq rfl); (case c5 => decide); (case kB => exact locs rfl); (case c1 => decide); (case c2 => exact rfl); (case c3 => exact rfl); (case c4 => exact rfl); k_whole; intro dp un gd cn cs a ccd cl A₀ base h₀ L m news s Q E B F XB X₀ N TB T hkk hdp hun hret g L' h' tk F' N' B' X' T' D'; (try dsimp only); (try k_fold))
  k_steps
  all_goals first
    | exact hret _ _ _ _ (by k_asm) (by k_asm) ⟨⟨_, rfl⟩, rfl⟩
    | (exfalso; omega)
end Mine

theorem Mine.anewC6 : True ∧ True := by
  w_top off
  first | (walk1; done) | exact ⟨trivial, trivial⟩

-- C6
namespace Mine
open PySem.Calls
open PySem.Builtin._datetime

abbrev pairOf (x : Addr) (v : Int) (t : Tok) : Obj := { cls := .type "tuple", data := .seq #[.ref x, .int v t] }
theorem use_mr {w : World} {p : Program} {loose : List Str} {mean : ExcName → Option Value} {mg mb : Str → Option Value} {y mo : Int} {ty tm : Tok} {dp un : Nat} {gd : Option (List Code)} {cn : Str} {cs : Scope} {a : Addr} {ccd : Value} {cl : List (Str × Addr)} {outer : List Env} {A₀ : Around} {base h₀ : Heap} {L : Addr} {m : Str → Option Value} {news : List (Addr × Obj)} {s : Shared} {Q E : Value → Shared → Prop}
    (hy : y.natAbs ≤ 2 ^ 30) (hm1 : 1 ≤ mo) (hm2 : mo ≤ 12) (B : Below A₀ base outer h₀) (F : Fr h₀ L s.heap m) (X : (Mine.hd.heap_39 w.params).In h₀) (N : News h₀ L s.heap news) (T : Top p loose mean mg mb h₀) (hk : cs.kind = .function) (hd : dp + 2 < recursionLimit) (hu : un + 8 * 2 < cLine)
    (ret : ∀ x t b h' tk', Fr h₀ L h' m → News h₀ L h' ((b, pairOf x (mlen y mo) t) :: news) → DayRef w x (wkd y mo) → Q (.ref b) { s with heap := h', toks := tk' }) :
    wpAny (model PySem.Challenge.rw_ak5001_01.row.prog w) (ktrTop dp un gd cn cs L a ccd cl outer) (call (.ref 463) [.int y ty, .int mo tm]) Q E s := by
  refine monthrange_c hy hm1 hm2 dp un gd cn cs a ccd cl outer A₀ base h₀ L m s Q E B F X T hk hd hu fun r h' tk' hk' hG => ?_
  obtain ⟨b, x, t, rfl, hnew, hget, hday⟩ := hG
  refine ret x t b h' tk' (F.keeps hk') (fun q hq => ?_) hday
  rcases List.mem_cons.mp hq with rfl | hq
  · refine ⟨hget, fun e => ?_, ?_⟩
    · obtain ⟨oL, _, _, hL, _⟩ := F.ns
      have e' : b = L := e
      rw [← e', hnew] at hL; cases hL
    · cases e : h₀.get? b with
      | none => rfl
      | some o => have := F.keep _ _ e; rw [hnew] at this; cases this
  · exact N.grown hk' q hq

local macro_rules | `(tactic| walk_at "call ref") => `(tactic| (k_here; k_dflt (refine wpAny_call ?_; refine' code_def ?k1 ?k2 ?k3 ?k4 ?k5 ?kA ?kF ?kK ?k6 ?k7 ?k8 ?k9 ?kB ?_ ?c2 ?c3 ?c4 ?c5; (case kA => exact rfl); (case kF => exact rfl); (case kK => first | exact rfl | assumption); (case k1 => k_asm); (case k2 => k_asm); (case k3 => k_asm); (case k4 => k_asm); (case k5 => k_asm); (case k6 => k_is); (case k7 => k_is); (case k8 => first | (show _ < _; omega) | ktr_room); (case k9 => first | exact BindsTo.of_eq rfl | exact binds_K (by k_in) rfl (by k_is) rfl rfl rfl); (case c5 => decide); (case kB => exact locs rfl); (case c2 => exact rfl); (case c3 => exact rfl); (case c4 => exact rfl); k_whole; intro g' L' h' FG' F' N' B' X' T'; (try dsimp only); (try k_lift B'); (try k_fold))))
local macro_rules | `(tactic| walk_at "call ref") => `(tactic| (k_here; (with_reducible show wpAny _ _ (PySem.call (Value.ref 463) [Value.int _ _, Value.int _ _]) _ _ _); k_dflt (refine' use_mr ?hx ?hn ?hm ?k1 ?k2 ?k3 ?k4 ?k5 ?kK ?kd ?ku ?_; (case hx => omega); (case hn => omega); (case hm => omega); (case k1 => k_asm); (case k2 => k_asm); (case k3 => k_asm); (case k4 => k_asm); (case k5 => k_asm); (case kK => first | exact rfl | assumption); (case kd => first | omega | (show _ < _; omega) | ktr_room); (case ku => first | omega | (show _ < _; omega) | ktr_units); k_whole; intro x' t' b' h' tk' F' N' hx'; (try dsimp only [pairOf] at N'); (try dsimp only); (try k_sweep); (try k_fold))))
local macro_rules | `(tactic| walk_at "binaryOp Sub int ref") => `(tactic| (k_here; k_dflt (refine' sub_dayref ?F ?X ?hx ?_; (case F => k_asm); (case X => k_asm); (case hx => assumption); k_whole)))

def fwOf (y m d : Int) : Int := 1 + (d - wkd y m) % 7
def nnOf (y m n d : Int) : Int := if n = 0 then (if fwOf y m d ≤ 3 ∧ fwOf y m d + 28 ≤ mlen y m then 5 else 4) else n
def dayOf (y m n d : Int) : Int := fwOf y m d + (nnOf y m n d - 1) * 7
abbrev tup3 (y m v : Int) (ty tm t : Tok) : Obj := { cls := .type "tuple", data := .seq #[.int y ty, .int m tm, .int v t] }
def NthOut (y m n d : Int) (ty tm : Tok) (news news' : List (Addr × Obj)) (v : Value) : Prop :=
  (mlen y m < dayOf y m n d ∧ (∃ t, v = .str (Str.ofString "IndexError") t) ∧ news' = news) ∨
  (dayOf y m n d ≤ mlen y m ∧ ∃ D t, v = .ref D ∧ news' = (D, tup3 y m (dayOf y m n d) ty tm t) :: news)
theorem fw_eq (y m d : Int) : 1 + (d - wkd y m).fmod 7 = fwOf y m d := by unfold fwOf; rw [fmod7]
theorem mdaysOf_ge {m : Int} (h1 : 1 ≤ m) (h2 : m ≤ 12) : 28 ≤ mdaysOf m := by
  have hc : m = 1 ∨ m = 2 ∨ m = 3 ∨ m = 4 ∨ m = 5 ∨ m = 6 ∨ m = 7 ∨ m = 8 ∨ m = 9 ∨ m = 10 ∨ m = 11 ∨ m = 12 := by omega
  rcases hc with e | e | e | e | e | e | e | e | e | e | e | e <;> subst e <;> decide
theorem mlen_ge {y m : Int} (h1 : 1 ≤ m) (h2 : m ≤ 12) : 28 ≤ mlen y m := by
  have := mdaysOf_ge h1 h2
  unfold mlen
  split <;> omega
theorem any123 (x : Int) : ([1, 2, 3].any fun k => k == x) = true ↔ x = 1 ∨ x = 2 ∨ x = 3 := by
  simp only [List.any_cons, List.any_nil, Bool.or_false, Bool.or_eq_true, beq_iff_eq]
  constructor <;> (intro h; omega)
theorem any123f (x : Int) : ([1, 2, 3].any fun k => k == x) = false ↔ ¬ (x = 1 ∨ x = 2 ∨ x = 3) := by
  rw [← any123 x]; simp
theorem fw_in (y m d : Int) : 1 ≤ fwOf y m d ∧ fwOf y m d ≤ 7 := by unfold fwOf; omega
theorem nn_a {y m n d : Int} (h0 : n = 0) (ha : ([1, 2, 3].any fun x => x == 1 + (d - wkd y m).fmod 7) = true) (hb : 1 + (d - wkd y m).fmod 7 + 28 ≤ mlen y m) : 1 + (d - wkd y m).fmod 7 + (5 - 1) * 7 = dayOf y m n d := by
  rw [fw_eq] at *
  have := (any123 _).mp ha
  unfold dayOf nnOf
  rw [if_pos h0, if_pos ⟨by omega, hb⟩]
theorem nn_b {y m n d : Int} (h0 : n = 0) (hb : ¬ 1 + (d - wkd y m).fmod 7 + 28 ≤ mlen y m) : 1 + (d - wkd y m).fmod 7 + (4 - 1) * 7 = dayOf y m n d := by
  rw [fw_eq] at *
  unfold dayOf nnOf
  rw [if_pos h0, if_neg (fun e => hb e.2)]
theorem nn_c {y m n d : Int} (h0 : n = 0) (ha : ([1, 2, 3].any fun x => x == 1 + (d - wkd y m).fmod 7) = false) : 1 + (d - wkd y m).fmod 7 + (4 - 1) * 7 = dayOf y m n d := by
  rw [fw_eq] at *
  have := (any123f _).mp ha
  have hf := fw_in y m d
  unfold dayOf nnOf
  rw [if_pos h0, if_neg (by omega)]
theorem nn_d {y m n d : Int} (h0 : n ≠ 0) : 1 + (d - wkd y m).fmod 7 + (n - 1) * 7 = dayOf y m n d := by
  rw [fw_eq]
  unfold dayOf nnOf
  rw [if_neg h0]
theorem out_str {y m n d v : Int} {ty tm t : Tok} {news : List (Addr × Obj)} (e : v = dayOf y m n d) (h : mlen y m < v) : NthOut y m n d ty tm news news (.str (Str.ofString "IndexError") t) := .inl ⟨e ▸ h, ⟨t, rfl⟩, rfl⟩
theorem out_tup {y m n d v : Int} {ty tm t : Tok} {D : Addr} {news : List (Addr × Obj)} (e : v = dayOf y m n d) (h : v ≤ mlen y m) : NthOut y m n d ty tm news ((D, tup3 y m v ty tm t) :: news) (.ref D) := .inr ⟨e ▸ h, D, t, rfl, by rw [e]⟩
theorem drop2 {h₀ h : Heap} {L : Addr} {p q : Addr × Obj} {news : List (Addr × Obj)} (N : News h₀ L h (p :: q :: news)) : News h₀ L h (p :: news) := fun x hx => N x (by
  rcases List.mem_cons.mp hx with e | hx
  · subst e; exact .head _
  · exact .tail _ (.tail _ hx))
theorem drop3 {h₀ h : Heap} {L : Addr} {p q r : Addr × Obj} {news : List (Addr × Obj)} (N : News h₀ L h (p :: q :: r :: news)) : News h₀ L h (p :: news) := drop2 (drop2 N)
theorem drop1 {h₀ h : Heap} {L : Addr} {p : Addr × Obj} {news : List (Addr × Obj)} (N : News h₀ L h (p :: news)) : News h₀ L h news := fun x hx => N x (.tail _ hx)
theorem fm7 (a : Int) : 0 ≤ a.fmod 7 ∧ a.fmod 7 < 7 := by rw [fmod7]; omega

theorem asked_D_c {w : World} {p : Program} {loose : List Str} {mean : ExcName → Option Value} {mg mb : Str → Option Value} {t t₂ t₃ t₄ : Tok} {n d m y : Int} (hn0 : 0 ≤ n) (hn5 : n ≤ 5) (hd0 : 0 ≤ d) (hd6 : d ≤ 6) (hm1 : 1 ≤ m) (hm2 : m ≤ 12) (hy : y.natAbs ≤ 2 ^ 30) :
    Asked w p loose mean mg mb 489 6 [.int n t, .int d t₂, .int m t₃, .int y t₄] (NthOut y m n d t₄ t₃) := by
  have hml := mlen_ge (y := y) hm1 hm2
  have hfm := fm7 (d - wkd y m)
  refine fillOf (w := w) ?_
  k_fill
  intro _
  k_dflt (refine' asked_def (K := Mine.hd.heap_39 w.params) (binds := [(PySem.Str.ofString "place", .int n t), (PySem.Str.ofString "day", .int d t₂), (PySem.Str.ofString "month", .int m t₃), (PySem.Str.ofString "year", .int y t₄)]) rfl ?k6 ?k7 ?k9 ?kB ?_ ?c1 ?c2 ?c3 ?c4 ?c5; (case k6 => k_is); (case k7 => k_is); (case k9 => intro s; exact BindsTo.of_eq rfl); (case c5 => decide); (case kB => exact locs rfl); (case c1 => decide); (case c2 => exact rfl); (case c3 => exact rfl); (case c4 => exact rfl); k_whole; intro dp un gd cn cs a ccd cl A₀ base h₀ L m news s Q E B F XB X₀ N TB T hkk hdp hun hret g L' h' tk F' N' B' X' T' D'; (try dsimp only); (try k_fold))
  k_steps
  all_goals first
    | exact hret _ _ _ _ (by k_asm) (drop1 (by k_asm)) (out_str (nn_d (by assumption)) (by assumption))
    | exact hret _ _ _ _ (by k_asm) (drop3 (by k_asm)) (out_tup (nn_a (by assumption) (by assumption) (by assumption)) (by omega))
    | exact hret _ _ _ _ (by k_asm) (drop3 (by k_asm)) (out_tup (nn_b (by assumption) (by assumption)) (by omega))
    | exact hret _ _ _ _ (by k_asm) (drop3 (by k_asm)) (out_tup (nn_c (by assumption) (by assumption)) (by omega))
    | exact hret _ _ _ _ (by k_asm) (drop2 (by k_asm)) (out_tup (nn_d (by assumption)) (by omega))
end Mine

theorem Mine.anewG1 : True ∧ True := by
  w_top off
  first | (walk1; done) | exact ⟨trivial, trivial⟩

-- G1
namespace Mine
open PySem.Calls
open PySem.Builtin PySem.Builtin.ObjectAttr

abbrev exc0 (t : Addr) : Obj := { cls := .ref 146, data := .fields #[.ref t, .none, .none, .none, .bool false, .none] }
abbrev excD (t d : Addr) : Obj := { cls := .ref 146, dict := some d, data := .fields #[.ref t, .none, .none, .none, .bool false, .none] }

section
variable {prog : Program} {w : World} {A : Around} {E : Value → Shared → Prop} {h : Heap} {g : Array GenState} {d : Drawn} {tk : Nat} {os : OsState}

abbrev illCls : ClassData := { name := "IllegalMonthError", bases := [.type "ValueError", .type "IndexError"], mro := [.ref 146, .type "ValueError", .type "IndexError", .type "LookupError", .type "Exception", .type "BaseException", .type "object"], ns := 145, qualname := "IllegalMonthError" }
theorem ill_cls (X : (Mine.hd.heap_39 w.params).In h) : Looks (model prog w) h (classData 146) illCls := Looks.of_peek X (by kernel_rfl)
theorem ill_mro (X : (Mine.hd.heap_39 w.params).In h) : Looks (model prog w) h (mroOf (.ref 146)) illCls.mro := Looks.of_peek X (by kernel_rfl)
theorem ill_refuse (X : (Mine.hd.heap_39 w.params).In h) (self : Value) : Looks (model prog w) h (refuseLoop self "__setattr__" illCls.mro) () := Looks.of_peek X (by kernel_rfl)
theorem ill_set (X : (Mine.hd.heap_39 w.params).In h) : Looks (model prog w) h (typeLookup (.ref 146) "__setattr__") (some (.builtin "object.__setattr__")) := Looks.of_peek X (by kernel_rfl)
theorem ill_month (X : (Mine.hd.heap_39 w.params).In h) : Looks (model prog w) h (typeLookup (.ref 146) "month") none := Looks.of_peek X (by kernel_rfl)
theorem ill_obj (X : (Mine.hd.heap_39 w.params).In h) : Looks (model prog w) h (isSubtype (.ref 146) (.type "object")) true := Looks.of_peek X (by kernel_rfl)

theorem set_month {s : Shared} (X : (Mine.hd.heap_39 w.params).In s.heap) {e t : Addr} {k : Int} {tk : Tok} {Q : Unit → Shared → Prop} (he : s.heap.get? e = some (exc0 t))
    (hq : ∀ h' d tk', (∀ b o, b ≠ e → s.heap.get? b = some o → h'.get? b = some o) → h'.get? e = some (excD t d) → Q () { s with heap := h', toks := tk' }) :
    wpAny (model prog w) A (setAttr (.ref e) "month" (.int k tk)) Q E s := by
  obtain ⟨hp, g, dr, tk0, os⟩ := s
  have T : Looks (model prog w) hp (typeOf (.ref e)) (.ref 146) := (Looks.ld he).andThen .now
  refine wpAny_bind (wpAny_mkText (wpAny_bind (wpAny_bind (wpAny_bind (T.at ((ill_set X).at (wpAny_holding ?_)))))))
  rw [PySem.F.store_object.slot.bind]
  have SF := PySem.F.store_object
  have sub : Looks (model prog w) hp (isInstance (.ref e) (.type "object")) true := T.andThen (ill_obj X)
  refine wpAny_bind (wpAny_pure (wpAny_bind (wpAny_call (codeAny_call_builtin SF.slot.plain SF.entry (@check_slot (model prog w) _ _ _ "object.__setattr__" "object" "__setattr__" (.ref e) [.str "month" tk0, .int k tk] [] _ SF.kind SF.split sub (SF.args (.ref e) (.str "month" tk0) (.int k tk)) ?_)))))
  show wpAny _ _ (Builtin.«object.__setattr__» ⟨[.ref e, .str "month" tk0, .int k tk], []⟩) _ _ _
  rw [osa_eq, refuse_eq]
  refine wpAny_bind (wpAny_bind (T.at (wpAny_bind ((ill_mro X).at ((ill_refuse X _).at ?_)))))
  refine wpAny_bind (T.at (wpAny_bind ((ill_month X).at (wpAny_bind (wpAny_pure ?_)))))
  have C := ill_cls (prog := prog) X
  show wpAny _ _ (storeInOwnDict (.ref e) (.ref 146) (.str "month" tk0) "month" (.int k tk) false) _ _ _
  have hlt : e < hp.objs.size := Heap.lt_size he
  have hne : e ≠ hp.objs.size := Nat.ne_of_lt hlt
  unfold storeInOwnDict ownDictForStores instanceDict
  wp_walk using (wpAny_loadPart_at he), (Looks.at C), wpAny_askSetting, wpAny_mkText
  refine hq _ hp.objs.size _ (fun b o hb ho => ?_) ?_
  · refine (Heap.get?_update_other _ _ (Nat.ne_of_gt (Heap.lt_size ho))).trans ((Heap.get?_update_other _ _ (Ne.symm hb)).trans (Heap.get?_push_of_some _ ho))
  · refine (Heap.get?_update_other _ _ (Ne.symm hne)).trans ?_
    exact Heap.get?_update_self _ (Heap.get?_push_of_some _ he) rfl

theorem set_monthK {h₀ : Heap} {L e t : Addr} {m : Str → Option Value} {news : List (Addr × Obj)} {s : Shared} {k : Int} {tk : Tok} {Q : Unit → Shared → Prop}
    (F : Fr h₀ L s.heap m) (X : (Mine.hd.heap_39 w.params).In h₀) (N : News h₀ L s.heap ((e, exc0 t) :: news)) (off : ∀ q ∈ news, q.1 ≠ e)
    (hq : ∀ h' d tk', Fr h₀ L h' m → News h₀ L h' ((e, excD t d) :: news) → Q () { s with heap := h', toks := tk' }) : wpAny (model prog w) A (setAttr (.ref e) "month" (.int k tk)) Q E s := by
  have He := N (e, exc0 t) (.head _)
  refine set_month (X.keeps F.keep) He.1 fun h' d tk' hk he => ?_
  obtain ⟨oL, es, ep, hL, r⟩ := F.ns
  refine hq h' d tk' ⟨⟨oL, es, ep, hk _ _ (Ne.symm He.2.1) hL, r⟩, fun b o hb => hk _ _ (fun q => ?_) (F.keep _ _ hb), F.above⟩ (fun q hq' => ?_)
  · rw [q, He.2.2] at hb; cases hb
  · rcases List.mem_cons.mp hq' with rfl | hq'
    · exact ⟨he, He.2⟩
    · have z := N q (.tail _ hq')
      exact ⟨hk _ _ (off q hq') z.1, z.2⟩
local macro_rules | `(tactic| walk_at "setAttr ref") => `(tactic| (k_here; k_dflt (refine' set_monthK ?F ?X ?N ?off ?_; (case F => k_asm); (case X => k_asm); (case N => k_asm); (case off => assumption); k_whole; intro h' d' tk' F' N')))

theorem illegal_init {p : Program} {loose : List Str} {mean : ExcName → Option Value} {mg mb : Str → Option Value} {A₀ : Around} {base h₀ : Heap} {outer : List Env} {env : Env} {L e t : Addr} {m : Str → Option Value} {news : List (Addr × Obj)} {s : Shared} {k : Int} {tk : Tok} {Q : Value → Shared → Prop}
    (B : Below A₀ base outer h₀) (F : Fr h₀ L s.heap m) (X : (Mine.hd.heap_39 w.params).In h₀) (N : News h₀ L s.heap ((e, exc0 t) :: news)) (off : ∀ q ∈ news, q.1 ≠ e) (T : Top p loose mean mg mb h₀) (hA : A.frames = some (env :: outer)) (hf : env.frame = some L) (hk : env.scope.kind = .function) (hroom : A.depth < recursionLimit)
    (hq : ∀ h' d tk', Fr h₀ L h' m → News h₀ L h' ((e, excD t d) :: news) → Q .none { s with heap := h', toks := tk' }) :
    wpAny (model PySem.Challenge.rw_ak5001_01.row.prog w) A (call (.ref 136) [.ref e, .int k tk]) Q E s := by
  refine fillOf (w := w) ?_
  k_fill
  intro _
  refine wpAny_call ?_
  k_dflt (refine' code_def (binds := [(Str.ofString "self", Value.ref e), (Str.ofString "month", Value.int k tk)]) ?k1 ?k2 ?k3 ?k4 ?k5 ?kA ?kF ?kK ?k6 ?k7 ?k8 ?k9 ?kB ?_ ?c2 ?c3 ?c4 ?c5; (case kA => exact hA); (case kF => exact hf); (case kK => assumption); (case k1 => k_asm); (case k2 => k_asm); (case k3 => k_asm); (case k4 => k_asm); (case k5 => k_asm); (case k6 => k_is); (case k7 => k_is); (case k8 => assumption); (case k9 => exact BindsTo.of_eq rfl); (case c5 => decide); (case kB => exact locs rfl); (case c2 => exact rfl); (case c3 => exact rfl); (case c4 => exact rfl); k_whole; intro g' L' h' FG' F' N' B' X' T'; (try dsimp only); (try k_fold))
  k_steps
  all_goals exact hq _ _ _ (by k_asm) (by k_asm)
end
end Mine

theorem Mine.anewG2 : True ∧ True := by
  w_top off
  first | (walk1; done) | exact ⟨trivial, trivial⟩

-- G2
namespace Mine
open PySem.Calls
open PySem.Builtin PySem.Builtin.ObjectAttr

section
variable {M : Model} {A : Around} {E : Value → Shared → Prop} {s' : Shared} {base g h : Heap} {outer : List Env} {L a e t d : Addr} {m : Str → Option Value} {name : Str} {scope : Scope} {cd : Value} {Q : Unit → Shared → Prop} {news : List (Addr × Obj)}
theorem leave_ill (K : Below A base outer g) (F : Fr g L s'.heap m) (N : News g L s'.heap ((e, excD t d) :: news)) (off : ∀ q ∈ news, q.1 ≠ e)
    (hQ : ∀ h', RaisedSN base g outer e (.ref 146) news h' → RaisedN base outer e (.ref 146) news h' → g.UpToSlots h' → Q () { s' with heap := h' }) (hk : scope.kind = .function := by rfl) :
    wpAny M (A.deeper (envOf name scope L a cd)) (leaving (envOf name scope L a cd) (.ref e)) Q E s' := by
  have K' := K.push (name := name) (a := a) (cd := cd) F hk
  have He := N (e, excD t d) (.head _)
  have hbe : base.get? e = none := kts_none K.stays He.2.2
  have hin : ∀ env ∈ (envOf name scope L a cd :: outer), ∀ b, env.frame = some b → b ∈ e :: (envOf name scope L a cd :: outer).filterMap (·.frame) := fun env he b hb => .tail _ (List.mem_filterMap.mpr ⟨env, he, hb⟩)
  have st : base.StaysIn (hideAll s'.heap (e :: (envOf name scope L a cd :: outer).filterMap (·.frame))) := fun b o q => hideAll_get _ (K'.stays b o q) fun hm => by
    rcases List.mem_cons.mp hm with z | hm
    · rw [z, hbe] at q; cases q
    · rw [(K'.frames.mem hm).1] at q; cases q
  have sg : ∀ b o, g.get? b = some o → b ∉ outer.filterMap (·.frame) → (hideAll s'.heap (e :: (envOf name scope L a cd :: outer).filterMap (·.frame))).get? b = some o := fun b o q nm => hideAll_get _ (F.keep b o q) fun hm => by
    rcases List.mem_cons.mp hm with z | hm
    · rw [z, He.2.2] at q; cases q
    · rcases kts_mem hm with z | z
      · rw [z, kts_self F] at q
        cases q
      · exact nm z
  have hl : ∀ q ∈ news, (hideAll s'.heap (e :: (envOf name scope L a cd :: outer).filterMap (·.frame))).get? q.1 = some q.2 ∧ g.get? q.1 = none ∧ base.get? q.1 = none := fun q hq => by
    have Nq := N q (.tail _ hq)
    refine ⟨hideAll_get _ Nq.1 fun hm => ?_, Nq.2.2, kts_none K.stays Nq.2.2⟩
    rcases List.mem_cons.mp hm with z | hm
    · exact off q hq z
    · obtain ⟨env, he, hf⟩ := List.mem_filterMap.mp hm
      rcases List.mem_cons.mp he with rfl | he
      · exact Nq.2.1 (Option.some.inj hf).symm
      · obtain ⟨o, ho, _⟩ := (K.frames.mem (List.mem_filterMap.mpr ⟨env, he, hf⟩)).2
        rw [Nq.2.2] at ho; cases ho
  refine wpAny_leaving_firstW (a0 := .ref t) K'.stack (funFrames_hide K'.frames hin) rfl He.1 (fun b o hb => of_hideAll _ hb) (hideAll_none _ (.head _)) rfl rfl rfl fun h' hL => ?_
  obtain ⟨k1, ⟨_, _, k2⟩, k3, k4⟩ := hL
  have R : RaisedSN base g outer e (.ref 146) news h' := ⟨_, .ref t, st, sg, hl, k1, hideAll_none _ (.head _), k2, k3⟩
  exact hQ h' R R.toN ((Heap.UpToSlots.of_keeps F.keep).trans k4)
end

abbrev illObj : Obj := excClassObj "IllegalMonthError" "IllegalMonthError" 146 145 [.type "ValueError", .type "IndexError"] [.type "ValueError", .type "IndexError", .type "LookupError", .type "Exception", .type "BaseException", .type "object"] true [] [] false none none
  (some (.ref 123)) none (some (.str "IllegalMonthError" 522)) (some (.str "IllegalMonthError" 530)) (some (.bool true)) "ValueError.__new__"
theorem ill_at {w : World} {h : Heap} (X : (Mine.hd.heap_39 w.params).In h) : h.get? 146 = some illObj := X _ _ (by kernel_rfl)

theorem raise_ill {M : Model} {A : Around} {E : Value → Shared → Prop} {s : Shared} {env : Env} {exc : Expr} {pos : Pos} {Q : Flow → Shared → Prop} (hh : A.handled = none)
    (h : wpAny M A (eval exc env) (fun v s₁ => ∃ e t d, v = .ref e ∧ s₁.heap.get? 146 = some illObj ∧ s₁.heap.get? e = some (excD t d) ∧ E (.ref e) s₁) E s) :
    wpAny M A (exec (.Raise (some exc) none pos) env) Q E s := by
  have hcB : (Value.ref 146 :: [.type "ValueError", .type "IndexError", .type "LookupError", .type "Exception", .type "BaseException", .type "object"]).contains (.type "BaseException") = true := by decide +kernel
  rw [arm_exec_Raise]
  refine wpAny_bind (wpAny_standAt ?_)
  simp only [evalOpt, Option.map]
  unfold raiseStmt
  refine wpAny_bind (wpAny_bind (wpAny_mono h (fun v s₁ h₁ => ?_) fun _ _ x => x))
  refine wpAny_bind (wpAny_standAt (wpAny_pure ?_))
  obtain ⟨e, t, d, rfl, hC, he, hE⟩ := h₁
  obtain ⟨hp, g, dr, tk, os⟩ := s₁
  repeat (first | with_reducible refine wpAny_loadPart_at he ?_ | with_reducible refine wpAny_loadPart_at hC ?_ | (with_reducible refine wpAny_isSubtype_exc hC ?_; rw [hcB]) | wp_step)
  exact wpAny_raiseNew_none hh hE
end Mine

theorem Mine.anewG3 : True ∧ True := by
  w_top off
  first | (walk1; done) | exact ⟨trivial, trivial⟩

-- G3
namespace Mine
open PySem.Calls
open PySem.Builtin PySem.Builtin.ObjectAttr

section
variable {w : World} {h : Heap} (X : (Mine.hd.heap_39 w.params).In h)
theorem ill_new {prog : Program} {k : Int} {tk : Tok} (X : (Mine.hd.heap_39 w.params).In h) : Looks (model prog w) h (checkBuiltinCall "ValueError.__new__" ⟨[.ref 146, .int k tk], []⟩) () := Looks.of_peek X (by kernel_rfl)
theorem ill_initL {prog : Program} (X : (Mine.hd.heap_39 w.params).In h) : Looks (model prog w) h (typeLookup (.ref 146) "__init__") (some (.ref 136)) := Looks.of_peek X (by kernel_rfl)
theorem ill_fn {prog : Program} (X : (Mine.hd.heap_39 w.params).In h) : Looks (model prog w) h (typeOf (.ref 136)) (.type "function") := Looks.of_peek X (by kernel_rfl)
end

abbrev bmIll : List Value := [.type "ValueError", .type "IndexError", .type "LookupError", .type "Exception", .type "BaseException", .type "object"]

theorem News_tail {h₀ h : Heap} {L : Addr} {q : Addr × Obj} {news : List (Addr × Obj)} (N : News h₀ L h (q :: news)) : News h₀ L h news := fun x hx => N x (.tail _ hx)

theorem new_ill {prog : Program} {w : World} {A : Around} {R : Result → Shared → Prop} {h : Heap} {g : Array GenState} {d : Drawn} {t : Nat} {os : OsState} {rest : List Value} (hC : h.get? 146 = some illObj)
    (hq : R (.ok (.ret (.ref (h.objs.size + 1)))) ⟨(h.push { cls := .type "tuple", data := .seq rest.toArray }).push (exc0 h.objs.size), g, d, t, os⟩) (hrest : rest.length ≤ sizeLine) :
    codeAny (model prog w) A (.builtin "ValueError.__new__" ⟨.ref 146 :: rest, []⟩) R ⟨h, g, d, t, os⟩ := by
  have F := PySem.F.excBase_ValueError
  have hends := F.ends
  have hcB : (Value.ref 146 :: bmIll).contains (.type "ValueError") = true := by decide +kernel
  have hcA : (Value.ref 146 :: bmIll).contains (.type "AttributeError") = false := by decide +kernel
  have hcN : (Value.ref 146 :: bmIll).contains (.type "NameError") = false := by decide +kernel
  refine codeAny_builtinAt F.entry ?_
  unfold Builtin.«BaseException.__new__»
  refine PySem.wpAt_bind ?_
  show PySem.wpAt _ _ _ (stack >>= _) _ _ _
  refine PySem.wpAt_bind (PySem.wpAt_stack fun p below => PySem.wpAt_of_wpAny ?_)
  wp_walk
  refine PySem.wpAt_of_wpAny ?_
  rw [F.owner]
  repeat (first | with_reducible refine wpAny_madeHere_exc F.canon hC ?_ | with_reducible refine wpAny_loadPart_at hC ?_ | (with_reducible refine wpAny_isSubtype_exc hC ?_; first | rw [hcB] | rw [hcA] | rw [hcN]) | wp_step)
  show R _ _
  rw [Heap.size_push]
  exact hq

theorem illegal_call {w : World} {p : Program} {loose : List Str} {mean : ExcName → Option Value} {mg mb : Str → Option Value} {A A₀ : Around} {E : Value → Shared → Prop} {base h₀ : Heap} {outer : List Env} {env : Env} {L : Addr} {m : Str → Option Value} {news : List (Addr × Obj)} {s : Shared} {k : Int} {tk : Tok} {Q : Value → Shared → Prop}
    (B : Below A₀ base outer h₀) (F : Fr h₀ L s.heap m) (X : (Mine.hd.heap_39 w.params).In h₀) (N : News h₀ L s.heap news) (T : Top p loose mean mg mb h₀) (hA : A.frames = some (env :: outer)) (hf : env.frame = some L) (hk : env.scope.kind = .function) (hroom : A.depth + 1 < recursionLimit)
    (hq : ∀ h' e t d tk', Fr h₀ L h' m → News h₀ L h' ((e, excD t d) :: news) → (∀ q ∈ news, q.1 ≠ e) → Q (.ref e) { s with heap := h', toks := tk' }) :
    wpAny (model PySem.Challenge.rw_ak5001_01.row.prog w) A (call (.ref 146) [.int k tk]) Q E s := by
  obtain ⟨hp, g, dr, tk0, os⟩ := s
  have Xs : (Mine.hd.heap_39 w.params).In hp := X.keeps F.keep
  have hC := ill_at Xs
  have f1 := tc_lookup
  have f2 := tc_bind (.ref 146)
  have hT : (⟨hp, g, dr, tk0, os⟩ : Shared).TypeIs (.ref 146) "type" := ⟨_, hC, rfl⟩
  refine wpAny_call (codeAny_of_tree ?_)
  show wpAny _ _ (callAny (.ref 146) _) _ _ _
  repeat (any_goals (first | assumption | with_reducible refine wpAny_loadPart_at hC ?_ | wp_step))
  refine ⟨rfl, ?_⟩
  refine codeAny_call_builtin_at (Code.quiet_builtin _ (by decide +kernel)) entry_typeCall (wpAny_check_type_call_sub hC ?_)
  repeat (first | with_reducible refine wpAny_loadPart_at hC ?_ | with_reducible refine wpAny_madeBy_exc hC ?_ | wp_step)
  refine codeAny_call_builtin_code (Code.quiet_builtin _ PySem.F.excBase_ValueError.quiet) ((ill_new Xs).at ?_)
  refine new_ill hC ?_ (Nat.le_of_ble_eq_true rfl)
  show wpAny _ _ _ _ _ _
  have N1 : News h₀ L ((hp.push { cls := .type "tuple", data := .seq #[Value.int k tk] }).push (exc0 hp.objs.size)) ((hp.objs.size + 1, exc0 hp.objs.size) :: news) := by
    have N2 := News.push (F.push _) (News_tail (N.push F { cls := .type "tuple", data := .seq #[Value.int k tk] })) (exc0 hp.objs.size)
    rwa [Heap.size_push] at N2
  have X1 : (Mine.hd.heap_39 w.params).In ((hp.push { cls := .type "tuple", data := .seq #[Value.int k tk] }).push (exc0 hp.objs.size)) := fun a o ha => Heap.get?_push_of_some _ (Heap.get?_push_of_some _ (Xs a o ha))
  have hC₁ := ill_at X1
  have hget : ((hp.push { cls := .type "tuple", data := .seq #[Value.int k tk] }).push (exc0 hp.objs.size)).get? (hp.objs.size + 1) = some (exc0 hp.objs.size) := (N1 _ (.head _)).1
  have hcC : (Value.ref 146 :: bmIll).contains (.ref 146) = true := by decide +kernel
  unfold isInstance
  repeat (first | with_reducible refine wpAny_loadPart_at hget ?_ | wp_step)
  show wpAny _ _ (PySem.isSubtype (.ref 146) (.ref 146)) _ _ _
  refine wpAny_isSubtype_exc hC₁ ?_
  rw [hcC]
  wp_step
  repeat (first | with_reducible refine wpAny_loadPart_at hget ?_ | wp_step)
  show wpAny _ _ (typeLookup (.ref 146) _) _ _ _
  refine (ill_initL X1).at ?_
  refine wpAny_holding (wpAny_bind ?_)
  unfold bindSpecial
  refine wpAny_bind ((ill_fn X1).at ?_)
  rw [if_pos (by decide)]
  refine wpAny_pure (wpAny_bind ?_)
  have off : ∀ q ∈ news, q.1 ≠ hp.objs.size + 1 := fun q hq' e => by
    have z := Heap.lt_size (N q hq').1
    rw [e] at z
    exact absurd z (by simp)
  refine illegal_init (A₀ := A₀) (base := base) (outer := outer) (h₀ := h₀) (L := L) (m := m) (env := env) B ((F.push _).push _) X N1 off T hA hf hk ?_ fun h' d tk' F' N' => ?_
  · show A.depth + 1 < _
    exact hroom
  · wp_walk
    exact hq _ _ _ _ _ F' N' off
end Mine

theorem Mine.anewG4 : True ∧ True := by
  w_top off
  first | (walk1; done) | exact ⟨trivial, trivial⟩

-- G4
namespace Mine
open PySem.Calls
open PySem.Builtin._datetime

local macro_rules | `(tactic| walk_at "call ref") => `(tactic| (k_here; k_dflt (refine wpAny_call ?_; refine' code_def ?k1 ?k2 ?k3 ?k4 ?k5 ?kA ?kF ?kK ?k6 ?k7 ?k8 ?k9 ?kB ?_ ?c2 ?c3 ?c4 ?c5; (case kA => exact rfl); (case kF => exact rfl); (case kK => first | exact rfl | assumption); (case k1 => k_asm); (case k2 => k_asm); (case k3 => k_asm); (case k4 => k_asm); (case k5 => k_asm); (case k6 => k_is); (case k7 => k_is); (case k8 => first | (show _ < _; omega) | ktr_room); (case k9 => first | exact BindsTo.of_eq rfl | exact binds_K (by k_in) rfl (by k_is) rfl rfl rfl); (case c5 => decide); (case kB => exact locs rfl); (case c2 => exact rfl); (case c3 => exact rfl); (case c4 => exact rfl); k_whole; intro g' L' h' FG' F' N' B' X' T'; (try dsimp only); (try k_lift B'); (try k_fold))))
local macro_rules | `(tactic| walk_at "call ref") => `(tactic| (k_here; (with_reducible show wpAny _ _ (PySem.call (Value.ref 146) [Value.int _ _]) _ _ _); (with_reducible rename Frag.In _ _ => kX); k_dflt (refine' illegal_call ?B ?F ?X ?N ?T ?kA ?kF ?kK ?kd ?_; (case B => k_asm); (case F => k_asm); (case X => k_asm); (case N => k_asm); (case T => k_asm); (case kA => exact rfl); (case kF => exact rfl); (case kK => first | exact rfl | assumption); (case kd => first | (show _ < _; omega) | ktr_room); intro h' e' t' d' tk' F' N' off'; refine ⟨e', t', d', rfl, ill_at (Frag.In.keeps kX (Fr.keep F')), (N' _ (.head _)).1, ?_⟩; k_whole; (try dsimp only); (try k_fold))))
local macro_rules | `(tactic| walk_at "exec Raise some none") => `(tactic| (k_here; (with_reducible show wpAny _ _ (exec (Stmt.Raise (some (Expr.Call (Expr.Name ("IllegalMonthError" : Str) _) _ _ _)) none _) _) _ _ _); k_dflt (refine' raise_ill ?hh ?_; (case hh => exact rfl); k_whole)))
local macro_rules | `(tactic| walk_at "leaving ref") => `(tactic| (k_here; k_dflt (refine' leave_ill ?B ?F ?N ?off ?_; (case B => k_asm); (case F => k_asm); (case N => k_asm); (case off => assumption); k_whole; intro h' R' R'' U'; (try dsimp only); (try k_fold))))
theorem asked_C0_c {w : World} {p : Program} {loose : List Str} {mean : ExcName → Option Value} {mg mb : Str → Option Value} {t t₂ t₃ t₄ : Tok} {n d y : Int} (hn0 : 0 ≤ n) (hn5 : n ≤ 5) (hd0 : 0 ≤ d) (hd6 : d ≤ 6) :
    Asked w p loose mean mg mb 489 6 [.int n t, .int d t₂, .int (0) t₃, .int y t₄] (fun news news' v => (∃ t, v = .str (Str.ofString "ValueError") t) ∧ news' = news) := by
  refine fillOf (w := w) ?_
  k_fill
  intro _
  k_dflt (refine' asked_def (K := Mine.hd.heap_39 w.params) (binds := [(PySem.Str.ofString "place", .int n t), (PySem.Str.ofString "day", .int d t₂), (PySem.Str.ofString "month", .int 0 t₃), (PySem.Str.ofString "year", .int y t₄)]) rfl ?k6 ?k7 ?k9 ?kB ?_ ?c1 ?c2 ?c3 ?c4 ?c5; (case k6 => k_is); (case k7 => k_is); (case k9 => intro s; exact BindsTo.of_eq rfl); (case c5 => decide); (case kB => exact locs rfl); (case c1 => decide); (case c2 => exact rfl); (case c3 => exact rfl); (case c4 => exact rfl); k_whole; intro dp un gd cn cs a ccd cl A₀ base h₀ L m news s Q E B F XB X₀ N TB T hkk hdp hun hret g L' h' tk F' N' B' X' T' D'; (try dsimp only); (try k_fold))
  k_steps
  all_goals first
    | exact hret _ _ _ _ (by k_asm) (by k_asm) ⟨⟨_, rfl⟩, rfl⟩
    | (exfalso; omega)
theorem asked_C13_c {w : World} {p : Program} {loose : List Str} {mean : ExcName → Option Value} {mg mb : Str → Option Value} {t t₂ t₃ t₄ : Tok} {n d y : Int} (hn0 : 0 ≤ n) (hn5 : n ≤ 5) (hd0 : 0 ≤ d) (hd6 : d ≤ 6) :
    Asked w p loose mean mg mb 489 6 [.int n t, .int d t₂, .int (13) t₃, .int y t₄] (fun news news' v => (∃ t, v = .str (Str.ofString "ValueError") t) ∧ news' = news) := by
  refine fillOf (w := w) ?_
  k_fill
  intro _
  k_dflt (refine' asked_def (K := Mine.hd.heap_39 w.params) (binds := [(PySem.Str.ofString "place", .int n t), (PySem.Str.ofString "day", .int d t₂), (PySem.Str.ofString "month", .int 13 t₃), (PySem.Str.ofString "year", .int y t₄)]) rfl ?k6 ?k7 ?k9 ?kB ?_ ?c1 ?c2 ?c3 ?c4 ?c5; (case k6 => k_is); (case k7 => k_is); (case k9 => intro s; exact BindsTo.of_eq rfl); (case c5 => decide); (case kB => exact locs rfl); (case c1 => decide); (case c2 => exact rfl); (case c3 => exact rfl); (case c4 => exact rfl); k_whole; intro dp un gd cn cs a ccd cl A₀ base h₀ L m news s Q E B F XB X₀ N TB T hkk hdp hun hret g L' h' tk F' N' B' X' T' D'; (try dsimp only); (try k_fold))
  k_steps
  all_goals first
    | exact hret _ _ _ _ (by k_asm) (by k_asm) ⟨⟨_, rfl⟩, rfl⟩
    | (exfalso; omega)
end Mine

-- Cut
namespace Mine
open PySem.Calls

theorem cutWp {M : Model} {A : Around} {E : Value → Shared → Prop} {env : Env} {Q : Flow → Shared → Prop} {P : Shared → Prop} {Γ : Ctx} (hΓ : Γ.In A) :
    ∀ (n : Nat) (body : List Stmt), (∀ s', P s' → wpAny M A (execs (body.drop n) env) Q E s') → ∀ p s, Sem.wp M Γ (execs (body.take n) env) (fun a _ s' => a = .next ∧ P s') (fun e _ s' => E e s') p s → Sem.wp M Γ (execs body env) (fun a _ s' => Q a s') (fun e _ s' => E e s') p s
  | 0, body, h2, p, s, h => h2 s h.2 Γ p hΓ
  | n + 1, [], h2, p, s, h => h2 s h.2 Γ p hΓ
  | n + 1, st :: body, h2, p, s, h => by
    rw [List.take_succ_cons, execs_cons, Sem.wp_bind'] at h
    rw [execs_cons, Sem.wp_bind']
    refine Sem.wp_mono M Γ _ (fun f p' s' h' => ?_) (fun _ _ _ h' => h') _ _ h
    cases f with
    | next => exact cutWp hΓ n body h2 p' s' h'
    | _ => exact nomatch h'.1
/-- the first n statements come through and leave P, the rest go on from P -/
theorem cutAt {M : Model} {A : Around} {E : Value → Shared → Prop} {env : Env} {Q : Flow → Shared → Prop} {body : List Stmt} {s : Shared} (n : Nat) (P : Shared → Prop) 
    (h1 : wpAny M A (execs (body.take n) env) (fun fl s' => fl = .next ∧ P s') E s) (h2 : ∀ s', P s' → wpAny M A (execs (body.drop n) env) Q E s') : wpAny M A (execs body env) Q E s :=
  fun Γ p hΓ => cutWp hΓ n body h2 p s (h1 Γ p hΓ)

def St (h₀ : Heap) (L : Addr) (s₁ : Shared) (m : Str → Option Value) (news : List (Addr × Obj)) (s' : Shared) : Prop := ∃ h' tk', s' = { s₁ with heap := h', toks := tk' } ∧ Fr h₀ L h' m ∧ News h₀ L h' news
end Mine

-- PL
namespace Mine
open PySem.Calls
open PySem.Builtin._datetime PySem.Builtin PySem.Builtin.Time

abbrev lens (y : Int) : List Int := [31, lawFirst (y + 1) - lawFirst y - 337, 31, 30, 31, 30, 31, 31, 30, 31, 30, 31]
abbrev numOf (y m : Int) : Int := lawFirst y + (List.take (m - 1).toNat (lens y)).sum - 1

theorem leap_iff (y : Int) : leap y = true ↔ (y % 4 = 0 ∧ (y % 100 ≠ 0 ∨ y % 400 = 0)) := by
  unfold leap
  simp only [Bool.and_eq_true, Bool.or_eq_true, beq_iff_eq, bne_iff_ne, ne_eq]
theorem max0 (a : Int) : max 0 a = if 0 ≤ a then a else 0 := by
  split <;> omega
theorem first_step (y : Int) : lawFirst (y + 1) - lawFirst y - 337 = 28 + (if leap y = true then 1 else 0) := by
  have hp : (y - 2000) % 400 = y % 400 := by omega
  have hq : (y + 1 - 2000) % 400 = (y + 1) % 400 := by omega
  unfold lawFirst
  rw [max0, max0]
  have hl := leap_iff y
  by_cases hy : leap y = true
  · rw [if_pos hy]
    have := hl.mp hy
    omega
  · rw [if_neg hy]
    have : ¬ (y % 4 = 0 ∧ (y % 100 ≠ 0 ∨ y % 400 = 0)) := fun h => hy (hl.mpr h)
    omega
theorem m12 {m : Int} (h1 : 1 ≤ m) (h2 : m ≤ 12) : m = 1 ∨ m = 2 ∨ m = 3 ∨ m = 4 ∨ m = 5 ∨ m = 6 ∨ m = 7 ∨ m = 8 ∨ m = 9 ∨ m = 10 ∨ m = 11 ∨ m = 12 := by omega
theorem lens_get {y m : Int} (h1 : 1 ≤ m) (h2 : m ≤ 12) : (lens y).getD (m - 1).toNat 0 = mlen y m := by
  have e := first_step y
  unfold lens mlen mdaysOf
  rcases m12 h1 h2 with h | h | h | h | h | h | h | h | h | h | h | h <;> subst h <;> (try rfl)
  show lawFirst (y + 1) - lawFirst y - 337 = 28 + _
  rw [e]
  cases leap y <;> rfl
theorem mlen_bd {y m : Int} (h1 : 1 ≤ m) (h2 : m ≤ 12) : 28 ≤ mlen y m ∧ mlen y m ≤ 31 := by
  unfold mlen mdaysOf
  rcases m12 h1 h2 with h | h | h | h | h | h | h | h | h | h | h | h <;> subst h <;> (cases leap y <;> decide)
/-- the days before the month, by the law's lengths -/
theorem sum_before {y m : Int} (h1 : 1 ≤ m) (h2 : m ≤ 12) : (List.take (m - 1).toNat (lens y)).sum = timeDaysBefore (leap y) m := by
  have e := first_step y
  unfold lens
  rw [e]
  rcases m12 h1 h2 with h | h | h | h | h | h | h | h | h | h | h | h <;> subst h <;> (cases leap y <;> rfl)
theorem leap_in (y : Int) : leap (yearIn y) = leap y := by
  unfold yearIn
  split
  · rfl
  · have h1 := leap_iff (2000 + y % 400)
    have h2 := leap_iff y
    cases a : leap (2000 + y % 400) <;> cases b : leap y <;> simp only [a, b] at h1 h2 ⊢ <;> simp at h1 h2 <;> omega
theorem ord_wk {q p y : Int} (h0 : 0 ≤ p) (h4 : p < 400) (hy : y = 2000 + 400 * q + p) :
    ((y - 1) * 365 + (y - 1) / 4 - (y - 1) / 100 + (y - 1) / 400 + 1 + 6) % 7 = (365 * p + (p + 3) / 4 - (if 0 ≤ p - 1 then p - 1 else 0) / 100 + 5) % 7 := by
  have e4 : (y - 1) / 4 = 100 * q + 499 + (p + 3) / 4 := by omega
  by_cases hp : 0 ≤ p - 1
  · rw [if_pos hp]
    have e100 : (y - 1) / 100 = 4 * q + 20 + (p - 1) / 100 := by omega
    have e400 : (y - 1) / 400 = q + 5 := by omega
    rw [e4, e100, e400, hy]
    generalize (p + 3) / 4 = a
    generalize (p - 1) / 100 = b
    omega
  · have hz : p = 0 := by omega
    subst hz
    rw [if_neg hp]
    have e100 : (y - 1) / 100 = 4 * q + 19 := by omega
    have e400 : (y - 1) / 400 = q + 4 := by omega
    rw [e4, e100, e400, hy]
    omega
theorem first_wk (y : Int) : (lawFirst y - 2451545 + 5) % 7 = weekdayOf ((yearIn y - 1) * 365 + (yearIn y - 1) / 4 - (yearIn y - 1) / 100 + (yearIn y - 1) / 400 + 1) := by
  have hp0 : 0 ≤ (y - 2000) % 400 := by omega
  have hp4 : (y - 2000) % 400 < 400 := by omega
  unfold weekdayOf lawFirst yearIn
  rw [max0]
  by_cases hy : 1 ≤ y ∧ y ≤ 9999
  · simp only [if_pos hy]
    rw [ord_wk hp0 hp4 (show y = 2000 + 400 * ((y - 2000) / 400) + (y - 2000) % 400 by omega)]
    generalize (y - 2000) % 400 = p
    generalize (p + 3) / 4 = a
    generalize (if 0 ≤ p - 1 then p - 1 else 0) / 100 = b
    omega
  · simp only [if_neg hy]
    rw [ord_wk hp0 hp4 (show 2000 + y % 400 = 2000 + 400 * 0 + (y - 2000) % 400 by omega)]
    generalize (y - 2000) % 400 = p
    generalize (p + 3) / 4 = a
    generalize (if 0 ≤ p - 1 then p - 1 else 0) / 100 = b
    omega
theorem num_key {y m : Int} (h1 : 1 ≤ m) (h2 : m ≤ 12) : (numOf y m + 1 - 2451545 + 5) % 7 = wkd y m := by
  unfold numOf wkd toOrdinal
  rw [sum_before h1 h2]
  have e := first_wk y
  have hl : timeIsLeap (yearIn y) = leap y := leap_in y
  simp only [hl]
  unfold weekdayOf at e ⊢
  generalize (yearIn y - 1) * 365 + (yearIn y - 1) / 4 - (yearIn y - 1) / 100 + (yearIn y - 1) / 400 = a at e ⊢
  omega

def dayIn (nb d k : Int) : Bool := decide ((nb + k - 2451545 + 5) % 7 = d)
theorem days_of {nb d ml fw : Int} {n : Nat} (hn : (n : Int) = ml) (h28 : 28 ≤ ml) (h31 : ml ≤ 31) (hd0 : 0 ≤ d) (hd6 : d ≤ 6) (hf : fw = 1 + (d - (nb + 1 - 2451545 + 5) % 7) % 7) :
    (rangeKs 1 n).filter (dayIn nb d) = if fw + 28 ≤ ml then [fw, fw + 7, fw + 14, fw + 21, fw + 28] else [fw, fw + 7, fw + 14, fw + 21] := by
  have hb : dayIn nb d = fun k => decide ((k - fw) % 7 = 0) := by
    funext k
    unfold dayIn
    rw [decide_eq_decide]
    omega
  rw [hb]
  have hw : fw = 1 ∨ fw = 2 ∨ fw = 3 ∨ fw = 4 ∨ fw = 5 ∨ fw = 6 ∨ fw = 7 := by omega
  have hc : n = 28 ∨ n = 29 ∨ n = 30 ∨ n = 31 := by omega
  clear hf hb
  subst hn
  rcases hc with rfl | rfl | rfl | rfl <;> rcases hw with rfl | rfl | rfl | rfl | rfl | rfl | rfl <;> decide +kernel
end Mine

-- Tup
namespace Mine
open PySem.Calls

theorem reads3 {h : Heap} {D : Addr} {y m a : Int} {t1 t2 t3 : Tok} (hD : h.get? D = some (tup3 y m a t1 t2 t3)) : Reads h (.ref D) (.tuple [.int y, .int m, .int a]) [] :=
  reads_tuple_at hD rfl rfl (.cons (as := []) (.int _ _) (.cons (as := []) (.int _ _) (.cons (as := []) (.int _ _) .nil)))
theorem eq_tup3 {prog : Program} {w : World} {A : Around} {E : Value → Shared → Prop} {s : Shared} {h₀ : Heap} {L D D' : Addr} {news : List (Addr × Obj)} {y m a b : Int} {t1 t2 t3 u1 u2 u3 : Tok} {Q : Value → Shared → Prop}
    (N : News h₀ L s.heap news) (hD : (D, tup3 y m a t1 t2 t3) ∈ news) (hE : (D', tup3 y m b u1 u2 u3) ∈ news) (hu : A.units + 64 < cLine) (e : a = b) (h : Q (.bool true) s) :
    wpAny (model prog w) A (compareOp .Eq (.ref D) (.ref D')) Q E s := by
  subst e
  refine eq_dataH_same (reads3 (N.get hD)) (reads3 (N.get hE)) rfl rfl hu rfl ?_
  have : PySem.Spec.same (.tuple [.int y, .int m, .int a]) (.tuple [.int y, .int m, .int a]) = true := by simp [PySem.Spec.same, PySem.Spec.sameAll]
  rw [this]
  exact h
end Mine

theorem Mine.anewLawT : True ∧ True := by
  w_top off
  first | (walk1; done) | exact ⟨trivial, trivial⟩

-- LawT
namespace Mine
open PySem.Calls

theorem nums_lt (l : List Int) (i : Nat) : ((List.map (fun k' => if -10000000 < k' ∧ k' < 10000000 then k' else if -10000000 < k' ∧ ¬k' < 10000000 then k'.fmod 10000000 else k'.fmod 10000000) (List.take 7 l) ++ [0, 0, 0, 0, 0, 0, 0]).getD i 0).natAbs < 10000000 := by
  have key : ∀ (q : List Int) (i : Nat), (∀ k ∈ q, k.natAbs < 10000000) → (q.getD i 0).natAbs < 10000000 := by
    intro q i h
    rw [List.getD_eq_getElem?_getD]
    cases e : q[i]? with
    | none => decide
    | some k => exact h k (List.mem_of_getElem? e)
  refine key _ _ fun k hk => ?_
  rcases List.mem_append.mp hk with hk | hk
  · obtain ⟨j, _, rfl⟩ := List.mem_map.mp hk
    have e := fmodp j (show (0 : Int) ≤ 10000000 by decide)
    split
    · omega
    · split <;> (rw [e]; omega)
  · have : k = 0 := by simpa using hk
    subst this; decide
theorem nums_len (l : List Int) : 7 ≤ (List.map (fun k' => if -10000000 < k' ∧ k' < 10000000 then k' else if -10000000 < k' ∧ ¬k' < 10000000 then k'.fmod 10000000 else k'.fmod 10000000) (List.take 7 l) ++ [0, 0, 0, 0, 0, 0, 0]).length := by
  simp

/-- what the law holds after its fourth statement -/
def P1 (h₀ : Heap) (L : Addr) (s1 : Shared) (s' : Shared) : Prop :=
  ∃ (D : Addr) (ws : List Value) (ns : List Int) (oa ob : Obj) (n d : Int) (x : UInt64) (tn td tx : Tok) (m0 : Str → Option Value),
    IntsAre ws ns ∧ 7 ≤ ns.length ∧ (∀ i, (ns.getD i 0).natAbs < 10000000) ∧ oa.data = .cell (some (.int n tn)) ∧ ob.data = .cell (some (.int d td)) ∧ n.natAbs < 10000000 ∧ 0 ≤ d ∧ d ≤ 6 ∧ IsH x (2 * n - 1) ∧
    St h₀ L s1 (fun y => if y = Str.ofString "night" then some (.float x tx) else if y = Str.ofString "numbers" then some (.ref D) else m0 y) [(D, W.listOf ws.toArray 0), (L + 1 + 1, ob), (L + 1, oa)] s'
theorem P1.intro {h₀ h' : Heap} {L D : Addr} {s1 : Shared} {ws : List Value} {script : List Int} {oa ob : Obj} {n d : Int} {x : UInt64} {tn td tx : Tok} {m0 : Str → Option Value} {tk' : Nat} {e1 e2 e3 : Addr × Obj}
    (N : News h₀ L h' [(D, W.listOf ws.toArray 0), e1, e2, e3, (L + 1 + 1, ob), (L + 1, oa)])
    (F : Fr h₀ L h' (fun y => if y = Str.ofString "night" then some (.float x tx) else if y = Str.ofString "numbers" then some (.ref D) else m0 y))
    (hI : IntsAre ws (List.map (fun k' => if -10000000 < k' ∧ k' < 10000000 then k' else if -10000000 < k' ∧ ¬k' < 10000000 then k'.fmod 10000000 else k'.fmod 10000000) (List.take 7 script) ++ [0, 0, 0, 0, 0, 0, 0]))
    (ha : oa.data = .cell (some (.int n tn))) (hb : ob.data = .cell (some (.int (d.fmod 7) td))) (hn : n.natAbs < 10000000) (hx : x = Float64.sub (Float64.ofInt n) 4602678819172646912) :
    P1 h₀ L s1 { s1 with heap := h', toks := tk' } := by
  subst hx
  refine ⟨_, _, _, _, _, _, _, _, _, _, _, _, hI, nums_len script, fun i => nums_lt script i, ha, hb, hn, ?_, ?_, night_H (by omega), _, _, rfl, F, fun q hq => N q ?_⟩
  · rw [fmod7]; omega
  · rw [fmod7]; omega
  · rcases List.mem_cons.mp hq with rfl | hq
    · exact .head _
    · exact List.mem_append_right [_, _, _, _] hq

theorem PureN.use {w : World} {p : Program} {loose : List Str} {mean : ExcName → Option Value} {mg mb : Str → Option Value} {f : Addr} {d : Nat} {vs : List Value} {G : Value → Prop} (H : PureN w p loose mean mg mb f d vs G)
    {dp un : Nat} {gd : Option (List Code)} {cn : Str} {cs : Scope} {a : Addr} {ccd : Value} {cl : List (Str × Addr)} {outer : List Env} {A₀ : Around} {base h₀ : Heap} {L : Addr} {m : Str → Option Value} {news : List (Addr × Obj)} {s : Shared} {Q E : Value → Shared → Prop}
    (B : Below A₀ base outer h₀) (F : Fr h₀ L s.heap m) (X : (Mine.hd.heap_39 w.params).In h₀) (N : News h₀ L s.heap news) (T : Top p loose mean mg mb h₀) (hk : cs.kind = .function) (hd : dp + d < recursionLimit) (hu : un + 8 * d < cLine)
    (ret : ∀ r h' tk', Fr h₀ L h' m → News h₀ L h' news → G r → Q r { s with heap := h', toks := tk' }) :
    wpAny (model PySem.Challenge.rw_ak5001_01.row.prog w) (ktrTop dp un gd cn cs L a ccd cl outer) (call (.ref f) vs) Q E s := H _ _ _ _ _ _ _ _ _ _ _ _ _ _ _ _ _ _ B F X N T hk hd hu ret
theorem Asked.use {w : World} {p : Program} {loose : List Str} {mean : ExcName → Option Value} {mg mb : Str → Option Value} {f : Addr} {d : Nat} {vs : List Value} {G : List (Addr × Obj) → List (Addr × Obj) → Value → Prop} (H : Asked w p loose mean mg mb f d vs G)
    {dp un : Nat} {gd : Option (List Code)} {cn : Str} {cs : Scope} {a : Addr} {ccd : Value} {cl : List (Str × Addr)} {A₀ : Around} {base h₀ : Heap} {L : Addr} {m : Str → Option Value} {news : List (Addr × Obj)} {s : Shared} {Q E : Value → Shared → Prop}
    (B : Below A₀ base [] h₀) (F : Fr h₀ L s.heap m) (XB : (Mine.hd.heap_39 w.params).In base) (X : (Mine.hd.heap_39 w.params).In h₀) (N : News h₀ L s.heap news) (TB : Top p loose mean mg mb base) (T : Top p loose mean mg mb h₀) (hk : cs.kind = .function) (hd : dp + d < recursionLimit) (hu : un + 8 * d < cLine)
    (ret : ∀ r h' tk' news', Fr h₀ L h' m → News h₀ L h' news' → G news news' r → Q r { s with heap := h', toks := tk' }) :
    wpAny (model PySem.Challenge.rw_ak5001_01.row.prog w) (ktrTop dp un gd cn cs L a ccd cl []) (call (.ref f) vs) Q E s := H _ _ _ _ _ _ _ _ _ _ _ _ _ _ _ _ _ B F XB X N TB T hk hd hu ret
theorem ne_half {prog : Program} {w : World} {A : Around} {E : Value → Shared → Prop} {s : Shared} {a b : UInt64} {t u : Tok} {i j : Int} {Q : Value → Shared → Prop} (hx : IsH a i) (hy : IsH b j) (e : i = j) (h : Q (.bool false) s) :
    wpAny (model prog w) A (compareOp .NotEq (.float a t) (.float b u)) Q E s := by
  refine PySem.AutoFloatOps.ne_0 ?_
  rw [hx.cmp hy, e]
  simpa using h
theorem ne_same {prog : Program} {w : World} {A : Around} {E : Value → Shared → Prop} {s : Shared} {t u : Tok} {i j : Int} {Q : Value → Shared → Prop} (e : i = j) (h : Q (.bool false) s) :
    wpAny (model prog w) A (compareOp .NotEq (.int i t) (.int j u)) Q E s := by
  refine ne_int ?_
  subst e
  simpa using h
local macro_rules | `(tactic| walk_at "compareOp NotEq float float") => `(tactic| (k_here; k_dflt (refine' ne_half ?hx ?hy ?he ?_; (case hx => first | assumption | exact IsH.add (by assumption) (isH_ofInt (by omega)) (by omega)); (case hy => first | assumption | exact IsH.add (by assumption) (isH_ofInt (by omega)) (by omega)); (case he => omega); k_whole)))
local macro_rules | `(tactic| walk_at "compareOp NotEq int int") => `(tactic| (k_here; k_dflt (refine' ne_same ?he ?_; (case he => simp only [fmod7]; omega); k_whole)))
local macro_rules | `(tactic| walk_at "call ref") => `(tactic| (k_here; (with_reducible show wpAny _ _ (PySem.call (Value.ref 66) [Value.float _ _]) _ _ _); k_dflt (refine' Pure.use (jwday_c ?hx ?hn) ?k1 ?k2 ?k3 ?k4 ?k5 ?kK ?kd ?ku ?_; (case hx => assumption); (case hn => omega); (case k1 => k_asm); (case k2 => k_asm); (case k3 => k_asm); (case k4 => k_asm); (case k5 => k_asm); (case kK => first | exact rfl | assumption); (case kd => first | omega | (show _ < _; decide) | ktr_room); (case ku => first | omega | (show _ < _; decide) | ktr_units); k_whole; intro r' h' tk' F' N' hG'; obtain ⟨t', hr'⟩ := hG'; subst hr'; (try dsimp only); (try k_sweep); (try k_fold))))
local macro_rules | `(tactic| walk_at "call ref") => `(tactic| (k_here; (with_reducible show wpAny _ _ (PySem.call (Value.ref 73) [Value.int _ _, Value.float _ _]) _ _ _); k_dflt (refine' Pure.use (weekday_before_c ?hx ?hn ?h0 ?h6) ?k1 ?k2 ?k3 ?k4 ?k5 ?kK ?kd ?ku ?_; (case hx => assumption); (case hn => omega); (case h0 => assumption); (case h6 => assumption); (case k1 => k_asm); (case k2 => k_asm); (case k3 => k_asm); (case k4 => k_asm); (case k5 => k_asm); (case kK => first | exact rfl | assumption); (case kd => first | omega | (show _ < _; decide) | ktr_room); (case ku => first | omega | (show _ < _; decide) | ktr_units); k_whole; intro r' h' tk' F' N' hG'; obtain ⟨y', t', hr', hy'⟩ := hG'; subst hr'; (try dsimp only); (try k_sweep); (try k_fold))))
local macro_rules | `(tactic| walk_at "call ref") => `(tactic| (k_here; (with_reducible show wpAny _ _ (PySem.call (Value.ref 87) [Value.int _ _, Value.float _ _]) _ _ _); k_dflt (refine' Pure.use (nearest_weekday_c ?hx ?hn ?h0 ?h6) ?k1 ?k2 ?k3 ?k4 ?k5 ?kK ?kd ?ku ?_; (case hx => assumption); (case hn => omega); (case h0 => assumption); (case h6 => assumption); (case k1 => k_asm); (case k2 => k_asm); (case k3 => k_asm); (case k4 => k_asm); (case k5 => k_asm); (case kK => first | exact rfl | assumption); (case kd => first | omega | (show _ < _; decide) | ktr_room); (case ku => first | omega | (show _ < _; decide) | ktr_units); k_whole; intro r' h' tk' F' N' hG'; obtain ⟨y', t', hr', hy'⟩ := hG'; subst hr'; (try dsimp only); (try k_sweep); (try k_fold))))
local macro_rules | `(tactic| walk_at "call ref") => `(tactic| (k_here; (with_reducible show wpAny _ _ (PySem.call (Value.ref 94) [Value.int _ _, Value.float _ _]) _ _ _); k_dflt (refine' Pure.use (next_weekday_c ?hx ?hn ?h0 ?h6) ?k1 ?k2 ?k3 ?k4 ?k5 ?kK ?kd ?ku ?_; (case hx => assumption); (case hn => omega); (case h0 => assumption); (case h6 => assumption); (case k1 => k_asm); (case k2 => k_asm); (case k3 => k_asm); (case k4 => k_asm); (case k5 => k_asm); (case kK => first | exact rfl | assumption); (case kd => first | omega | (show _ < _; decide) | ktr_room); (case ku => first | omega | (show _ < _; decide) | ktr_units); k_whole; intro r' h' tk' F' N' hG'; obtain ⟨y', t', hr', hy'⟩ := hG'; subst hr'; (try dsimp only); (try k_sweep); (try k_fold))))
local macro_rules | `(tactic| walk_at "call ref") => `(tactic| (k_here; (with_reducible show wpAny _ _ (PySem.call (Value.ref 101) [Value.int _ _, Value.float _ _]) _ _ _); k_dflt (refine' Pure.use (next_or_current_weekday_c ?hx ?hn ?h0 ?h6) ?k1 ?k2 ?k3 ?k4 ?k5 ?kK ?kd ?ku ?_; (case hx => assumption); (case hn => omega); (case h0 => assumption); (case h6 => assumption); (case k1 => k_asm); (case k2 => k_asm); (case k3 => k_asm); (case k4 => k_asm); (case k5 => k_asm); (case kK => first | exact rfl | assumption); (case kd => first | omega | (show _ < _; decide) | ktr_room); (case ku => first | omega | (show _ < _; decide) | ktr_units); k_whole; intro r' h' tk' F' N' hG'; obtain ⟨y', t', hr', hy'⟩ := hG'; subst hr'; (try dsimp only); (try k_sweep); (try k_fold))))
local macro_rules | `(tactic| walk_at "call ref") => `(tactic| (k_here; (with_reducible show wpAny _ _ (PySem.call (Value.ref 108) [Value.int _ _, Value.float _ _]) _ _ _); k_dflt (refine' Pure.use (previous_weekday_c ?hx ?hn ?h0 ?h6) ?k1 ?k2 ?k3 ?k4 ?k5 ?kK ?kd ?ku ?_; (case hx => assumption); (case hn => omega); (case h0 => assumption); (case h6 => assumption); (case k1 => k_asm); (case k2 => k_asm); (case k3 => k_asm); (case k4 => k_asm); (case k5 => k_asm); (case kK => first | exact rfl | assumption); (case kd => first | omega | (show _ < _; decide) | ktr_room); (case ku => first | omega | (show _ < _; decide) | ktr_units); k_whole; intro r' h' tk' F' N' hG'; obtain ⟨y', t', hr', hy'⟩ := hG'; subst hr'; (try dsimp only); (try k_sweep); (try k_fold))))
local macro_rules | `(tactic| walk_at "call ref") => `(tactic| (k_here; (with_reducible show wpAny _ _ (PySem.call (Value.ref 115) [Value.int _ _, Value.float _ _]) _ _ _); k_dflt (refine' Pure.use (previous_or_current_weekday_c ?hx ?hn ?h0 ?h6) ?k1 ?k2 ?k3 ?k4 ?k5 ?kK ?kd ?ku ?_; (case hx => assumption); (case hn => omega); (case h0 => assumption); (case h6 => assumption); (case k1 => k_asm); (case k2 => k_asm); (case k3 => k_asm); (case k4 => k_asm); (case k5 => k_asm); (case kK => first | exact rfl | assumption); (case kd => first | omega | (show _ < _; decide) | ktr_room); (case ku => first | omega | (show _ < _; decide) | ktr_units); k_whole; intro r' h' tk' F' N' hG'; obtain ⟨y', t', hr', hy'⟩ := hG'; subst hr'; (try dsimp only); (try k_sweep); (try k_fold))))
local macro_rules | `(tactic| walk_at "call ref") => `(tactic| (k_here; (with_reducible show wpAny _ _ (PySem.call (Value.ref 80) [Value.int _ _, Value.float _ _, Value.int 1 _, Value.int _ _]) _ _ _); k_dflt (refine' Pure.use (search_p_c ?hx ?hn ?hk ?h0 ?h6) ?k1 ?k2 ?k3 ?k4 ?k5 ?kK ?kd ?ku ?_; (case hx => assumption); (case hn => omega); (case hk => omega); (case h0 => assumption); (case h6 => assumption); (case k1 => k_asm); (case k2 => k_asm); (case k3 => k_asm); (case k4 => k_asm); (case k5 => k_asm); (case kK => first | exact rfl | assumption); (case kd => first | omega | (show _ < _; decide) | ktr_room); (case ku => first | omega | (show _ < _; decide) | ktr_units); k_whole; intro r' h' tk' F' N' hG'; obtain ⟨y', t', hr', hy'⟩ := hG'; subst hr'; (try dsimp only); (try k_sweep); (try k_fold))))
local macro_rules | `(tactic| walk_at "call ref") => `(tactic| (k_here; (with_reducible show wpAny _ _ (PySem.call (Value.ref 80) [Value.int _ _, Value.float _ _, Value.int (-1) _, Value.int _ _]) _ _ _); k_dflt (refine' Pure.use (search_m_c ?hx ?hn ?hk ?h0 ?h6) ?k1 ?k2 ?k3 ?k4 ?k5 ?kK ?kd ?ku ?_; (case hx => assumption); (case hn => omega); (case hk => omega); (case h0 => assumption); (case h6 => assumption); (case k1 => k_asm); (case k2 => k_asm); (case k3 => k_asm); (case k4 => k_asm); (case k5 => k_asm); (case kK => first | exact rfl | assumption); (case kd => first | omega | (show _ < _; decide) | ktr_room); (case ku => first | omega | (show _ < _; decide) | ktr_units); k_whole; intro r' h' tk' F' N' hG'; obtain ⟨y', t', hr', hy'⟩ := hG'; subst hr'; (try dsimp only); (try k_sweep); (try k_fold))))
local macro_rules | `(tactic| walk_at "call ref") => `(tactic| (k_here; (with_reducible show wpAny _ _ (PySem.call (Value.ref 122) [Value.int _ _, Value.float _ _, Value.int _ _]) _ _ _); k_dflt (refine' Pure.use (n_weeks_p_c ?hx ?hn ?hk ?hs ?h0 ?h6) ?k1 ?k2 ?k3 ?k4 ?k5 ?kK ?kd ?ku ?_; (case hx => assumption); (case hn => omega); (case hk => omega); (case hs => omega); (case h0 => assumption); (case h6 => assumption); (case k1 => k_asm); (case k2 => k_asm); (case k3 => k_asm); (case k4 => k_asm); (case k5 => k_asm); (case kK => first | exact rfl | assumption); (case kd => first | omega | (show _ < _; decide) | ktr_room); (case ku => first | omega | (show _ < _; decide) | ktr_units); k_whole; intro r' h' tk' F' N' hG'; obtain ⟨y', t', hr', hy'⟩ := hG'; subst hr'; (try dsimp only); (try k_sweep); (try k_fold))))
local macro_rules | `(tactic| walk_at "call ref") => `(tactic| (k_here; (with_reducible show wpAny _ _ (PySem.call (Value.ref 122) [Value.int _ _, Value.float _ _, Value.int _ _]) _ _ _); k_dflt (refine' Pure.use (n_weeks_m_c ?hx ?hn ?hk ?hs ?h0 ?h6) ?k1 ?k2 ?k3 ?k4 ?k5 ?kK ?kd ?ku ?_; (case hx => assumption); (case hn => omega); (case hk => omega); (case hs => omega); (case h0 => assumption); (case h6 => assumption); (case k1 => k_asm); (case k2 => k_asm); (case k3 => k_asm); (case k4 => k_asm); (case k5 => k_asm); (case kK => first | exact rfl | assumption); (case kd => first | omega | (show _ < _; decide) | ktr_room); (case ku => first | omega | (show _ < _; decide) | ktr_units); k_whole; intro r' h' tk' F' N' hG'; obtain ⟨y', t', hr', hy'⟩ := hG'; subst hr'; (try dsimp only); (try k_sweep); (try k_fold))))
local macro_rules | `(tactic| walk_at "call ref") => `(tactic| (k_here; (with_reducible show wpAny _ _ (PySem.call (Value.ref 482) [Value.int _ _, Value.int _ _, Value.int _ _, Value.int _ _]) _ _ _); k_dflt (refine' PureN.use (law_only_c ?hn ?h0 ?h6 ?hl ?hh) ?k1 ?k2 ?k3 ?k4 ?k5 ?kK ?kd ?ku ?_; (case hn => omega); (case h0 => assumption); (case h6 => assumption); (case hl => decide); (case hh => decide); (case k1 => k_asm); (case k2 => k_asm); (case k3 => k_asm); (case k4 => k_asm); (case k5 => k_asm); (case kK => first | exact rfl | assumption); (case kd => first | omega | (show _ < _; decide) | ktr_room); (case ku => first | omega | (show _ < _; decide) | ktr_units); k_whole; intro r' h' tk' F' N' hG'; obtain ⟨y', t', hr', hy'⟩ := hG'; subst hr'; (try dsimp only); (try k_sweep); (try k_fold))))

/-- what the law holds after its tenth statement, and on to its twelfth -/
def P2 (h₀ : Heap) (L : Addr) (s1 : Shared) (s' : Shared) : Prop :=
  ∃ (D : Addr) (ws : List Value) (ns : List Int) (oa ob : Obj) (n d k : Int) (x : UInt64) (tn td tx tw : Tok) (m0 : Str → Option Value),
    IntsAre ws ns ∧ 7 ≤ ns.length ∧ (∀ i, (ns.getD i 0).natAbs < 10000000) ∧ oa.data = .cell (some (.int n tn)) ∧ ob.data = .cell (some (.int d td)) ∧ n.natAbs < 10000000 ∧ k.natAbs < 10000000 ∧ 0 ≤ d ∧ d ≤ 6 ∧ IsH x (2 * n - 1) ∧
    St h₀ L s1 (fun y => if y = Str.ofString "weeks" then some (.int k tw) else if y = Str.ofString "night" then some (.float x tx) else if y = Str.ofString "numbers" then some (.ref D) else m0 y) [(D, W.listOf ws.toArray 0), (L + 1 + 1, ob), (L + 1, oa)] s'

def P3 (h₀ : Heap) (L : Addr) (s1 : Shared) (s' : Shared) : Prop :=
  ∃ (D : Addr) (ws : List Value) (ns : List Int) (oa ob : Obj) (pl : Int) (tp : Tok) (va vb : Option Value) (vw vx : Value) (m0 : Str → Option Value),
    IntsAre ws ns ∧ 7 ≤ ns.length ∧ (∀ i, (ns.getD i 0).natAbs < 10000000) ∧ oa.data = .cell va ∧ ob.data = .cell vb ∧ -1 ≤ pl ∧ pl ≤ 6 ∧
    St h₀ L s1 (fun y => if y = Str.ofString "place" then some (.int pl tp) else if y = Str.ofString "weeks" then some vw else if y = Str.ofString "night" then some vx else if y = Str.ofString "numbers" then some (.ref D) else m0 y) [(D, W.listOf ws.toArray 0), (L + 1 + 1, ob), (L + 1, oa)] s'
def P4 (h₀ : Heap) (L : Addr) (s1 : Shared) (s' : Shared) : Prop :=
  ∃ (D : Addr) (ws : List Value) (ns : List Int) (oa ob : Obj) (pl d : Int) (tp td : Tok) (va : Option Value) (vw vx : Value) (m0 : Str → Option Value),
    IntsAre ws ns ∧ 7 ≤ ns.length ∧ (∀ i, (ns.getD i 0).natAbs < 10000000) ∧ oa.data = .cell va ∧ ob.data = .cell (some (.int d td)) ∧ -1 ≤ pl ∧ pl ≤ 6 ∧ -1 ≤ d ∧ d ≤ 7 ∧
    St h₀ L s1 (fun y => if y = Str.ofString "place" then some (.int pl tp) else if y = Str.ofString "weeks" then some vw else if y = Str.ofString "night" then some vx else if y = Str.ofString "numbers" then some (.ref D) else m0 y) [(D, W.listOf ws.toArray 0), (L + 1 + 1, ob), (L + 1, oa)] s'
def P5 (h₀ : Heap) (L : Addr) (s1 : Shared) (s' : Shared) : Prop :=
  ∃ (D : Addr) (ws : List Value) (ns : List Int) (oa ob : Obj) (pl d mo : Int) (tp td tm : Tok) (va : Option Value) (vw vx : Value) (m0 : Str → Option Value),
    IntsAre ws ns ∧ 7 ≤ ns.length ∧ (∀ i, (ns.getD i 0).natAbs < 10000000) ∧ oa.data = .cell va ∧ ob.data = .cell (some (.int d td)) ∧ -1 ≤ pl ∧ pl ≤ 6 ∧ -1 ≤ d ∧ d ≤ 7 ∧ 0 ≤ mo ∧ mo ≤ 13 ∧
    St h₀ L s1 (fun y => if y = Str.ofString "month" then some (.int mo tm) else if y = Str.ofString "place" then some (.int pl tp) else if y = Str.ofString "weeks" then some vw else if y = Str.ofString "night" then some vx else if y = Str.ofString "numbers" then some (.ref D) else m0 y) [(D, W.listOf ws.toArray 0), (L + 1 + 1, ob), (L + 1, oa)] s'
def P6 (h₀ : Heap) (L : Addr) (s1 : Shared) (s' : Shared) : Prop :=
  ∃ (oa ob : Obj) (pl d mo ye : Int) (tp td tm ty : Tok) (va : Option Value) (m0 : Str → Option Value),
    oa.data = .cell va ∧ ob.data = .cell (some (.int d td)) ∧ -1 ≤ pl ∧ pl ≤ 6 ∧ -1 ≤ d ∧ d ≤ 7 ∧ 0 ≤ mo ∧ mo ≤ 13 ∧ ye.natAbs < 10000000 ∧
    St h₀ L s1 (fun y => if y = Str.ofString "year" then some (.int ye ty) else if y = Str.ofString "month" then some (.int mo tm) else if y = Str.ofString "place" then some (.int pl tp) else m0 y) [(L + 1 + 1, ob), (L + 1, oa)] s'
theorem dropOne {h₀ h : Heap} {L : Addr} {a : Addr × Obj} {l : List (Addr × Obj)} (N : News h₀ L h (a :: l)) : News h₀ L h l := fun q hq => N q (.tail _ hq)
local macro_rules | `(tactic| walk_at "call ref") => `(tactic| (k_here; (with_reducible show wpAny _ _ (PySem.call (Value.ref 489) [Value.int _ _, Value.int _ _, Value.int _ _, Value.int _ _]) _ _ _); k_dflt (refine' Asked.use (asked_A1_c ) ?k1 ?k2 ?kX ?k3 ?k4 ?kT ?k5 ?kK ?kd ?ku ?_; (case kX => k_asm); (case kT => k_asm); (case k1 => k_asm); (case k2 => k_asm); (case k3 => k_asm); (case k4 => k_asm); (case k5 => k_asm); (case kK => first | exact rfl | assumption); (case kd => first | omega | (show _ < _; decide) | ktr_room); (case ku => first | omega | (show _ < _; decide) | ktr_units); k_whole; intro r' h' tk' nw' F' N' hG'; obtain ⟨⟨t', hr'⟩, hw'⟩ := hG'; subst hr'; subst hw'; (try dsimp only); (try k_sweep); (try k_fold))))
local macro_rules | `(tactic| walk_at "call ref") => `(tactic| (k_here; (with_reducible show wpAny _ _ (PySem.call (Value.ref 489) [Value.int _ _, Value.int _ _, Value.int _ _, Value.int _ _]) _ _ _); k_dflt (refine' Asked.use (asked_A2_c ) ?k1 ?k2 ?kX ?k3 ?k4 ?kT ?k5 ?kK ?kd ?ku ?_; (case kX => k_asm); (case kT => k_asm); (case k1 => k_asm); (case k2 => k_asm); (case k3 => k_asm); (case k4 => k_asm); (case k5 => k_asm); (case kK => first | exact rfl | assumption); (case kd => first | omega | (show _ < _; decide) | ktr_room); (case ku => first | omega | (show _ < _; decide) | ktr_units); k_whole; intro r' h' tk' nw' F' N' hG'; obtain ⟨⟨t', hr'⟩, hw'⟩ := hG'; subst hr'; subst hw'; (try dsimp only); (try k_sweep); (try k_fold))))
local macro_rules | `(tactic| walk_at "call ref") => `(tactic| (k_here; (with_reducible show wpAny _ _ (PySem.call (Value.ref 489) [Value.int _ _, Value.int _ _, Value.int _ _, Value.int _ _]) _ _ _); k_dflt (refine' Asked.use (asked_B_c ?h0 ?h6 ?d0) ?k1 ?k2 ?kX ?k3 ?k4 ?kT ?k5 ?kK ?kd ?ku ?_; (case h0 => omega); (case h6 => omega); (case d0 => omega); (case kX => k_asm); (case kT => k_asm); (case k1 => k_asm); (case k2 => k_asm); (case k3 => k_asm); (case k4 => k_asm); (case k5 => k_asm); (case kK => first | exact rfl | assumption); (case kd => first | omega | (show _ < _; decide) | ktr_room); (case ku => first | omega | (show _ < _; decide) | ktr_units); k_whole; intro r' h' tk' nw' F' N' hG'; obtain ⟨⟨t', hr'⟩, hw'⟩ := hG'; subst hr'; subst hw'; (try dsimp only); (try k_sweep); (try k_fold))))
local macro_rules | `(tactic| walk_at "call ref") => `(tactic| (k_here; (with_reducible show wpAny _ _ (PySem.call (Value.ref 489) [Value.int _ _, Value.int _ _, Value.int _ _, Value.int _ _]) _ _ _); k_dflt (refine' Asked.use (asked_C0_c ?h0 ?h6 ?d0 ?d6) ?k1 ?k2 ?kX ?k3 ?k4 ?kT ?k5 ?kK ?kd ?ku ?_; (case h0 => omega); (case h6 => omega); (case d0 => omega); (case d6 => omega); (case kX => k_asm); (case kT => k_asm); (case k1 => k_asm); (case k2 => k_asm); (case k3 => k_asm); (case k4 => k_asm); (case k5 => k_asm); (case kK => first | exact rfl | assumption); (case kd => first | omega | (show _ < _; decide) | ktr_room); (case ku => first | omega | (show _ < _; decide) | ktr_units); k_whole; intro r' h' tk' nw' F' N' hG'; obtain ⟨⟨t', hr'⟩, hw'⟩ := hG'; subst hr'; subst hw'; (try dsimp only); (try k_sweep); (try k_fold))))
local macro_rules | `(tactic| walk_at "call ref") => `(tactic| (k_here; (with_reducible show wpAny _ _ (PySem.call (Value.ref 489) [Value.int _ _, Value.int _ _, Value.int _ _, Value.int _ _]) _ _ _); k_dflt (refine' Asked.use (asked_C13_c ?h0 ?h6 ?d0 ?d6) ?k1 ?k2 ?kX ?k3 ?k4 ?kT ?k5 ?kK ?kd ?ku ?_; (case h0 => omega); (case h6 => omega); (case d0 => omega); (case d6 => omega); (case kX => k_asm); (case kT => k_asm); (case k1 => k_asm); (case k2 => k_asm); (case k3 => k_asm); (case k4 => k_asm); (case k5 => k_asm); (case kK => first | exact rfl | assumption); (case kd => first | omega | (show _ < _; decide) | ktr_room); (case ku => first | omega | (show _ < _; decide) | ktr_units); k_whole; intro r' h' tk' nw' F' N' hG'; obtain ⟨⟨t', hr'⟩, hw'⟩ := hG'; subst hr'; subst hw'; (try dsimp only); (try k_sweep); (try k_fold))))

theorem Asked.mono {w : World} {p : Program} {loose : List Str} {mean : ExcName → Option Value} {mg mb : Str → Option Value} {f : Addr} {d : Nat} {vs : List Value} {G G' : List (Addr × Obj) → List (Addr × Obj) → Value → Prop} (H : Asked w p loose mean mg mb f d vs G) (h : ∀ a b v, G a b v → G' a b v) : Asked w p loose mean mg mb f d vs G' := by
  intro dp un gd cn cs a ccd cl A₀ base h₀ L m news s Q E B F XB X N TB T hk hd hu ret
  exact H _ _ _ _ _ _ _ _ _ _ _ _ _ _ _ _ _ B F XB X N TB T hk hd hu fun r h' tk' news' F' N' g => ret r h' tk' news' F' N' (h _ _ _ g)
theorem asked_D1_c {w : World} {p : Program} {loose : List Str} {mean : ExcName → Option Value} {mg mb : Str → Option Value} {t t₂ t₃ t₄ : Tok} {n d m y : Int} (hn0 : 0 ≤ n) (hn5 : n ≤ 5) (hd0 : 0 ≤ d) (hd6 : d ≤ 6) (hm1 : 1 ≤ m) (hm12 : m ≤ 12) (hy : y.natAbs ≤ 2 ^ 30) (h : mlen y m < dayOf y m n d) :
    Asked w p loose mean mg mb 489 6 [.int n t, .int d t₂, .int m t₃, .int y t₄] (fun news news' v => (∃ t, v = .str (Str.ofString "IndexError") t) ∧ news' = news) :=
  (asked_D_c hn0 hn5 hd0 hd6 hm1 hm12 hy).mono fun a b v g => by
    rcases g with g | g
    · exact g.2
    · have := g.1; omega
theorem asked_D2_c {w : World} {p : Program} {loose : List Str} {mean : ExcName → Option Value} {mg mb : Str → Option Value} {t t₂ t₃ t₄ : Tok} {n d m y : Int} (hn0 : 0 ≤ n) (hn5 : n ≤ 5) (hd0 : 0 ≤ d) (hd6 : d ≤ 6) (hm1 : 1 ≤ m) (hm12 : m ≤ 12) (hy : y.natAbs ≤ 2 ^ 30) (h : dayOf y m n d ≤ mlen y m) :
    Asked w p loose mean mg mb 489 6 [.int n t, .int d t₂, .int m t₃, .int y t₄] (fun news news' v => ∃ D t, v = .ref D ∧ news' = (D, tup3 y m (dayOf y m n d) t₄ t₃ t) :: news) :=
  (asked_D_c hn0 hn5 hd0 hd6 hm1 hm12 hy).mono fun a b v g => by
    rcases g with g | g
    · have := g.1; omega
    · exact g.2
local macro_rules | `(tactic| walk_at "call ref") => `(tactic| (k_here; (with_reducible show wpAny _ _ (PySem.call (Value.ref 489) [Value.int _ _, Value.int _ _, Value.int _ _, Value.int _ _]) _ _ _); k_dflt (refine' Asked.use (asked_D1_c ?h0 ?h6 ?d0 ?d6 ?m0 ?m6 ?hy ?hh) ?k1 ?k2 ?kX ?k3 ?k4 ?kT ?k5 ?kK ?kd ?ku ?_; (case h0 => omega); (case h6 => omega); (case d0 => omega); (case d6 => omega); (case m0 => omega); (case m6 => omega); (case hy => omega); (case hh => assumption); (case kX => k_asm); (case kT => k_asm); (case k1 => k_asm); (case k2 => k_asm); (case k3 => k_asm); (case k4 => k_asm); (case k5 => k_asm); (case kK => first | exact rfl | assumption); (case kd => first | omega | (show _ < _; decide) | ktr_room); (case ku => first | omega | (show _ < _; decide) | ktr_units); k_whole; intro r' h' tk' nw' F' N' hG'; obtain ⟨⟨t', hr'⟩, hw'⟩ := hG'; subst hr'; subst hw'; (try dsimp only); (try k_sweep); (try k_fold))))
local macro_rules | `(tactic| walk_at "call ref") => `(tactic| (k_here; (with_reducible show wpAny _ _ (PySem.call (Value.ref 489) [Value.int _ _, Value.int _ _, Value.int _ _, Value.int _ _]) _ _ _); k_dflt (refine' Asked.use (asked_D2_c ?h0 ?h6 ?d0 ?d6 ?m0 ?m6 ?hy ?hh) ?k1 ?k2 ?kX ?k3 ?k4 ?kT ?k5 ?kK ?kd ?ku ?_; (case h0 => omega); (case h6 => omega); (case d0 => omega); (case d6 => omega); (case m0 => omega); (case m6 => omega); (case hy => omega); (case hh => assumption); (case kX => k_asm); (case kT => k_asm); (case k1 => k_asm); (case k2 => k_asm); (case k3 => k_asm); (case k4 => k_asm); (case k5 => k_asm); (case kK => first | exact rfl | assumption); (case kd => first | omega | (show _ < _; decide) | ktr_room); (case ku => first | omega | (show _ < _; decide) | ktr_units); k_whole; intro r' h' tk' nw' F' N' hG'; obtain ⟨D', t', hr', hw'⟩ := hG'; subst hr'; subst hw'; (try dsimp only); (try k_sweep); (try k_fold))))
local macro_rules | `(tactic| walk_at "call ref") => `(tactic| (k_here; (with_reducible show wpAny _ _ (PySem.call (Value.ref 477) [Value.int _ _]) _ _ _); k_dflt (refine' Pure.use (law_first_c ?hy) ?k1 ?k2 ?k3 ?k4 ?k5 ?kK ?kd ?ku ?_; (case hy => omega); (case k1 => k_asm); (case k2 => k_asm); (case k3 => k_asm); (case k4 => k_asm); (case k5 => k_asm); (case kK => first | exact rfl | assumption); (case kd => first | omega | (show _ < _; decide) | ktr_room); (case ku => first | omega | (show _ < _; decide) | ktr_units); k_whole; intro r' h' tk' F' N' hG'; obtain ⟨t', hr'⟩ := hG'; subst hr'; (try dsimp only); (try k_sweep); (try k_fold))))

def P7a (h₀ : Heap) (L : Addr) (s1 : Shared) (pl d mo ye dy : Int) (s' : Shared) : Prop :=
  ∃ (D : Addr) (oa ob : Obj) (tp td tm ty t1 t2 t3 : Tok) (va : Option Value) (vq : Value) (m0 : Str → Option Value),
    oa.data = .cell va ∧ ob.data = .cell (some (.int d td)) ∧ (@Ne Nat D (L + 1 + 1) ∧ @Ne Nat D (L + 1)) ∧
    St h₀ L s1 (fun y => if y = Str.ofString "told" then some (.ref D) else if y = Str.ofString "wrong" then some vq else if y = Str.ofString "year" then some (.int ye ty) else if y = Str.ofString "month" then some (.int mo tm) else if y = Str.ofString "place" then some (.int pl tp) else m0 y) [(D, tup3 ye mo dy t1 t2 t3), (L + 1 + 1, ob), (L + 1, oa)] s'
def P7b (h₀ : Heap) (L : Addr) (s1 : Shared) (pl d mo ye : Int) (s' : Shared) : Prop :=
  ∃ (oa ob : Obj) (tp td tm ty t1 : Tok) (va : Option Value) (vq : Value) (m0 : Str → Option Value),
    oa.data = .cell va ∧ ob.data = .cell (some (.int d td)) ∧
    St h₀ L s1 (fun y => if y = Str.ofString "told" then some (.str (Str.ofString "IndexError") t1) else if y = Str.ofString "wrong" then some vq else if y = Str.ofString "year" then some (.int ye ty) else if y = Str.ofString "month" then some (.int mo tm) else if y = Str.ofString "place" then some (.int pl tp) else m0 y) [(L + 1 + 1, ob), (L + 1, oa)] s'
theorem P7a.intro {h₀ h' : Heap} {L D : Addr} {s1 : Shared} {pl d mo ye dy : Int} {oa ob : Obj} {tp td tm ty t1 t2 t3 : Tok} {va : Option Value} {vq : Value} {m0 : Str → Option Value} {tk' : Nat} {e1 e2 e3 e4 : Addr × Obj}
    (N : News h₀ L h' [e1, (D, tup3 ye mo dy t1 t2 t3), e2, e3, e4, (L + 1 + 1, ob), (L + 1, oa)])
    (F : Fr h₀ L h' (fun y => if y = Str.ofString "told" then some (.ref D) else if y = Str.ofString "wrong" then some vq else if y = Str.ofString "year" then some (.int ye ty) else if y = Str.ofString "month" then some (.int mo tm) else if y = Str.ofString "place" then some (.int pl tp) else m0 y))
    (ha : oa.data = .cell va) (hb : ob.data = .cell (some (.int d td))) : P7a h₀ L s1 pl d mo ye dy { s1 with heap := h', toks := tk' } := by
  have gD := (N (D, tup3 ye mo dy t1 t2 t3) (by simp)).1
  have g1 := (N (L + 1, oa) (by simp)).1
  have g2 := (N (L + 1 + 1, ob) (by simp)).1
  refine ⟨D, oa, ob, tp, td, tm, ty, t1, t2, t3, va, vq, m0, ha, hb, ⟨fun e => ?_, fun e => ?_⟩, _, _, rfl, F, fun q hq => N q (by simp only [List.mem_cons, List.not_mem_nil, or_false] at hq ⊢; rcases hq with rfl | rfl | rfl <;> simp)⟩
  · simp only [e] at gD g2
    rw [gD] at g2
    cases g2
    cases hb
  · simp only [e] at gD g1
    rw [gD] at g1
    cases g1
    cases ha
theorem P7b.intro {h₀ h' : Heap} {L : Addr} {s1 : Shared} {pl d mo ye : Int} {oa ob : Obj} {tp td tm ty t1 : Tok} {va : Option Value} {vq : Value} {m0 : Str → Option Value} {tk' : Nat} {e1 e2 e3 e4 : Addr × Obj}
    (N : News h₀ L h' [e1, e2, e3, e4, (L + 1 + 1, ob), (L + 1, oa)])
    (F : Fr h₀ L h' (fun y => if y = Str.ofString "told" then some (.str (Str.ofString "IndexError") t1) else if y = Str.ofString "wrong" then some vq else if y = Str.ofString "year" then some (.int ye ty) else if y = Str.ofString "month" then some (.int mo tm) else if y = Str.ofString "place" then some (.int pl tp) else m0 y))
    (ha : oa.data = .cell va) (hb : ob.data = .cell (some (.int d td))) : P7b h₀ L s1 pl d mo ye { s1 with heap := h', toks := tk' } :=
  ⟨oa, ob, tp, td, tm, ty, t1, va, vq, m0, ha, hb, _, _, rfl, F, fun q hq => N q (by simp only [List.mem_cons, List.not_mem_nil, or_false] at hq ⊢; rcases hq with rfl | rfl <;> simp)⟩

def P8a (h₀ : Heap) (L : Addr) (s1 : Shared) (pl d mo ye dy : Int) (s' : Shared) : Prop :=
  ∃ (D D2 : Addr) (oa ob : Obj) (ws : List Value) (tn tp td tm ty t1 t2 t3 : Tok) (vq : Value) (m0 : Str → Option Value),
    IntsAre ws (lens ye) ∧ oa.data = .cell (some (.int (numOf ye mo) tn)) ∧ ob.data = .cell (some (.int d td)) ∧
    St h₀ L s1 (fun y => if y = Str.ofString "lengths" then some (.ref D2) else if y = Str.ofString "told" then some (.ref D) else if y = Str.ofString "wrong" then some vq else if y = Str.ofString "year" then some (.int ye ty) else if y = Str.ofString "month" then some (.int mo tm) else if y = Str.ofString "place" then some (.int pl tp) else m0 y) [(D2, W.listOf ws.toArray 0), (D, tup3 ye mo dy t1 t2 t3), (L + 1 + 1, ob), (L + 1, oa)] s'
theorem P8a.intro {h₀ h' : Heap} {L D D2 : Addr} {s1 : Shared} {pl d mo ye dy : Int} {oa ob : Obj} {tn tp td tm ty t1 t2 t3 : Tok} {vq : Value} {m0 : Str → Option Value} {tk' : Nat} {e1 : Addr × Obj} {k1 k2 k3 k4 k5 k6 k7 k8 k9 k10 k11 k12 : Tok}
    (N : News h₀ L h' [e1, (D2, W.listOf #[.int 31 k1, .int (lawFirst (ye + 1) - lawFirst ye - 337) k2, .int 31 k3, .int 30 k4, .int 31 k5, .int 30 k6, .int 31 k7, .int 31 k8, .int 30 k9, .int 31 k10, .int 30 k11, .int 31 k12] 0), (D, tup3 ye mo dy t1 t2 t3), (L + 1 + 1, ob), (L + 1, oa)])
    (F : Fr h₀ L h' (fun y => if y = Str.ofString "lengths" then some (.ref D2) else if y = Str.ofString "told" then some (.ref D) else if y = Str.ofString "wrong" then some vq else if y = Str.ofString "year" then some (.int ye ty) else if y = Str.ofString "month" then some (.int mo tm) else if y = Str.ofString "place" then some (.int pl tp) else m0 y))
    (ha : oa.data = .cell (some (.int (numOf ye mo) tn))) (hb : ob.data = .cell (some (.int d td))) : P8a h₀ L s1 pl d mo ye dy { s1 with heap := h', toks := tk' } :=
  ⟨D, D2, oa, ob, _, tn, tp, td, tm, ty, t1, t2, t3, vq, m0, .cons _ _ (.cons _ _ (.cons _ _ (.cons _ _ (.cons _ _ (.cons _ _ (.cons _ _ (.cons _ _ (.cons _ _ (.cons _ _ (.cons _ _ (.cons _ _ .nil))))))))))), ha, hb, _, _, rfl, F, fun q hq => N q (.tail _ hq)⟩
def P8b (h₀ : Heap) (L : Addr) (s1 : Shared) (pl d mo ye : Int) (s' : Shared) : Prop :=
  ∃ (D2 : Addr) (oa ob : Obj) (ws : List Value) (tn tp td tm ty t1 : Tok) (vq : Value) (m0 : Str → Option Value),
    IntsAre ws (lens ye) ∧ oa.data = .cell (some (.int (numOf ye mo) tn)) ∧ ob.data = .cell (some (.int d td)) ∧
    St h₀ L s1 (fun y => if y = Str.ofString "lengths" then some (.ref D2) else if y = Str.ofString "told" then some (.str (Str.ofString "IndexError") t1) else if y = Str.ofString "wrong" then some vq else if y = Str.ofString "year" then some (.int ye ty) else if y = Str.ofString "month" then some (.int mo tm) else if y = Str.ofString "place" then some (.int pl tp) else m0 y) [(D2, W.listOf ws.toArray 0), (L + 1 + 1, ob), (L + 1, oa)] s'
theorem P8b.intro {h₀ h' : Heap} {L D2 : Addr} {s1 : Shared} {pl d mo ye : Int} {oa ob : Obj} {tn tp td tm ty t1 : Tok} {vq : Value} {m0 : Str → Option Value} {tk' : Nat} {e1 : Addr × Obj} {k1 k2 k3 k4 k5 k6 k7 k8 k9 k10 k11 k12 : Tok}
    (N : News h₀ L h' [e1, (D2, W.listOf #[.int 31 k1, .int (lawFirst (ye + 1) - lawFirst ye - 337) k2, .int 31 k3, .int 30 k4, .int 31 k5, .int 30 k6, .int 31 k7, .int 31 k8, .int 30 k9, .int 31 k10, .int 30 k11, .int 31 k12] 0), (L + 1 + 1, ob), (L + 1, oa)])
    (F : Fr h₀ L h' (fun y => if y = Str.ofString "lengths" then some (.ref D2) else if y = Str.ofString "told" then some (.str (Str.ofString "IndexError") t1) else if y = Str.ofString "wrong" then some vq else if y = Str.ofString "year" then some (.int ye ty) else if y = Str.ofString "month" then some (.int mo tm) else if y = Str.ofString "place" then some (.int pl tp) else m0 y))
    (ha : oa.data = .cell (some (.int (numOf ye mo) tn))) (hb : ob.data = .cell (some (.int d td))) : P8b h₀ L s1 pl d mo ye { s1 with heap := h', toks := tk' } :=
  ⟨D2, oa, ob, _, tn, tp, td, tm, ty, t1, vq, m0, .cons _ _ (.cons _ _ (.cons _ _ (.cons _ _ (.cons _ _ (.cons _ _ (.cons _ _ (.cons _ _ (.cons _ _ (.cons _ _ (.cons _ _ (.cons _ _ .nil))))))))))), ha, hb, _, _, rfl, F, fun q hq => N q (.tail _ hq)⟩

structure DaysMark (nb d : Int) : Prop where
  ok : True
theorem ints_of_all2 {ys : List Value} {ks : List Int} (h : All2 (fun k y => ∃ t, y = .int k t) ks ys) : IntsAre ys ks := by
  induction h with
  | nil => exact .nil
  | cons a _ ih => obtain ⟨t, rfl⟩ := a; exact .cons _ _ ih
def intIs (k : Int) (y : Value) : Prop := ∃ t, y = .int k t
theorem cf_days {prog : Program} {w : World} {A : Around} {h₀ : Heap} {L : Addr} {m : Str → Option Value} {env : Env} {ct elt : Expr} {x : Str} {scope : Scope} {cl : List (Str × Addr)} {s : Shared} {S : List (Addr × Obj) → Prop} {Fin : List Value → List (Addr × Obj) → Prop} {news : List (Addr × Obj)} {n : Nat} {a nb d : Int}
    (hm : DaysMark nb d)
    (turn : ∀ k t I oI C oC D m₂ ys h tk (E' : Value → Shared → Prop), a ≤ k → k < a + (n : Int) → LCg.NsObj oC m₂ → m₂ x = some (.int k t) → Fr h₀ L h m → News h₀ L h ((I, oI) :: (C, oC) :: (D, LCg.lst ys) :: news) → LCg.Off3 I C D news → ((@Ne Nat I C) ∧ (@Ne Nat I D) ∧ (@Ne Nat C D)) →
      wpAny (model prog w) A (isTrue ct (compEnvC scope cl C env) (eval ct (compEnvC scope cl C env))) (fun ok s' => if ok = true then wpAny (model prog w) A (eval elt (compEnvC scope cl C env)) (LCg.CompEnd h₀ L m { s with heap := h, toks := tk } I oI C oC D (LCg.lst ys) S (fun y news' => CfEl (dayIn nb d) intIs news k y news')) E' s'
        else LCg.CompEnd h₀ L m { s with heap := h, toks := tk } I oI C oC D (LCg.lst ys) S (fun _ news' => CfNo (dayIn nb d) news k news') Value.none s') E' { s with heap := h, toks := tk })
    (fin : CfDone (∀ ys, IntsAre ys ((rangeKs a n).filter (dayIn nb d)) → Fin ys news)) : LCt.CompRestT prog w A h₀ L m env ct elt x scope cl s S (fun i v => ∃ t, v = .int (a + (i : Int)) t) Fin n 0 [] news :=
  cf_range (dayIn nb d) intIs turn fun ys hys => fin ys (ints_of_all2 hys)
local macro_rules | `(tactic| walk_at "CompSrcT") => `(tactic| (k_here; k_dflt (refine LCt.CompSrcT.range (by rfl) (by k_asm) (by k_asm) (by assumption) (small_one (by omega) (by omega) (by omega) (by omega)) (rangeSize_nat _ _) (by rw [PySem.sizeLine_eq]; omega) ?_; intro g'; (refine' cf_days (by assumption) (fun k' t' I' oI' C' oC' D' m' ys' h' tk' E' hlo' hhi' hC' hx' F' N' off' ne' => ?_) ?_); (all_goals (try ((have off0' := off'); simp only [LCg.Off3, and_true] at off'))))))
local macro_rules | `(tactic| walk_at "CompEnd") => `(tactic| (k_here; k_dflt (refine' LCg.CompEnd.intro ?F ?N _ (fun _ h => h) ?off ?S ?_; (case F => k_asm); (case N => k_asm); (case off => assumption); (case S => exact trivial))))
local macro_rules | `(tactic| walk_at "CfDone") => `(tactic| (unfold CfDone; intro ys' hys'))
local macro_rules | `(tactic| walk_at "CfEl") => `(tactic| (refine ⟨rfl, ?_, _, rfl⟩; simp only [dayIn, decide_eq_true_eq, decide_eq_false_iff_not, fmod7] at *; first | assumption | omega))
local macro_rules | `(tactic| walk_at "CfNo") => `(tactic| (refine ⟨rfl, ?_⟩; simp only [dayIn, decide_eq_true_eq, decide_eq_false_iff_not, fmod7] at *; first | assumption | omega))
def P9a (h₀ : Heap) (L : Addr) (s1 : Shared) (pl mo ye dy : Int) (ks : List Int) (s' : Shared) : Prop :=
  ∃ (D D3 : Addr) (ws : List Value) (tp tm ty t1 t2 t3 : Tok) (m0 : Str → Option Value) (vl vq : Value),
    IntsAre ws ks ∧
    St h₀ L s1 (fun y => if y = Str.ofString "days" then some (.ref D3) else if y = Str.ofString "lengths" then some vl else if y = Str.ofString "told" then some (.ref D) else if y = Str.ofString "wrong" then some vq else if y = Str.ofString "year" then some (.int ye ty) else if y = Str.ofString "month" then some (.int mo tm) else if y = Str.ofString "place" then some (.int pl tp) else m0 y) [(D3, LCg.lst ws), (D, tup3 ye mo dy t1 t2 t3)] s'
def P9b (h₀ : Heap) (L : Addr) (s1 : Shared) (pl mo ye : Int) (ks : List Int) (s' : Shared) : Prop :=
  ∃ (D3 : Addr) (ws : List Value) (tp tm ty t1 : Tok) (m0 : Str → Option Value) (vl vq : Value),
    IntsAre ws ks ∧
    St h₀ L s1 (fun y => if y = Str.ofString "days" then some (.ref D3) else if y = Str.ofString "lengths" then some vl else if y = Str.ofString "told" then some (.str (Str.ofString "IndexError") t1) else if y = Str.ofString "wrong" then some vq else if y = Str.ofString "year" then some (.int ye ty) else if y = Str.ofString "month" then some (.int mo tm) else if y = Str.ofString "place" then some (.int pl tp) else m0 y) [(D3, LCg.lst ws)] s'

theorem P9a.intro {h₀ h' : Heap} {L D D3 : Addr} {s1 : Shared} {pl mo ye dy : Int} {ks : List Int} {ws : List Value} {tp tm ty t1 t2 t3 : Tok} {m0 : Str → Option Value} {vl vq : Value} {tk' : Nat} {e1 e2 e3 : Addr × Obj}
    (N : News h₀ L h' [(D3, LCg.lst ws), e1, (D, tup3 ye mo dy t1 t2 t3), e2, e3])
    (F : Fr h₀ L h' (fun y => if y = Str.ofString "days" then some (.ref D3) else if y = Str.ofString "lengths" then some vl else if y = Str.ofString "told" then some (.ref D) else if y = Str.ofString "wrong" then some vq else if y = Str.ofString "year" then some (.int ye ty) else if y = Str.ofString "month" then some (.int mo tm) else if y = Str.ofString "place" then some (.int pl tp) else m0 y))
    (hI : IntsAre ws ks) : P9a h₀ L s1 pl mo ye dy ks { s1 with heap := h', toks := tk' } :=
  ⟨D, D3, ws, tp, tm, ty, t1, t2, t3, m0, vl, vq, hI, _, _, rfl, F, fun q hq => N q (by simp only [List.mem_cons, List.not_mem_nil, or_false] at hq ⊢; rcases hq with rfl | rfl <;> simp)⟩
theorem P9b.intro {h₀ h' : Heap} {L D3 : Addr} {s1 : Shared} {pl mo ye : Int} {ks : List Int} {ws : List Value} {tp tm ty t1 : Tok} {m0 : Str → Option Value} {vl vq : Value} {tk' : Nat} {e1 e2 e3 : Addr × Obj}
    (N : News h₀ L h' [(D3, LCg.lst ws), e1, e2, e3])
    (F : Fr h₀ L h' (fun y => if y = Str.ofString "days" then some (.ref D3) else if y = Str.ofString "lengths" then some vl else if y = Str.ofString "told" then some (.str (Str.ofString "IndexError") t1) else if y = Str.ofString "wrong" then some vq else if y = Str.ofString "year" then some (.int ye ty) else if y = Str.ofString "month" then some (.int mo tm) else if y = Str.ofString "place" then some (.int pl tp) else m0 y))
    (hI : IntsAre ws ks) : P9b h₀ L s1 pl mo ye ks { s1 with heap := h', toks := tk' } :=
  ⟨D3, ws, tp, tm, ty, t1, m0, vl, vq, hI, _, _, rfl, F, fun q hq => N q (by simp only [List.mem_cons, List.not_mem_nil, or_false] at hq; subst hq; simp)⟩
local macro_rules | `(tactic| walk_at "compareOp Eq ref ref") => `(tactic| (k_here; k_dflt (refine' eq_tup3 ?N ?hD ?hE ?hu ?he ?_; (case N => k_asm); (case hD => k_mem); (case hE => k_mem); (case hu => first | (show _ < _; decide) | ke_room); (case he => first | rfl | exact Int.add_zero _ | omega); k_whole)))
theorem law_all : PySem.Challenge.rw_ak5001_01.Holds := Mine.hd (by
  k_go0
  dsimp only
  k_fold
  rename World => w
  rename Shared => s1
  rename List Int => script
  rename Heap => h1
  rename Nat => tk1
  rename Addr => dL
  with_reducible rename Fr _ _ _ _ => F0
  with_reducible rename News _ _ _ _ => N0
  with_reducible rename Below _ _ _ _ => K0
  with_reducible rename Frag.In _ _ => KX
  obtain ⟨oa, ob, va, vb, ha, hb, N1⟩ : ∃ (oa ob : Obj) (va vb : Option Value), oa.data = .cell va ∧ ob.data = .cell vb ∧ News s1.heap s1.heap.objs.size h1 [(s1.heap.objs.size + 1 + 1, oa), (s1.heap.objs.size + 1, ob)] := ⟨_, _, _, _, by assumption, by assumption, N0⟩
  clear N0
  refine cutAt 4 (P1 s1.heap s1.heap.objs.size s1) ?_ ?_
  · dsimp only [List.take]
    k_steps
    all_goals (try (exfalso; have hz := nums_lt script (Int.toNat 0); omega))
    exact P1.intro (by k_asm) (by k_asm) (by assumption) (by assumption) (by assumption) (nums_lt script (Int.toNat 0)) rfl
  · intro s2 hP
    clear N1 ha hb F0
    clear oa ob va vb
    try (with_reducible rename CellsAre _ _ _ => xC; clear xC)
    try (with_reducible rename Dflts _ _ _ => xD; clear xD)
    obtain ⟨D, ws, ns, oa, ob, n, d, x, tn, td, tx, m0, hI, hlen, hns, ha, hb, hn, hd0, hd6, hx, h2, tk2, hs2, F2, N2⟩ := hP
    subst hs2
    have hw2 := hns (Int.toNat 2)
    dsimp only [List.drop]
    refine cutAt 6 (P2 s1.heap s1.heap.objs.size s1) ?_ ?_
    · dsimp only [List.take]
      k_steps
      all_goals first
        | (exfalso; omega)
        | exact ⟨D, ws, ns, oa, ob, n, d, _, x, tn, td, tx, _, m0, hI, hlen, hns, ha, hb, hn, hw2, hd0, hd6, hx, _, _, rfl, by k_asm, by k_asm⟩
    clear ha hb hx hn hd0 hd6 F2 N2 hI
    clear oa ob n d x tn td tx m0 h2 tk2
    intro s2 hP
    obtain ⟨D, ws, ns, oa, ob, n, d, k, x, tn, td, tx, tw, m0, hI, hlen, hns, ha, hb, hn, hk, hd0, hd6, hx, h2, tk2, hs2, F2, N2⟩ := hP
    subst hs2
    dsimp only [List.drop]
    refine cutAt 1 (P2 s1.heap s1.heap.objs.size s1) ?_ ?_
    · dsimp only [List.take]
      k_steps
      all_goals first
        | (exfalso; omega)
        | exact ⟨D, ws, ns, oa, ob, n, d, _, x, tn, td, tx, _, m0, hI, hlen, hns, ha, hb, hn, hk, hd0, hd6, hx, _, _, rfl, by k_asm, by k_asm⟩
    clear ha hb hx hn hk hd0 hd6 F2 N2 hI
    clear oa ob n d k x tn td tx tw m0 h2 tk2
    intro s2 hP
    obtain ⟨D, ws, ns, oa, ob, n, d, k, x, tn, td, tx, tw, m0, hI, hlen, hns, ha, hb, hn, hk, hd0, hd6, hx, h2, tk2, hs2, F2, N2⟩ := hP
    subst hs2
    dsimp only [List.drop]
    refine cutAt 1 (P2 s1.heap s1.heap.objs.size s1) ?_ ?_
    · dsimp only [List.take]
      k_steps
      all_goals first
        | (exfalso; omega)
        | exact ⟨D, ws, ns, oa, ob, n, d, _, x, tn, td, tx, _, m0, hI, hlen, hns, ha, hb, hn, hk, hd0, hd6, hx, _, _, rfl, by k_asm, by k_asm⟩
    clear ha hb hx hn hk hd0 hd6 F2 N2 hI
    clear oa ob n d k x tn td tx tw m0 h2 tk2
    intro s2 hP
    obtain ⟨D, ws, ns, oa, ob, n, d, k, x, tn, td, tx, tw, m0, hI, hlen, hns, ha, hb, hn, hk, hd0, hd6, hx, h2, tk2, hs2, F2, N2⟩ := hP
    subst hs2
    dsimp only [List.drop]
    refine cutAt 1 (P3 s1.heap s1.heap.objs.size s1) ?_ ?_
    · dsimp only [List.take]
      k_steps
      all_goals first
        | (refine ⟨D, ws, ns, oa, ob, _, _, _, _, _, _, m0, hI, hlen, hns, ha, hb, ?_, ?_, _, _, rfl, by k_asm, by k_asm⟩ <;> (simp only [fmodp _ (show (0:Int) ≤ 6 by decide), fmodp _ (show (0:Int) ≤ 7 by decide), fmodp _ (show (0:Int) ≤ 8 by decide), fmodp _ (show (0:Int) ≤ 9 by decide), fmodp _ (show (0:Int) ≤ 12 by decide), fmodp _ (show (0:Int) ≤ 14 by decide)]; omega))
    clear ha hb hx hn hk hd0 hd6 F2 N2 hI
    clear oa ob n d k x tn td tx tw m0 h2 tk2
    intro s2 hP
    obtain ⟨D, ws, ns, oa, ob, pl, tp, va, vb, vw, vx, m0, hI, hlen, hns, ha, hb, hp0, hp6, h2, tk2, hs2, F2, N2⟩ := hP
    subst hs2
    dsimp only [List.drop]
    refine cutAt 1 (P4 s1.heap s1.heap.objs.size s1) ?_ ?_
    · dsimp only [List.take]
      k_steps
      all_goals first
        | exact ⟨D, ws, ns, oa, _, pl, _, tp, _, va, vw, vx, m0, hI, hlen, hns, ha, by assumption, hp0, hp6, by (simp only [fmodp _ (show (0:Int) ≤ 6 by decide), fmodp _ (show (0:Int) ≤ 7 by decide), fmodp _ (show (0:Int) ≤ 8 by decide), fmodp _ (show (0:Int) ≤ 9 by decide), fmodp _ (show (0:Int) ≤ 12 by decide), fmodp _ (show (0:Int) ≤ 14 by decide)]; omega), by (simp only [fmodp _ (show (0:Int) ≤ 6 by decide), fmodp _ (show (0:Int) ≤ 7 by decide), fmodp _ (show (0:Int) ≤ 8 by decide), fmodp _ (show (0:Int) ≤ 9 by decide), fmodp _ (show (0:Int) ≤ 12 by decide), fmodp _ (show (0:Int) ≤ 14 by decide)]; omega), _, _, rfl, by k_asm, by k_asm⟩
    clear ha hb F2 N2 hI hp0 hp6
    clear oa ob pl tp va vb vw vx m0 h2 tk2
    intro s2 hP
    obtain ⟨D, ws, ns, oa, ob, pl, d, tp, td, va, vw, vx, m0, hI, hlen, hns, ha, hb, hp0, hp6, hd0, hd6, h2, tk2, hs2, F2, N2⟩ := hP
    subst hs2
    dsimp only [List.drop]
    refine cutAt 1 (P5 s1.heap s1.heap.objs.size s1) ?_ ?_
    · dsimp only [List.take]
      k_steps
      all_goals first
        | (refine ⟨D, ws, ns, oa, ob, pl, d, _, tp, td, _, va, vw, vx, m0, hI, hlen, hns, ha, hb, hp0, hp6, hd0, hd6, ?_, ?_, _, _, rfl, by k_asm, by k_asm⟩ <;> (simp only [fmodp _ (show (0:Int) ≤ 6 by decide), fmodp _ (show (0:Int) ≤ 7 by decide), fmodp _ (show (0:Int) ≤ 8 by decide), fmodp _ (show (0:Int) ≤ 9 by decide), fmodp _ (show (0:Int) ≤ 12 by decide), fmodp _ (show (0:Int) ≤ 14 by decide)]; omega))
    clear ha hb F2 N2 hI hp0 hp6 hd0 hd6
    clear oa ob pl d tp td va vw vx m0 h2 tk2
    intro s2 hP
    obtain ⟨D, ws, ns, oa, ob, pl, d, mo, tp, td, tm, va, vw, vx, m0, hI, hlen, hns, ha, hb, hp0, hp6, hd0, hd6, hm0, hm6, h2, tk2, hs2, F2, N2⟩ := hP
    subst hs2
    dsimp only [List.drop]
    refine cutAt 1 (P6 s1.heap s1.heap.objs.size s1) ?_ ?_
    · dsimp only [List.take]
      k_steps
      all_goals first
        | exact ⟨oa, ob, pl, d, mo, _, tp, td, tm, _, va, _, ha, hb, hp0, hp6, hd0, hd6, hm0, hm6, hns (Int.toNat 6), _, _, rfl, by k_asm, dropOne (by k_asm)⟩
    clear ha hb F2 N2 hI hp0 hp6 hd0 hd6 hm0 hm6
    clear oa ob pl d mo tp td tm va vw vx m0 h2 tk2
    clear hns hlen
    intro s2 hP
    obtain ⟨oa, ob, pl, d, mo, ye, tp, td, tm, ty, va, m0, ha, hb, hp0, hp6, hd0, hd6, hm0, hm6, hye, h2, tk2, hs2, F2, N2⟩ := hP
    subst hs2
    dsimp only [List.drop]
    have K1 : Below callerA s1.heap [] s1.heap := K0
    clear K0
    have hcase : pl = -1 ∨ pl = 6 ∨ (0 ≤ pl ∧ pl ≤ 5 ∧ ¬ (0 ≤ d ∧ d ≤ 6)) ∨ (0 ≤ pl ∧ pl ≤ 5 ∧ 0 ≤ d ∧ d ≤ 6 ∧ mo = 0) ∨ (0 ≤ pl ∧ pl ≤ 5 ∧ 0 ≤ d ∧ d ≤ 6 ∧ mo = 13) ∨ (0 ≤ pl ∧ pl ≤ 5 ∧ 0 ≤ d ∧ d ≤ 6 ∧ 1 ≤ mo ∧ mo ≤ 12) := by omega
    rcases hcase with hc | hc | hc | hc | hc | hc
    · subst hc
      k_steps
    · subst hc
      k_steps
    · obtain ⟨hc0, hc5, hcd⟩ := hc
      k_steps
    · obtain ⟨hc0, hc5, hcd0, hcd6, hcm⟩ := hc
      subst hcm
      k_steps
    · obtain ⟨hc0, hc5, hcd0, hcd6, hcm⟩ := hc
      subst hcm
      k_steps
    · obtain ⟨hc0, hc5, hcd0, hcd6, hcm0, hcm6⟩ := hc
      clear hp0 hp6 hd0 hd6 hm0 hm6
      by_cases hday : dayOf ye mo pl d ≤ mlen ye mo
      · refine cutAt 3 (P7a s1.heap s1.heap.objs.size s1 pl d mo ye (dayOf ye mo pl d)) ?_ ?_
        · dsimp only [List.take]
          k_steps
          all_goals first
            | exact P7a.intro (by k_asm) (by k_asm) ha hb
        clear ha hb F2 N2
        clear oa ob tp td tm ty va m0 h2 tk2
        intro s2 hP
        obtain ⟨D, oa, ob, tp, td, tm, ty, t1, t2, t3, va, vq, m0, ha, hb, ⟨hD2, hD1⟩, h2, tk2, hs2, F2, N2⟩ := hP
        subst hs2
        dsimp only [List.drop]
        refine cutAt 2 (P8a s1.heap s1.heap.objs.size s1 pl d mo ye (dayOf ye mo pl d)) ?_ ?_
        · dsimp only [List.take]
          k_steps
          all_goals first
            | exact P8a.intro (by k_asm) (by k_asm) (by assumption) (by assumption)
        clear ha hb F2 N2 hD2 hD1
        clear D oa ob tp td tm ty t1 t2 t3 va vq m0 h2 tk2
        intro s2 hP
        obtain ⟨D, D2, oa, ob, ws, tn, tp, td, tm, ty, t1, t2, t3, vq, m0, hI, ha, hb, h2, tk2, hs2, F2, N2⟩ := hP
        subst hs2
        dsimp only [List.drop]
        have hlen : (lens ye).length = 12 := rfl
        have hg := lens_get (y := ye) hcm0 hcm6
        have hml := mlen_bd (y := ye) hcm0 hcm6
        have hkey := num_key (y := ye) hcm0 hcm6
        generalize lens ye = ls at hI hlen hg
        generalize numOf ye mo = nb at ha hkey
        have hmark : DaysMark nb d := ⟨trivial⟩
        have hml0 := hml
        rw [← hg] at hml
        refine cutAt 1 (P9a s1.heap s1.heap.objs.size s1 pl mo ye (dayOf ye mo pl d) ((rangeKs 1 (ls.getD (mo - 1).toNat 0 + 1 - 1).toNat).filter (dayIn nb d))) ?_ ?_
        · dsimp only [List.take]
          k_steps
          all_goals first
            | exact P9a.intro (by k_asm) (by k_asm) (by assumption)
        clear ha hb F2 N2 hI hmark hml
        clear D2 oa ob ws tn tp td tm ty t1 t2 t3 D vq m0 h2 tk2
        have hks := days_of (nb := nb) (d := d) (ml := mlen ye mo) (fw := fwOf ye mo d) (n := (ls.getD (mo - 1).toNat 0 + 1 - 1).toNat) (by rw [hg]; omega) hml0.1 hml0.2 hcd0 hcd6 (by unfold fwOf; rw [hkey])
        rw [hks]
        clear hks hkey hg hlen
        clear ls nb
        have hfw : 1 ≤ fwOf ye mo d ∧ fwOf ye mo d ≤ 7 := by unfold fwOf; omega
        obtain ⟨hm28, hm31⟩ := hml0
        obtain ⟨hf1, hf7⟩ := hfw
        have hpl : pl = 0 ∨ pl = 1 ∨ pl = 2 ∨ pl = 3 ∨ pl = 4 ∨ pl = 5 := by omega
        intro s2 hP
        obtain ⟨D, D3, ws, tp, tm, ty, t1, t2, t3, m0, vl, vq, hI, h2, tk2, hs2, F2, N2⟩ := hP
        subst hs2
        dsimp only [List.drop]
        by_cases h5 : fwOf ye mo d + 28 ≤ mlen ye mo
        · rw [if_pos h5] at hI
          rcases hpl with hp | hp | hp | hp | hp | hp
          · subst hp
            have hdy : dayOf ye mo 0 d = fwOf ye mo d + 28 := by unfold dayOf nnOf; (repeat split) <;> omega
            rw [hdy] at N2
            clear hday hdy h5
            generalize fwOf ye mo d = fw at *
            k_steps
          · subst hp
            have hdy : dayOf ye mo 1 d = fwOf ye mo d + 0 := by unfold dayOf nnOf; (repeat split) <;> omega
            rw [hdy] at N2
            clear hday hdy h5
            generalize fwOf ye mo d = fw at *
            k_steps
          · subst hp
            have hdy : dayOf ye mo 2 d = fwOf ye mo d + 7 := by unfold dayOf nnOf; (repeat split) <;> omega
            rw [hdy] at N2
            clear hday hdy h5
            generalize fwOf ye mo d = fw at *
            k_steps
          · subst hp
            have hdy : dayOf ye mo 3 d = fwOf ye mo d + 14 := by unfold dayOf nnOf; (repeat split) <;> omega
            rw [hdy] at N2
            clear hday hdy h5
            generalize fwOf ye mo d = fw at *
            k_steps
          · subst hp
            have hdy : dayOf ye mo 4 d = fwOf ye mo d + 21 := by unfold dayOf nnOf; (repeat split) <;> omega
            rw [hdy] at N2
            clear hday hdy h5
            generalize fwOf ye mo d = fw at *
            k_steps
          · subst hp
            have hdy : dayOf ye mo 5 d = fwOf ye mo d + 28 := by unfold dayOf nnOf; (repeat split) <;> omega
            rw [hdy] at N2
            clear hday hdy h5
            generalize fwOf ye mo d = fw at *
            k_steps
        · rw [if_neg h5] at hI
          rcases hpl with hp | hp | hp | hp | hp | hp
          · subst hp
            have hdy : dayOf ye mo 0 d = fwOf ye mo d + 21 := by unfold dayOf nnOf; (repeat split) <;> omega
            rw [hdy] at N2
            clear hday hdy h5
            generalize fwOf ye mo d = fw at *
            k_steps
          · subst hp
            have hdy : dayOf ye mo 1 d = fwOf ye mo d + 0 := by unfold dayOf nnOf; (repeat split) <;> omega
            rw [hdy] at N2
            clear hday hdy h5
            generalize fwOf ye mo d = fw at *
            k_steps
          · subst hp
            have hdy : dayOf ye mo 2 d = fwOf ye mo d + 7 := by unfold dayOf nnOf; (repeat split) <;> omega
            rw [hdy] at N2
            clear hday hdy h5
            generalize fwOf ye mo d = fw at *
            k_steps
          · subst hp
            have hdy : dayOf ye mo 3 d = fwOf ye mo d + 14 := by unfold dayOf nnOf; (repeat split) <;> omega
            rw [hdy] at N2
            clear hday hdy h5
            generalize fwOf ye mo d = fw at *
            k_steps
          · subst hp
            have hdy : dayOf ye mo 4 d = fwOf ye mo d + 21 := by unfold dayOf nnOf; (repeat split) <;> omega
            rw [hdy] at N2
            clear hday hdy h5
            generalize fwOf ye mo d = fw at *
            k_steps
          · exfalso
            subst hp
            have hdy : dayOf ye mo 5 d = fwOf ye mo d + 28 := by unfold dayOf nnOf; (repeat split) <;> omega
            omega
      · have hdayX : mlen ye mo < dayOf ye mo pl d := by omega
        clear hday
        refine cutAt 3 (P7b s1.heap s1.heap.objs.size s1 pl d mo ye) ?_ ?_
        · dsimp only [List.take]
          k_steps
          all_goals first
            | exact P7b.intro (by k_asm) (by k_asm) ha hb
        clear ha hb F2 N2
        clear oa ob tp td tm ty va m0 h2 tk2
        intro s2 hP
        obtain ⟨oa, ob, tp, td, tm, ty, t1, va, vq, m0, ha, hb, h2, tk2, hs2, F2, N2⟩ := hP
        subst hs2
        dsimp only [List.drop]
        refine cutAt 2 (P8b s1.heap s1.heap.objs.size s1 pl d mo ye) ?_ ?_
        · dsimp only [List.take]
          k_steps
          all_goals first
            | exact P8b.intro (by k_asm) (by k_asm) (by assumption) (by assumption)
        clear ha hb F2 N2
        clear oa ob tp td tm ty t1 va vq m0 h2 tk2
        intro s2 hP
        obtain ⟨D2, oa, ob, ws, tn, tp, td, tm, ty, t1, vq, m0, hI, ha, hb, h2, tk2, hs2, F2, N2⟩ := hP
        subst hs2
        dsimp only [List.drop]
        have hlen : (lens ye).length = 12 := rfl
        have hg := lens_get (y := ye) hcm0 hcm6
        have hml := mlen_bd (y := ye) hcm0 hcm6
        have hkey := num_key (y := ye) hcm0 hcm6
        generalize lens ye = ls at hI hlen hg
        generalize numOf ye mo = nb at ha hkey
        have hmark : DaysMark nb d := ⟨trivial⟩
        have hml0 := hml
        rw [← hg] at hml
        refine cutAt 1 (P9b s1.heap s1.heap.objs.size s1 pl mo ye ((rangeKs 1 (ls.getD (mo - 1).toNat 0 + 1 - 1).toNat).filter (dayIn nb d))) ?_ ?_
        · dsimp only [List.take]
          k_steps
          all_goals first
            | exact P9b.intro (by k_asm) (by k_asm) (by assumption)
        clear ha hb F2 N2 hI hmark hml
        clear D2 oa ob ws tn tp td tm ty t1 vq m0 h2 tk2
        have hks := days_of (nb := nb) (d := d) (ml := mlen ye mo) (fw := fwOf ye mo d) (n := (ls.getD (mo - 1).toNat 0 + 1 - 1).toNat) (by rw [hg]; omega) hml0.1 hml0.2 hcd0 hcd6 (by unfold fwOf; rw [hkey])
        rw [hks]
        clear hks hkey hg hlen
        clear ls nb
        have hfw : 1 ≤ fwOf ye mo d ∧ fwOf ye mo d ≤ 7 := by unfold fwOf; omega
        obtain ⟨hm28, hm31⟩ := hml0
        obtain ⟨hf1, hf7⟩ := hfw
        have hpl : pl = 0 ∨ pl = 1 ∨ pl = 2 ∨ pl = 3 ∨ pl = 4 ∨ pl = 5 := by omega
        have h5 : ¬ fwOf ye mo d + 28 ≤ mlen ye mo := fun h5 => by
          rcases hpl with hp | hp | hp | hp | hp | hp <;> subst hp <;> unfold dayOf nnOf at hdayX <;> (repeat (split at hdayX)) <;> omega
        have hp5 : pl = 5 := by
          rcases hpl with hp | hp | hp | hp | hp | hp <;> (try exact hp) <;> exfalso <;> subst hp <;> unfold dayOf nnOf at hdayX <;> (repeat (split at hdayX)) <;> omega
        subst hp5
        rw [if_neg h5]
        clear h5 hdayX hpl
        intro s2 hP
        obtain ⟨D3, ws, tp, tm, ty, t1, m0, vl, vq, hI, h2, tk2, hs2, F2, N2⟩ := hP
        subst hs2
        dsimp only [List.drop]
        generalize fwOf ye mo d = fw at *
        k_steps)
end Mine

theorem PySem.Challenge.cw_ak5001_01_holds : PySem.Challenge.rw_ak5001_01.Holds := by
  exact Mine.law_all
