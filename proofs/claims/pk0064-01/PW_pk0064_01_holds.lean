import PyProof.Rows.All
import Wide.All
import OpenK.AllK
import Wide.FinOn
import KE.KBits
import KE.KStateW
import KE.KPar
import KE.KListMore
import KE.KCat
import PySem.Challenge.RW_pk0064_01
open PySem PySem.W PyProof.Rows PySem.Calls
set_option Elab.async false
set_option maxRecDepth 100000
set_option maxHeartbeats 8000000
set_option pp.deepTerms false
set_option pp.deepTerms.threshold 4
namespace Mine
/-! Hd -/
open_top hd for PySem.Challenge.rw_pk0064_01
theorem off : True := by w_top off; exact trivial
local macro_rules | `(tactic| walk_at $s:str) => `(tactic| k_extra $s)
/-! Base -/
section
abbrev PG : Program := PySem.Challenge.rw_pk0064_01.prog

section
variable {w : World} {A : Around} {s : Shared} {p : Program} {loose : List Str} {mean : ExcName → Option Value} {mg mb : Str → Option Value} {prog : Program} {K : Frag}
  {E : Value → Shared → Prop} {Q : Value → Shared → Prop}

theorem enter {name qual : Str} {params : Arguments} {body : List Stmt} {scope : Scope} {dV kV doc pm cdv ct oc : Value} {an od : Option Addr} {osl : Array (Option Value)} {f : Addr} {pos : List Value} {kw : List (Str × Value)} {binds : List (Str × Value)}
    (X : K.In s.heap) (T : Top p loose mean mg mb s.heap)
    (ho : K.lookup f = some ⟨oc, od, .func (fnOf name qual params body scope dV kV doc pm an cdv ct), osl⟩) (hcd : codeIn K cdv qual = true) (hroom : A.depth < recursionLimit)
    (hbind : BindsTo s (fnOf name qual params body scope dV kV doc pm an cdv ct) ⟨pos, kw⟩ binds) (hloc : ∀ y ∈ binds, scope.names.lookup y.1 = some .local)
    (h : ∀ L' h₁, Fr s.heap L' h₁ (fun y => binds.reverse.lookup y) → News s.heap L' h₁ [] →
      wpAny (model prog w) (A.deeper (envOf qual scope L' f cdv)) (execs body (envOf qual scope L' f cdv))
        (fun fl s' => Q (match fl with | .ret v => v | _ => .none) s')
        (fun e s' => wpAny (model prog w) (A.deeper (envOf qual scope L' f cdv)) (leaving (envOf qual scope L' f cdv) e) (fun _ s'' => E e s'') (fun e' s'' => E e' s'') s')
        { s with heap := h₁, toks := s.toks + binds.length })
    (hco : scope.isCoroutine = false) (hgen : scope.isGenerator = false) (hk : scope.kind = .function)
    (hcell : ∀ x ∈ scope.names, x.2 ≠ .cell) : wpAny (model prog w) A (call (.ref f) pos kw) Q E s := by
  refine wpAny_call (codeAny_call_def (fd := fnOf name qual params body scope dV kV doc pm an cdv ct) (body := body) (binds := binds) hroom (X _ _ ho) rfl T.nolimit (codeRec_of X hcd) rfl hbind hcell hloc (fun h₁ hns hk₁ => ?_) hco hgen hk)
  exact h s.heap.objs.size h₁ ⟨hns, hk₁, Nat.le_refl _⟩ News.nil
end
end
/-! Fn1 -/
section
/-- a thing: a number, or one sign -/
inductive Th where
  | i (n : Int)
  | c (n : Nat)
deriving DecidableEq
def Th.num : Th → Int
  | .i n => n
  | .c n => (n : Int)
inductive ThV : Value → Th → Prop
  | i (n : Int) (t : Tok) : ThV (.int n t) (.i n)
  | c (n : Nat) (t : Tok) : n < 55296 → ThV (.str ⟨#[n]⟩ t) (.c n)

def Stays (s : Shared) (h' : Heap) : Prop := ∀ b o, s.heap.get? b = some o → h'.get? b = some o

/-- a call that turns nothing that stood -/
def Pure (w : World) (A : Around) (s : Shared) (t : Sem Value) (R : Value → Heap → Prop) : Prop :=
  ∀ (Q E : Value → Shared → Prop), (∀ v h' tk', R v h' → Stays s h' → Q v { s with heap := h', toks := tk' }) → wpAny (model PySem.Challenge.rw_pk0064_01.prog w) A t Q E s

theorem news_stays {h₀ h h' : Heap} {L : Addr} {news : List (Addr × Obj)} (N : News h₀ L h news) (k : ∀ b o, h.get? b = some o → h'.get? b = some o) : News h₀ L h' news :=
  fun p hp => ⟨k _ _ (N p hp).1, (N p hp).2⟩
theorem fr_stays {h₀ h h' : Heap} {L : Addr} {m : Str → Option Value} (F : Fr h₀ L h m) (k : ∀ b o, h.get? b = some o → h'.get? b = some o) : Fr h₀ L h' m :=
  ⟨F.ns.keeps k, fun b o e => k _ _ (F.keep b o e), F.above⟩

section
variable {w : World} {A : Around} {s : Shared} {p : Program} {loose : List Str} {mean : ExcName → Option Value} {mg mb : Str → Option Value}
  {E : Value → Shared → Prop} {Q : Value → Shared → Prop} {h₀ : Heap} {L : Addr} {m : Str → Option Value} {news : List (Addr × Obj)} {t : Sem Value} {R : Value → Heap → Prop}

theorem Pure.framed (P : Pure w A s t R) (F : Fr h₀ L s.heap m) (N : News h₀ L s.heap news)
    (h : ∀ v h' tk', R v h' → Stays s h' → Fr h₀ L h' m → News h₀ L h' news → Q v { s with heap := h', toks := tk' }) :
    wpAny (model PySem.Challenge.rw_pk0064_01.prog w) A t Q E s :=
  P Q E fun v h' tk' r k => h v h' tk' r k (fr_stays F k) (news_stays N k)
def RInt (x : Int) : Value → Heap → Prop := fun v _ => ∃ t, v = .int x t
def RBool (x : Bool) : Value → Heap → Prop := fun v _ => v = .bool x
def RStr (x : Str) : Value → Heap → Prop := fun v _ => ∃ t, v = .str x t
theorem Pure.framedI {x : Int} (P : Pure w A s t (RInt x)) (F : Fr h₀ L s.heap m) (N : News h₀ L s.heap news)
    (h : ∀ u h' tk', Stays s h' → Fr h₀ L h' m → News h₀ L h' news → Q (.int x u) { s with heap := h', toks := tk' }) :
    wpAny (model PySem.Challenge.rw_pk0064_01.prog w) A t Q E s :=
  P Q E fun v h' tk' r k => by obtain ⟨u, rfl⟩ := r; exact h u h' tk' k (fr_stays F k) (news_stays N k)
theorem Pure.framedS {x : Str} (P : Pure w A s t (RStr x)) (F : Fr h₀ L s.heap m) (N : News h₀ L s.heap news)
    (h : ∀ u h' tk', Stays s h' → Fr h₀ L h' m → News h₀ L h' news → Q (.str x u) { s with heap := h', toks := tk' }) :
    wpAny (model PySem.Challenge.rw_pk0064_01.prog w) A t Q E s :=
  P Q E fun v h' tk' r k => by obtain ⟨u, rfl⟩ := r; exact h u h' tk' k (fr_stays F k) (news_stays N k)
theorem Pure.framedB {x : Bool} (P : Pure w A s t (RBool x)) (F : Fr h₀ L s.heap m) (N : News h₀ L s.heap news)
    (h : ∀ h' tk', Stays s h' → Fr h₀ L h' m → News h₀ L h' news → Q (.bool x) { s with heap := h', toks := tk' }) :
    wpAny (model PySem.Challenge.rw_pk0064_01.prog w) A t Q E s :=
  P Q E fun v h' tk' r k => by cases r; exact h h' tk' k (fr_stays F k) (news_stays N k)
end
theorem fill (w : World) (h : Heap) : (hd.heap_39 w.params).In h → PySem.Challenge.rw_pk0064_01.prog = PySem.Challenge.rw_pk0064_01.prog := by
  k_fill
  intro _; rfl

-- my own words, under keys of my own
theorem lnFn10 : True := by
  k_with_none
  k_with "my enter" => (
      refine' enter (by assumption) (by assumption) ?zzk6 ?zzk7 ?zzk8 ?zzk9 ?zzkB ?_ ?zzc2 ?zzc3 ?zzc4 ?zzc5; (case zzk6 => k_is); (case zzk7 => k_is); (case zzk8 => omega); (case zzk9 => exact BindsTo.of_eq rfl); (case zzc5 => decide); (case zzkB => exact locs rfl); (case zzc2 => exact rfl); (case zzc3 => exact rfl); (case zzc4 => exact rfl)
      intro L' h' F' N'
      (try dsimp only)
      (try k_fold)
      k_steps)
  k_with "my end" => (
      rename_i hret
      refine hret _ _ _ ?_ (Fr.keep (by assumption)))
  exact trivial

section
variable {w : World} {A : Around} {s : Shared} {p : Program} {loose : List Str} {mean : ExcName → Option Value} {mg mb : Str → Option Value}

theorem ctoi_spec {v : Value} {th : Th} (hv : ThV v th) (X : (hd.heap_39 w.params).In s.heap) (T : Top p loose mean mg mb s.heap) (hroom : A.depth + 1 < recursionLimit) :
    Pure w A s (call (.ref 57) [v]) (RInt th.num) := by
  intro Q E hret
  cases hv with
  | i n t =>
    walk_at "my enter"
    exact hret _ _ _ ⟨_, rfl⟩ (Fr.keep (by assumption))
  | c n t hn =>
    walk_at "my enter"
    exact hret _ _ _ ⟨_, rfl⟩ (Fr.keep (by assumption))

theorem number_spec {v : Value} {th : Th} (hv : ThV v th) (X : (hd.heap_39 w.params).In s.heap) (T : Top p loose mean mg mb s.heap) (hroom : A.depth + 1 < recursionLimit) :
    Pure w A s (call (.ref 78) [v]) (RInt th.num) := by
  intro Q E hret
  cases hv with
  | i n t =>
    walk_at "my enter"
    exact hret _ _ _ ⟨_, rfl⟩ (Fr.keep (by assumption))
  | c n t hn =>
    walk_at "my enter"
    exact hret _ _ _ ⟨_, rfl⟩ (Fr.keep (by assumption))
end
end
/-! Fn2 -/
section
theorem fill2 (w : World) (h : Heap) : (hd.heap_39 w.params).In h → PySem.Challenge.rw_pk0064_01.prog = PySem.Challenge.rw_pk0064_01.prog := by
  k_fill
  intro _; rfl

def codeN (x : Int) : Int := 2 * (x % 256) + (if x % 256 = 127 ∧ x ≠ 127 then 1 else 0)
def lowPic (x : Int) : Str :=
  if x % 128 = 127 then (if x = 127 then ⟨#[94, 63]⟩ else ⟨#[94, 159]⟩)
  else if 31 < x % 128 then ⟨#[(x % 128).toNat]⟩ else ⟨#[94, (x % 128).toNat + 64]⟩
def picN (x : Int) : Str := if 127 < x % 256 then ⟨#[33]⟩ ++ lowPic x else lowPic x

theorem fmod_em (a : Int) {b : Int} (hb : 0 ≤ b) : a.fmod b = a % b := Int.fmod_eq_emod_of_nonneg a hb
theorem or32 : ∀ r : Fin 128, Builtin.bitOr (r.val : Int) 32 = if r.val % 64 < 32 then (r.val : Int) + 32 else (r.val : Int) := by decide
theorem or32' (x : Int) : Builtin.bitOr (x % 128) 32 = if x % 64 < 32 then x % 128 + 32 else x % 128 := by
  have h := or32 ⟨(x % 128).toNat, by omega⟩
  have e : (((x % 128).toNat : Nat) : Int) = x % 128 := by omega
  simp only [e] at h
  rw [h]
  by_cases q : x % 64 < 32
  · rw [if_pos q, if_pos (by omega)]
  · rw [if_neg q, if_neg (by omega)]
theorem and128 (x : Int) : Builtin.bitAnd x 128 = if 127 < x % 256 then 128 else 0 := by
  have h := kbt_bit x 7
  simp only [show (2 : Int) ^ 7 = 128 from by decide] at h
  rw [h]
  by_cases q : 127 < x % 256
  · rw [if_pos q]; have : x / 128 % 2 = 1 := by omega
    rw [this]; rfl
  · rw [if_neg q]; have : x / 128 % 2 = 0 := by omega
    rw [this]; rfl

theorem rstr_end {x y : Str} {t : Tok} {h : Heap} (e : y = x) : RStr x (Value.str y t) h := ⟨t, by rw [e]⟩
theorem rint_end {x y : Int} {t : Tok} {h : Heap} (e : y = x) : RInt x (Value.int y t) h := ⟨t, by rw [e]⟩
theorem rbool_end {x y : Bool} {h : Heap} (e : y = x) : RBool x (Value.bool y) h := by rw [e]; rfl
theorem s33 : Str.ofString "!" = ⟨#[33]⟩ := by decide +kernel
theorem s94 : Str.ofString "^" = ⟨#[94]⟩ := by decide +kernel
theorem s9463 : Str.ofString "^?" = ⟨#[94, 63]⟩ := by decide +kernel
theorem cat2 (a b : Nat) : (⟨#[a]⟩ : Str) ++ ⟨#[b]⟩ = ⟨#[a, b]⟩ := rfl
theorem sing_eq {a b : Nat} (h : a = b) : (⟨#[a]⟩ : Str) = ⟨#[b]⟩ := by rw [h]
theorem two_eq {a b c : Nat} (h : a = b) : (⟨#[c, a]⟩ : Str) = ⟨#[c, b]⟩ := by rw [h]
-- my own words, under keys of my own
theorem lnFn20 : True := by
  k_with_none
  k_with "my enter" => (
      refine' enter (by assumption) (by assumption) ?zzk6 ?zzk7 ?zzk8 ?zzk9 ?zzkB ?_ ?zzc2 ?zzc3 ?zzc4 ?zzc5; (case zzk6 => k_is); (case zzk7 => k_is); (case zzk8 => omega); (case zzk9 => exact BindsTo.of_eq rfl); (case zzc5 => decide); (case zzkB => exact locs rfl); (case zzc2 => exact rfl); (case zzc3 => exact rfl); (case zzc4 => exact rfl)
      intro L' h' F' N'
      (try dsimp only)
      (try k_fold)
      k_steps)
  k_with "my X" => (refine' Frag.In.keeps ?zzx (Fr.keep ?zzf); (case zzf => assumption); (case zzx => assumption))
  k_with "my T" => (refine' Top.keeps ?zzx (Fr.keep ?zzf); (case zzf => assumption); (case zzx => assumption))
  k_with "my room" => ((try simp only [depth_deeper, depth_in1]); omega)
  k_with "my th" => first | assumption | exact ThV.i _ _
  k_with "my after" => (intro t' h' tk' k' F' N'; (try clear k'); (try dsimp only); (try k_sweep))
  k_with "my afterB" => (intro h' tk' k' F' N'; (try clear k'); (try dsimp only); (try k_sweep))
  k_with "call ref" => (
      refine' Pure.framedI (ctoi_spec ?zzv ?zzX ?zzT ?zzr) ?zzF ?zzN ?_; (case zzF => k_asm); (case zzN => k_asm); (case zzv => walk_at "my th"); (case zzX => walk_at "my X"); (case zzT => walk_at "my T"); (case zzr => walk_at "my room"); k_whole
      walk_at "my after")
  k_with "call ref" => (
      refine' Pure.framedI (number_spec ?zzv ?zzX ?zzT ?zzr) ?zzF ?zzN ?_; (case zzF => k_asm); (case zzN => k_asm); (case zzv => walk_at "my th"); (case zzX => walk_at "my X"); (case zzT => walk_at "my T"); (case zzr => walk_at "my room"); k_whole
      walk_at "my after")
  k_with "my text" => (
      generalize Th.num _ = x at *
      simp only [fmod_em, Int.reduceLE, picN, lowPic, s33, s94, s9463, cat2] at *
      (repeat' split at *) <;> (first | omega | rfl | exact sing_eq (by omega) | exact two_eq (by omega) | exact congrArg _ (sing_eq (by omega)) | exact congrArg _ (two_eq (by omega))))
  exact trivial

section
variable {w : World} {A : Around} {s : Shared} {p : Program} {loose : List Str} {mean : ExcName → Option Value} {mg mb : Str → Option Value}

theorem isprint_spec {x : Int} {t : Tok} (X : (hd.heap_39 w.params).In s.heap) (T : Top p loose mean mg mb s.heap) (hroom : A.depth + 2 < recursionLimit) :
    Pure w A s (call (.ref 64) [.int x t]) (RBool (decide (32 ≤ x ∧ x ≤ 126))) := by
  intro Q E hret
  walk_at "my enter"
  all_goals refine hret _ _ _ ?_ (Fr.keep (by assumption))
  all_goals (refine rbool_end (decide_eq_decide.mpr ?_); simp only [Th.num] at *; omega)

theorem code_spec {v : Value} {th : Th} (hv : ThV v th) (X : (hd.heap_39 w.params).In s.heap) (T : Top p loose mean mg mb s.heap) (hroom : A.depth + 2 < recursionLimit) :
    Pure w A s (call (.ref 85) [v]) (RInt (codeN th.num)) := by
  intro Q E hret
  walk_at "my enter"
  all_goals refine hret _ _ _ ?_ (Fr.keep (by assumption))
  all_goals refine rint_end ?_
  all_goals simp_all [codeN, fmod_em]

theorem lnFn210 : True := by
  k_with "call ref" => (
      refine' Pure.framedB (isprint_spec ?zzX ?zzT ?zzr) ?zzF ?zzN ?_; (case zzF => k_asm); (case zzN => k_asm); (case zzX => walk_at "my X"); (case zzT => walk_at "my T"); (case zzr => walk_at "my room"); k_whole
      walk_at "my afterB")
  k_with "binaryOp BitAnd int int" => (refine and_int ?_; (first | rw [bitAnd_m7] | rw [and128]))
  k_with "binaryOp BitOr int int" => (refine or_int ?_; rw [or32'])
  k_with "call builtin:chr" => (refine' chr_of_range ?zza ?zzb ?_; (case zza => (first | omega | (split <;> omega))); (case zzb => (first | omega | (split <;> omega))))
  exact trivial

theorem unctrl_spec {v : Value} {th : Th} (hv : ThV v th) (X : (hd.heap_39 w.params).In s.heap) (T : Top p loose mean mg mb s.heap) (hroom : A.depth + 3 < recursionLimit) :
    Pure w A s (call (.ref 71) [v]) (RStr (picN th.num)) := by
  intro Q E hret
  walk_at "my enter"
  all_goals refine hret _ _ _ ?_ (Fr.keep (by assumption))
  all_goals refine rstr_end ?_
  all_goals walk_at "my text"
theorem picture_spec {v : Value} {th : Th} (hv : ThV v th) (X : (hd.heap_39 w.params).In s.heap) (T : Top p loose mean mg mb s.heap) (hroom : A.depth + 3 < recursionLimit) :
    Pure w A s (call (.ref 92) [v]) (RStr (picN th.num)) := by
  intro Q E hret
  walk_at "my enter"
  all_goals refine hret _ _ _ ?_ (Fr.keep (by assumption))
  all_goals refine rstr_end ?_
  all_goals walk_at "my text"
end
end
/-! Bis -/
section
theorem fill3 (w : World) (h : Heap) : (hd.heap_39 w.params).In h → PySem.Challenge.rw_pk0064_01.prog = PySem.Challenge.rw_pk0064_01.prog := by
  k_fill
  intro _; rfl

/-- the search's state: between lo and hi, the answer is r -/
structure BisD (n len r lo hi : Int) : Prop where
  h0 : 0 ≤ lo
  h1 : hi ≤ len
  h2 : max lo (min hi n) = r

theorem BisD.left {n len r lo hi mid : Int} (D : BisD n len r lo hi) (h : lo < hi) (hm : mid = (lo + hi) / 2) (hc : mid < n) : BisD n len r (mid + 1) hi ∧ (hi - (mid + 1)).toNat < (hi - lo).toNat := by
  obtain ⟨a, b, c⟩ := D; exact ⟨⟨by omega, b, by omega⟩, by omega⟩
theorem BisD.right {n len r lo hi mid : Int} (D : BisD n len r lo hi) (h : lo < hi) (hm : mid = (lo + hi) / 2) (hc : ¬ mid < n) : BisD n len r lo mid ∧ (mid - lo).toNat < (hi - lo).toNat := by
  obtain ⟨a, b, c⟩ := D; exact ⟨⟨by omega, by omega, by omega⟩, by omega⟩
theorem BisD.over {n len r lo hi : Int} (D : BisD n len r lo hi) (h : ¬ lo < hi) : lo = r := by
  obtain ⟨a, b, c⟩ := D; omega
theorem mid_eq (a : Int) : a.fdiv 2 = a / 2 := Int.fdiv_eq_ediv_of_nonneg a (by decide)
theorem BisD.mid {n len r lo hi : Int} (D : BisD n len r lo hi) (h : lo < hi) : 0 ≤ (lo + hi).fdiv 2 ∧ (lo + hi).fdiv 2 < len := by
  obtain ⟨a, b, c⟩ := D; rw [mid_eq]; omega
theorem BisD.stepL {α : Type} {as : List α} {lt : α → Prop} {a : α} {n len r lo hi : Int} (hc : ∀ (i : Nat) a, as[i]? = some a → (lt a ↔ (i : Int) < n)) (D : BisD n len r lo hi) (h : lo < hi)
    (ha : as[((lo + hi).fdiv 2).toNat]? = some a) (hlt : lt a) : BisD n len r ((lo + hi).fdiv 2 + 1) hi ∧ (hi - ((lo + hi).fdiv 2 + 1)).toNat < (hi - lo).toNat := by
  have q := (D.mid h).1
  have := (hc _ _ ha).mp hlt
  exact D.left h (mid_eq _) (by omega)
theorem BisD.stepR {α : Type} {as : List α} {lt : α → Prop} {a : α} {n len r lo hi : Int} (hc : ∀ (i : Nat) a, as[i]? = some a → (lt a ↔ (i : Int) < n)) (D : BisD n len r lo hi) (h : lo < hi)
    (ha : as[((lo + hi).fdiv 2).toNat]? = some a) (hlt : ¬ lt a) : BisD n len r lo ((lo + hi).fdiv 2) ∧ ((lo + hi).fdiv 2 - lo).toNat < (hi - lo).toNat := by
  have q := (D.mid h).1
  have := mt (hc _ _ ha).mpr hlt
  exact D.right h (mid_eq _) (by omega)
theorem BisD.stepL' {α : Type} {as : List α} {lt : α → Prop} {a : α} {n len r lo hi : Int} (hc : ∀ (i : Nat) a, as[i]? = some a → (lt a ↔ ¬ (i : Int) < n)) (D : BisD n len r lo hi) (h : lo < hi)
    (ha : as[((lo + hi).fdiv 2).toNat]? = some a) (hlt : ¬ lt a) : BisD n len r ((lo + hi).fdiv 2 + 1) hi ∧ (hi - ((lo + hi).fdiv 2 + 1)).toNat < (hi - lo).toNat := by
  have q := (D.mid h).1
  have := mt (hc _ _ ha).mpr hlt
  exact D.left h (mid_eq _) (by omega)
theorem BisD.stepR' {α : Type} {as : List α} {lt : α → Prop} {a : α} {n len r lo hi : Int} (hc : ∀ (i : Nat) a, as[i]? = some a → (lt a ↔ ¬ (i : Int) < n)) (D : BisD n len r lo hi) (h : lo < hi)
    (ha : as[((lo + hi).fdiv 2).toNat]? = some a) (hlt : lt a) : BisD n len r lo ((lo + hi).fdiv 2) ∧ ((lo + hi).fdiv 2 - lo).toNat < (hi - lo).toNat := by
  have q := (D.mid h).1
  have := (hc _ _ ha).mp hlt
  exact D.right h (mid_eq _) (by omega)

/-- the values of a list, one by one -/
inductive Are {α : Type} (R : Value → α → Prop) : List Value → List α → Prop
  | nil : Are R [] []
  | cons {v : Value} {a : α} {vs : List Value} {as : List α} : R v a → Are R vs as → Are R (v :: vs) (a :: as)
theorem Are.length {α : Type} {R : Value → α → Prop} : ∀ {vs : List Value} {as : List α}, Are R vs as → vs.length = as.length
  | _, _, .nil => rfl
  | _, _, .cons _ h => by simp [h.length]
theorem Are.at {α : Type} {R : Value → α → Prop} : ∀ {vs : List Value} {as : List α}, Are R vs as → ∀ i, i < as.length → ∃ v a, vs[i]? = some v ∧ as[i]? = some a ∧ R v a
  | _, _, .nil, i, h => by simp at h
  | _, _, .cons (v := v) (a := a) r h, 0, _ => ⟨v, a, rfl, rfl, r⟩
  | _, _, .cons r h, i + 1, hi => by
    obtain ⟨v, a, e1, e2, e3⟩ := h.at i (by simpa using hi)
    exact ⟨v, a, by simpa using e1, by simpa using e2, e3⟩
def IntV (v : Value) (i : Int) : Prop := ∃ t, v = .int i t
def StrV (v : Value) (x : Str) : Prop := ∃ t, v = .str x t

section
variable {prog : Program} {w : World} {A : Around} {E : Value → Shared → Prop} {s : Shared} {Q : Value → Shared → Prop} {value slice : PySem.Expr} {l : Addr} {vs : List Value} {k : Int} {u : Tok}
theorem item_at {α : Type} {R : Value → α → Prop} {as : List α} (ha : Are R vs as) (hl : s.heap.IsList l vs.toArray) (hk : 0 ≤ k ∧ k < (as.length : Int)) (hsz : as.length < 2 ^ 20)
    (h : ∀ v a, as[k.toNat]? = some a → R v a → Q v s)
    (hs : subscripted slice false (.ref l) (.int k u) = operate [.ref l, .int k u] (getItem (.ref l) (.int k u)) := by with_unfolding_all rfl) :
    wpAny (model prog w) A (subscriptTail value slice (.ref l) (.int k u)) Q E s := by
  obtain ⟨v, a, e1, e2, e3⟩ := ha.at k.toNat (by omega)
  exact tail_any hl.typeIs slot_list_getitem.lookup (wpAny_getItem_list hl hk.1 (by omega) (by simpa using e1) (h v a e2 e3)) hs
theorem len_at {α : Type} {R : Value → α → Prop} {as : List α} (ha : Are R vs as) (hl : s.heap.IsList l vs.toArray) (hsz : as.length < 2 ^ 20)
    (h : Q (.int (as.length : Nat) (s.toks + 1)) { s with toks := s.toks + 1 + 1 }) : wpAny (model prog w) A (call (.builtin "len") [.ref l]) Q E s := by
  have e : vs.toArray.size = as.length := by simp [ha.length]
  refine Calls.call_len_list hl (by omega) ?_
  rw [e]
  exact h
theorem item_atI {as : List Int} (ha : Are IntV vs as) (hl : s.heap.IsList l vs.toArray) (hk : 0 ≤ k ∧ k < (as.length : Int)) (hsz : as.length < 2 ^ 20)
    (h : ∀ a t, as[k.toNat]? = some a → Q (.int a t) s)
    (hs : subscripted slice false (.ref l) (.int k u) = operate [.ref l, .int k u] (getItem (.ref l) (.int k u)) := by with_unfolding_all rfl) :
    wpAny (model prog w) A (subscriptTail value slice (.ref l) (.int k u)) Q E s := item_at ha hl hk hsz (fun v a e r => by obtain ⟨t, rfl⟩ := r; exact h a t e) hs
theorem item_atS {as : List Str} (ha : Are StrV vs as) (hl : s.heap.IsList l vs.toArray) (hk : 0 ≤ k ∧ k < (as.length : Int)) (hsz : as.length < 2 ^ 20)
    (h : ∀ a t, as[k.toNat]? = some a → Q (.str a t) s)
    (hs : subscripted slice false (.ref l) (.int k u) = operate [.ref l, .int k u] (getItem (.ref l) (.int k u)) := by with_unfolding_all rfl) :
    wpAny (model prog w) A (subscriptTail value slice (.ref l) (.int k u)) Q E s := item_at ha hl hk hsz (fun v a e r => by obtain ⟨t, rfl⟩ := r; exact h a t e) hs
end

def Stopped (P : Prop) : Prop := P
theorem Stopped.go {P : Prop} (h : Stopped P) : P := h
theorem Stopped.mk {P : Prop} (h : P) : Stopped P := h
theorem fr_same {h₀ h : Heap} {L : Addr} {m : Str → Option Value} {y : Str} {v : Value} (F : Fr h₀ L h m) (e : m y = some v) : Fr h₀ L h (fun z => if z = y then some v else m z) := by
  have q : (fun z => if z = y then some v else m z) = m := by
    funext z
    by_cases q : z = y
    · rw [if_pos q, q, e]
    · rw [if_neg q]
  rw [q]; exact F
theorem join_hi {prog : Program} {w : World} {A : Around} {E : Value → Shared → Prop} {Q : Flow → Shared → Prop} {s : Shared} {h₀ : Heap} {L : Addr} {m : Str → Option Value} {hi : Int} {t : Sem Flow}
    (_ : Fr h₀ L s.heap m) (_ : News h₀ L s.heap [])
    (h1 : ∀ Q' : Flow → Shared → Prop, (∀ u h' tk', Fr h₀ L h' (fun z => if z = Str.ofString "hi" then some (.int hi u) else m z) → News h₀ L h' [] → Q' .next { s with heap := h', toks := tk' }) → wpAny (model prog w) A t Q' E s)
    (h2 : ∀ u h' tk', Fr h₀ L h' (fun z => if z = Str.ofString "hi" then some (.int hi u) else m z) → News h₀ L h' [] → Q .next { s with heap := h', toks := tk' }) : wpAny (model prog w) A t Q E s := h1 Q h2
def sLo : Str := "lo"
section
variable {prog : Program} {w : World} {A : Around} {E : Value → Shared → Prop} {Q : Flow → Shared → Prop} {s : Shared} {env : Env} {h₀ : Heap} {L : Addr}
theorem bis_while {test : Expr} {body : List Stmt} {pos : Pos} {m₀ : Str → Option Value} {n len r lo hi : Int} {tl th : Tok}
    (D : BisD n len r lo hi) (F : Fr h₀ L s.heap m₀) (N : News h₀ L s.heap []) (hlo : m₀ (Str.ofString "lo") = some (.int lo tl)) (hhi : m₀ (Str.ofString "hi") = some (.int hi th))
    (turn : ∀ (lo hi : Int) (tl th : Tok) (u : Str → Option Value) h tk, BisD n len r lo hi → Fr h₀ L h (kstB (fun z => if [Str.ofString "mid"].contains z then u z else m₀ z) [(Str.ofString "lo", .int lo tl), (Str.ofString "hi", .int hi th)]) → News h₀ L h [] →
      wpAny (model prog w) A (isTrue test env (eval test env)) (fun b s₂ =>
        if b = true then wpAny (model prog w) A (execs body env) (KswPost (σ := Int × Int × Tok × Tok) h₀ L s (fun _ => []) (fun c => [(Str.ofString "lo", .int c.1 c.2.2.1), (Str.ofString "hi", .int c.2.1 c.2.2.2)]) (fun _ => True) [Str.ofString "mid"] m₀ (fun c => BisD n len r c.1 c.2.1) (fun c => (c.2.1 - c.1).toNat) Q (lo, hi, tl, th)) E s₂ else Q .next s₂) E { s with heap := h, toks := tk })
    (hE : PassesOwn (model prog w) A env E) :
    wpAny (model prog w) A (exec (.While test body [] pos) env) Q E s := by
  refine ksw_while (σ := Int × Int × Tok × Tok) (fun _ => []) (fun c => [(Str.ofString "lo", .int c.1 c.2.2.1), (Str.ofString "hi", .int c.2.1 c.2.2.2)]) (fun _ => True) [Str.ofString "mid"] (fun c => BisD n len r c.1 c.2.1) (fun c => (c.2.1 - c.1).toNat) (lo, hi, tl, th) F N trivial ?_ D ?_ hE
  · intro p hp
    rcases List.mem_cons.mp hp with rfl | hp
    · exact hlo
    · rcases List.mem_cons.mp hp with rfl | hp
      · exact hhi
      · cases hp
  · intro c u h tk _ d F' N'
    exact turn c.1 c.2.1 c.2.2.1 c.2.2.2 u h tk d F' N'
end

-- my own words, under keys of my own
theorem lnBis0 : True := by
  k_with_none
  k_with "my enter" => (
      refine' enter (by assumption) (by assumption) ?zzk6 ?zzk7 ?zzk8 ?zzk9 ?zzkB ?_ ?zzc2 ?zzc3 ?zzc4 ?zzc5; (case zzk6 => k_is); (case zzk7 => k_is); (case zzk8 => omega); (case zzk9 => first | (rename_i hb; exact hb _ _ (by k_is) rfl) | exact BindsTo.of_eq rfl); (case zzc5 => decide); (case zzkB => exact locs rfl); (case zzc2 => exact rfl); (case zzc3 => exact rfl); (case zzc4 => exact rfl)
      intro L' h' F' N'
      (try dsimp only)
      (try k_fold)
      k_steps)
  k_with "my X" => (refine' Frag.In.keeps ?zzx (Fr.keep ?zzf); (case zzf => assumption); (case zzx => assumption))
  k_with "my T" => (refine' Top.keeps ?zzx (Fr.keep ?zzf); (case zzf => assumption); (case zzx => assumption))
  k_with "my room" => ((try simp only [depth_deeper, depth_in1]); omega)
  k_with "my th" => first | assumption | exact ThV.i _ _
  k_with "my after" => (intro t' h' tk' k' F' N'; (try clear k'); (try dsimp only); (try k_sweep))
  k_with "my afterB" => (intro h' tk' k' F' N'; (try clear k'); (try dsimp only); (try k_sweep))
  k_with "exec While Compare cons nil" => (
      (with_unfolding_all refine' bis_while ?zzD ?zzF ?zzN ?zza ?zzb ?_ ?zze); (case zzD => assumption); (case zzF => assumption); (case zzN => assumption); (case zza => with_unfolding_all rfl); (case zzb => with_unfolding_all rfl); (case zze => with_unfolding_all passes_own)
      intro lo' hi' tl' th' u' h' tk' D' F' N'
      (try k_sweep)
      (try k_fold))
  k_with "my lst" => (refine' stays_list (Fr.keep ?zzf) ?zzx; (case zzf => assumption); (case zzx => assumption))
  k_with "subscriptTail Name Name ref int" => (
      (with_unfolding_all refine' item_atI ?zza ?zzl ?zzk ?zzz ?_); (case zza => assumption); (case zzl => walk_at "my lst"); (case zzk => exact BisD.mid (by assumption) (by assumption)); (case zzz => assumption); k_whole; intro a' t' e')
  k_with "subscriptTail Name Name ref int" => (
      (with_unfolding_all refine' item_atS ?zza ?zzl ?zzk ?zzz ?_); (case zza => assumption); (case zzl => walk_at "my lst"); (case zzk => exact BisD.mid (by assumption) (by assumption)); (case zzz => assumption); k_whole; intro a' t' e')
  k_with "subscriptTail Name Name ref int" => (
      (with_unfolding_all refine' item_at (R := ThV) ?zza ?zzl ?zzk ?zzz ?_); (case zza => assumption); (case zzl => walk_at "my lst"); (case zzk => exact BisD.mid (by assumption) (by assumption)); (case zzz => assumption); k_whole; intro v' a' e' r')
  k_with "call builtin:len" => (
      (with_unfolding_all refine' len_at ?zza ?zzl ?zzz ?_); (case zza => assumption); (case zzl => walk_at "my lst"); (case zzz => assumption); k_whole)
  k_with "exec If" => ((with_reducible show wpAny _ _ (exec (Stmt.If (PySem.Expr.Compare (PySem.Expr.Name (Str.ofString "hi") _) _ _ _) _ _ _) _) _ _ _); refine Stopped.go ?_)
  k_with "my same" => (intro z h2 h3; (have q1 := h2 _ (List.Mem.head _)); (have q2 := h2 _ (List.Mem.tail _ (List.Mem.head _))); (have q3 : z ≠ Str.ofString "mid" := by (intro e; rw [e] at h3; exact absurd h3 (by decide))); dsimp only at q1 q2; simp [kstB, q1, q2, q3])
  k_with "KswPost" => (dsimp only [KswPost])
  k_with "KswEnd" => (
      refine' ksw_end (_, _, _, _) ?zzF ?zzN ?zzi ?zzf ?zza ?zzb ?zzp ?zzm; (case zzF => assumption); (case zzN => assumption); (case zzi => exact fun _ h => nomatch h); (case zzf => trivial); (case zza => kst_all); (case zzb => walk_at "my same"); (case zzp => walk_at "my turn1"); (case zzm => walk_at "my turn2"))
  k_with "my turn1" => first | exact (BisD.stepL (by assumption) (by assumption) (by assumption) (by assumption) (by assumption)).1 | exact (BisD.stepR (by assumption) (by assumption) (by assumption) (by assumption) (by assumption)).1 | exact (BisD.stepL' (by assumption) (by assumption) (by assumption) (by assumption) (by assumption)).1 | exact (BisD.stepR' (by assumption) (by assumption) (by assumption) (by assumption) (by assumption)).1
  k_with "my turn2" => first | exact (BisD.stepL (by assumption) (by assumption) (by assumption) (by assumption) (by assumption)).2 | exact (BisD.stepR (by assumption) (by assumption) (by assumption) (by assumption) (by assumption)).2 | exact (BisD.stepL' (by assumption) (by assumption) (by assumption) (by assumption) (by assumption)).2 | exact (BisD.stepR' (by assumption) (by assumption) (by assumption) (by assumption) (by assumption)).2
  k_with "call ref" => (
      refine' Pure.framedI (code_spec ?zzv ?zzX ?zzT ?zzr) ?zzF ?zzN ?_; (case zzF => k_asm); (case zzN => k_asm); (case zzv => walk_at "my th"); (case zzX => walk_at "my X"); (case zzT => walk_at "my T"); (case zzr => walk_at "my room"); k_whole
      walk_at "my after")
  k_with "call ref" => (
      refine' Pure.framedS (unctrl_spec ?zzv ?zzX ?zzT ?zzr) ?zzF ?zzN ?_; (case zzF => k_asm); (case zzN => k_asm); (case zzv => walk_at "my th"); (case zzX => walk_at "my X"); (case zzT => walk_at "my T"); (case zzr => walk_at "my room"); k_whole
      walk_at "my after")
  exact trivial

section
variable {w : World} {A : Around} {s : Shared} {p : Program} {loose : List Str} {mean : ExcName → Option Value} {mg mb : Str → Option Value}

theorem bl_ints {l : Addr} {its : List Value} {ns : List Int} {x : Int} {lo hi n r : Int} {t tl th : Tok} {hv : Value} {pos : List Value} {kw : List (Str × Value)}
    (hl : s.heap.IsList l its.toArray) (hns : Are IntV its ns) (hlen : ns.length < 2 ^ 20)
    (D : BisD n ns.length r lo hi) (hc : ∀ (i : Nat) a, ns[i]? = some a → (a < x ↔ (i : Int) < n))
    (hhv : hv = .int hi th ∨ (hv = .none ∧ hi = ns.length))
    (hb : ∀ fd o, (hd.heap_39 w.params).lookup 50 = some o → o.data = .func fd → BindsTo s fd ⟨pos, kw⟩ [("a", .ref l), ("x", .int x t), ("lo", .int lo tl), ("hi", hv), ("key", .none)])
    (X : (hd.heap_39 w.params).In s.heap) (T : Top p loose mean mg mb s.heap) (hroom : A.depth + 5 < recursionLimit) :
    Pure w A s (call (.ref 50) pos kw) (RInt r) := by
  intro Q E hret
  have hlo := D.h0
  have hhi := D.h1
  refine' enter (by assumption) (by assumption) ?zzk6 ?zzk7 ?zzk8 ?zzk9 ?zzkB ?_ ?zzc2 ?zzc3 ?zzc4 ?zzc5; (case zzk6 => k_is); (case zzk7 => k_is); (case zzk8 => omega); (case zzk9 => exact hb _ _ (by k_is) rfl); (case zzc5 => decide); (case zzkB => exact locs rfl); (case zzc2 => exact rfl); (case zzc3 => exact rfl); (case zzc4 => exact rfl)
  clear hb
  intro L' h' F' N'
  (try dsimp only)
  (try k_fold)
  k_steps
  unfold Stopped
  refine join_hi (hi := hi) (by assumption) (by assumption) ?_ ?_
  · intro Q9 hQ9
    refine wpAny_If ?_
    rcases hhv with hhv | ⟨hhv, hhl⟩ <;> subst hhv
    · k_steps
      exact hQ9 th _ _ (fr_same (by assumption) (by with_unfolding_all rfl)) (by assumption)
    · subst hhl
      k_steps
      exact hQ9 _ _ _ (by assumption) (by assumption)
  · clear F' N' hhv
    intro t9 h9 tk9 F9 N9
    (try dsimp only)
    k_steps
    all_goals refine hret _ _ _ ?_ (Fr.keep (by assumption))
    all_goals exact rint_end (BisD.over (by assumption) (by assumption))

theorem bl_strs {l : Addr} {its : List Value} {ns : List Str} {x : Str} {lo hi n r : Int} {t tl th : Tok} {hv : Value} {pos : List Value} {kw : List (Str × Value)}
    (hl : s.heap.IsList l its.toArray) (hns : Are StrV its ns) (hlen : ns.length < 2 ^ 20)
    (D : BisD n ns.length r lo hi) (hc : ∀ (i : Nat) a, ns[i]? = some a → (a.cps.toList < x.cps.toList ↔ (i : Int) < n))
    (hhv : hv = .int hi th ∨ (hv = .none ∧ hi = ns.length))
    (hb : ∀ fd o, (hd.heap_39 w.params).lookup 50 = some o → o.data = .func fd → BindsTo s fd ⟨pos, kw⟩ [("a", .ref l), ("x", .str x t), ("lo", .int lo tl), ("hi", hv), ("key", .none)])
    (X : (hd.heap_39 w.params).In s.heap) (T : Top p loose mean mg mb s.heap) (hroom : A.depth + 5 < recursionLimit) :
    Pure w A s (call (.ref 50) pos kw) (RInt r) := by
  intro Q E hret
  have hlo := D.h0
  have hhi := D.h1
  refine' enter (by assumption) (by assumption) ?zzk6 ?zzk7 ?zzk8 ?zzk9 ?zzkB ?_ ?zzc2 ?zzc3 ?zzc4 ?zzc5; (case zzk6 => k_is); (case zzk7 => k_is); (case zzk8 => omega); (case zzk9 => exact hb _ _ (by k_is) rfl); (case zzc5 => decide); (case zzkB => exact locs rfl); (case zzc2 => exact rfl); (case zzc3 => exact rfl); (case zzc4 => exact rfl)
  clear hb
  intro L' h' F' N'
  (try dsimp only)
  (try k_fold)
  k_steps
  unfold Stopped
  refine join_hi (hi := hi) (by assumption) (by assumption) ?_ ?_
  · intro Q9 hQ9
    refine wpAny_If ?_
    rcases hhv with hhv | ⟨hhv, hhl⟩ <;> subst hhv
    · k_steps
      exact hQ9 th _ _ (fr_same (by assumption) (by with_unfolding_all rfl)) (by assumption)
    · subst hhl
      k_steps
      exact hQ9 _ _ _ (by assumption) (by assumption)
  · clear F' N' hhv
    intro t9 h9 tk9 F9 N9
    (try dsimp only)
    k_steps
    all_goals refine hret _ _ _ ?_ (Fr.keep (by assumption))
    all_goals exact rint_end (BisD.over (by assumption) (by assumption))

theorem bl_code {l : Addr} {its : List Value} {ns : List Th} {x : Int} {lo hi n r : Int} {t tl th : Tok} {hv : Value} {pos : List Value} {kw : List (Str × Value)}
    (hl : s.heap.IsList l its.toArray) (hns : Are ThV its ns) (hlen : ns.length < 2 ^ 20)
    (D : BisD n ns.length r lo hi) (hc : ∀ (i : Nat) a, ns[i]? = some a → (codeN a.num < x ↔ (i : Int) < n))
    (hhv : hv = .int hi th ∨ (hv = .none ∧ hi = ns.length))
    (hb : ∀ fd o, (hd.heap_39 w.params).lookup 50 = some o → o.data = .func fd → BindsTo s fd ⟨pos, kw⟩ [("a", .ref l), ("x", .int x t), ("lo", .int lo tl), ("hi", hv), ("key", .ref 85)])
    (X : (hd.heap_39 w.params).In s.heap) (T : Top p loose mean mg mb s.heap) (hroom : A.depth + 5 < recursionLimit) :
    Pure w A s (call (.ref 50) pos kw) (RInt r) := by
  intro Q E hret
  have hlo := D.h0
  have hhi := D.h1
  refine' enter (by assumption) (by assumption) ?zzk6 ?zzk7 ?zzk8 ?zzk9 ?zzkB ?_ ?zzc2 ?zzc3 ?zzc4 ?zzc5; (case zzk6 => k_is); (case zzk7 => k_is); (case zzk8 => omega); (case zzk9 => exact hb _ _ (by k_is) rfl); (case zzc5 => decide); (case zzkB => exact locs rfl); (case zzc2 => exact rfl); (case zzc3 => exact rfl); (case zzc4 => exact rfl)
  clear hb
  intro L' h' F' N'
  (try dsimp only)
  (try k_fold)
  k_steps
  unfold Stopped
  refine join_hi (hi := hi) (by assumption) (by assumption) ?_ ?_
  · intro Q9 hQ9
    refine wpAny_If ?_
    rcases hhv with hhv | ⟨hhv, hhl⟩ <;> subst hhv
    · k_steps
      exact hQ9 th _ _ (fr_same (by assumption) (by with_unfolding_all rfl)) (by assumption)
    · subst hhl
      k_steps
      exact hQ9 _ _ _ (by assumption) (by assumption)
  · clear F' N' hhv
    intro t9 h9 tk9 F9 N9
    (try dsimp only)
    k_steps
    all_goals refine hret _ _ _ ?_ (Fr.keep (by assumption))
    all_goals exact rint_end (BisD.over (by assumption) (by assumption))

theorem bl_pic {l : Addr} {its : List Value} {ns : List Th} {x : Str} {lo hi n r : Int} {t tl th : Tok} {hv : Value} {pos : List Value} {kw : List (Str × Value)}
    (hl : s.heap.IsList l its.toArray) (hns : Are ThV its ns) (hlen : ns.length < 2 ^ 20)
    (D : BisD n ns.length r lo hi) (hc : ∀ (i : Nat) a, ns[i]? = some a → ((picN a.num).cps.toList < x.cps.toList ↔ (i : Int) < n))
    (hhv : hv = .int hi th ∨ (hv = .none ∧ hi = ns.length))
    (hb : ∀ fd o, (hd.heap_39 w.params).lookup 50 = some o → o.data = .func fd → BindsTo s fd ⟨pos, kw⟩ [("a", .ref l), ("x", .str x t), ("lo", .int lo tl), ("hi", hv), ("key", .ref 71)])
    (X : (hd.heap_39 w.params).In s.heap) (T : Top p loose mean mg mb s.heap) (hroom : A.depth + 5 < recursionLimit) :
    Pure w A s (call (.ref 50) pos kw) (RInt r) := by
  intro Q E hret
  have hlo := D.h0
  have hhi := D.h1
  refine' enter (by assumption) (by assumption) ?zzk6 ?zzk7 ?zzk8 ?zzk9 ?zzkB ?_ ?zzc2 ?zzc3 ?zzc4 ?zzc5; (case zzk6 => k_is); (case zzk7 => k_is); (case zzk8 => omega); (case zzk9 => exact hb _ _ (by k_is) rfl); (case zzc5 => decide); (case zzkB => exact locs rfl); (case zzc2 => exact rfl); (case zzc3 => exact rfl); (case zzc4 => exact rfl)
  clear hb
  intro L' h' F' N'
  (try dsimp only)
  (try k_fold)
  k_steps
  unfold Stopped
  refine join_hi (hi := hi) (by assumption) (by assumption) ?_ ?_
  · intro Q9 hQ9
    refine wpAny_If ?_
    rcases hhv with hhv | ⟨hhv, hhl⟩ <;> subst hhv
    · k_steps
      exact hQ9 th _ _ (fr_same (by assumption) (by with_unfolding_all rfl)) (by assumption)
    · subst hhl
      k_steps
      exact hQ9 _ _ _ (by assumption) (by assumption)
  · clear F' N' hhv
    intro t9 h9 tk9 F9 N9
    (try dsimp only)
    k_steps
    all_goals refine hret _ _ _ ?_ (Fr.keep (by assumption))
    all_goals exact rint_end (BisD.over (by assumption) (by assumption))

theorem br_ints {l : Addr} {its : List Value} {ns : List Int} {x : Int} {lo hi n r : Int} {t tl th : Tok} {hv : Value} {pos : List Value} {kw : List (Str × Value)}
    (hl : s.heap.IsList l its.toArray) (hns : Are IntV its ns) (hlen : ns.length < 2 ^ 20)
    (D : BisD n ns.length r lo hi) (hc : ∀ (i : Nat) a, ns[i]? = some a → (x < a ↔ ¬ (i : Int) < n))
    (hhv : hv = .int hi th ∨ (hv = .none ∧ hi = ns.length))
    (hb : ∀ fd o, (hd.heap_39 w.params).lookup 32 = some o → o.data = .func fd → BindsTo s fd ⟨pos, kw⟩ [("a", .ref l), ("x", .int x t), ("lo", .int lo tl), ("hi", hv), ("key", .none)])
    (X : (hd.heap_39 w.params).In s.heap) (T : Top p loose mean mg mb s.heap) (hroom : A.depth + 5 < recursionLimit) :
    Pure w A s (call (.ref 32) pos kw) (RInt r) := by
  intro Q E hret
  have hlo := D.h0
  have hhi := D.h1
  refine' enter (by assumption) (by assumption) ?zzk6 ?zzk7 ?zzk8 ?zzk9 ?zzkB ?_ ?zzc2 ?zzc3 ?zzc4 ?zzc5; (case zzk6 => k_is); (case zzk7 => k_is); (case zzk8 => omega); (case zzk9 => exact hb _ _ (by k_is) rfl); (case zzc5 => decide); (case zzkB => exact locs rfl); (case zzc2 => exact rfl); (case zzc3 => exact rfl); (case zzc4 => exact rfl)
  clear hb
  intro L' h' F' N'
  (try dsimp only)
  (try k_fold)
  k_steps
  unfold Stopped
  refine join_hi (hi := hi) (by assumption) (by assumption) ?_ ?_
  · intro Q9 hQ9
    refine wpAny_If ?_
    rcases hhv with hhv | ⟨hhv, hhl⟩ <;> subst hhv
    · k_steps
      exact hQ9 th _ _ (fr_same (by assumption) (by with_unfolding_all rfl)) (by assumption)
    · subst hhl
      k_steps
      exact hQ9 _ _ _ (by assumption) (by assumption)
  · clear F' N' hhv
    intro t9 h9 tk9 F9 N9
    (try dsimp only)
    k_steps
    all_goals refine hret _ _ _ ?_ (Fr.keep (by assumption))
    all_goals exact rint_end (BisD.over (by assumption) (by assumption))

theorem br_strs {l : Addr} {its : List Value} {ns : List Str} {x : Str} {lo hi n r : Int} {t tl th : Tok} {hv : Value} {pos : List Value} {kw : List (Str × Value)}
    (hl : s.heap.IsList l its.toArray) (hns : Are StrV its ns) (hlen : ns.length < 2 ^ 20)
    (D : BisD n ns.length r lo hi) (hc : ∀ (i : Nat) a, ns[i]? = some a → (x.cps.toList < a.cps.toList ↔ ¬ (i : Int) < n))
    (hhv : hv = .int hi th ∨ (hv = .none ∧ hi = ns.length))
    (hb : ∀ fd o, (hd.heap_39 w.params).lookup 32 = some o → o.data = .func fd → BindsTo s fd ⟨pos, kw⟩ [("a", .ref l), ("x", .str x t), ("lo", .int lo tl), ("hi", hv), ("key", .none)])
    (X : (hd.heap_39 w.params).In s.heap) (T : Top p loose mean mg mb s.heap) (hroom : A.depth + 5 < recursionLimit) :
    Pure w A s (call (.ref 32) pos kw) (RInt r) := by
  intro Q E hret
  have hlo := D.h0
  have hhi := D.h1
  refine' enter (by assumption) (by assumption) ?zzk6 ?zzk7 ?zzk8 ?zzk9 ?zzkB ?_ ?zzc2 ?zzc3 ?zzc4 ?zzc5; (case zzk6 => k_is); (case zzk7 => k_is); (case zzk8 => omega); (case zzk9 => exact hb _ _ (by k_is) rfl); (case zzc5 => decide); (case zzkB => exact locs rfl); (case zzc2 => exact rfl); (case zzc3 => exact rfl); (case zzc4 => exact rfl)
  clear hb
  intro L' h' F' N'
  (try dsimp only)
  (try k_fold)
  k_steps
  unfold Stopped
  refine join_hi (hi := hi) (by assumption) (by assumption) ?_ ?_
  · intro Q9 hQ9
    refine wpAny_If ?_
    rcases hhv with hhv | ⟨hhv, hhl⟩ <;> subst hhv
    · k_steps
      exact hQ9 th _ _ (fr_same (by assumption) (by with_unfolding_all rfl)) (by assumption)
    · subst hhl
      k_steps
      exact hQ9 _ _ _ (by assumption) (by assumption)
  · clear F' N' hhv
    intro t9 h9 tk9 F9 N9
    (try dsimp only)
    k_steps
    all_goals refine hret _ _ _ ?_ (Fr.keep (by assumption))
    all_goals exact rint_end (BisD.over (by assumption) (by assumption))

theorem br_code {l : Addr} {its : List Value} {ns : List Th} {x : Int} {lo hi n r : Int} {t tl th : Tok} {hv : Value} {pos : List Value} {kw : List (Str × Value)}
    (hl : s.heap.IsList l its.toArray) (hns : Are ThV its ns) (hlen : ns.length < 2 ^ 20)
    (D : BisD n ns.length r lo hi) (hc : ∀ (i : Nat) a, ns[i]? = some a → (x < codeN a.num ↔ ¬ (i : Int) < n))
    (hhv : hv = .int hi th ∨ (hv = .none ∧ hi = ns.length))
    (hb : ∀ fd o, (hd.heap_39 w.params).lookup 32 = some o → o.data = .func fd → BindsTo s fd ⟨pos, kw⟩ [("a", .ref l), ("x", .int x t), ("lo", .int lo tl), ("hi", hv), ("key", .ref 85)])
    (X : (hd.heap_39 w.params).In s.heap) (T : Top p loose mean mg mb s.heap) (hroom : A.depth + 5 < recursionLimit) :
    Pure w A s (call (.ref 32) pos kw) (RInt r) := by
  intro Q E hret
  have hlo := D.h0
  have hhi := D.h1
  refine' enter (by assumption) (by assumption) ?zzk6 ?zzk7 ?zzk8 ?zzk9 ?zzkB ?_ ?zzc2 ?zzc3 ?zzc4 ?zzc5; (case zzk6 => k_is); (case zzk7 => k_is); (case zzk8 => omega); (case zzk9 => exact hb _ _ (by k_is) rfl); (case zzc5 => decide); (case zzkB => exact locs rfl); (case zzc2 => exact rfl); (case zzc3 => exact rfl); (case zzc4 => exact rfl)
  clear hb
  intro L' h' F' N'
  (try dsimp only)
  (try k_fold)
  k_steps
  unfold Stopped
  refine join_hi (hi := hi) (by assumption) (by assumption) ?_ ?_
  · intro Q9 hQ9
    refine wpAny_If ?_
    rcases hhv with hhv | ⟨hhv, hhl⟩ <;> subst hhv
    · k_steps
      exact hQ9 th _ _ (fr_same (by assumption) (by with_unfolding_all rfl)) (by assumption)
    · subst hhl
      k_steps
      exact hQ9 _ _ _ (by assumption) (by assumption)
  · clear F' N' hhv
    intro t9 h9 tk9 F9 N9
    (try dsimp only)
    k_steps
    all_goals refine hret _ _ _ ?_ (Fr.keep (by assumption))
    all_goals exact rint_end (BisD.over (by assumption) (by assumption))

theorem br_pic {l : Addr} {its : List Value} {ns : List Th} {x : Str} {lo hi n r : Int} {t tl th : Tok} {hv : Value} {pos : List Value} {kw : List (Str × Value)}
    (hl : s.heap.IsList l its.toArray) (hns : Are ThV its ns) (hlen : ns.length < 2 ^ 20)
    (D : BisD n ns.length r lo hi) (hc : ∀ (i : Nat) a, ns[i]? = some a → (x.cps.toList < (picN a.num).cps.toList ↔ ¬ (i : Int) < n))
    (hhv : hv = .int hi th ∨ (hv = .none ∧ hi = ns.length))
    (hb : ∀ fd o, (hd.heap_39 w.params).lookup 32 = some o → o.data = .func fd → BindsTo s fd ⟨pos, kw⟩ [("a", .ref l), ("x", .str x t), ("lo", .int lo tl), ("hi", hv), ("key", .ref 71)])
    (X : (hd.heap_39 w.params).In s.heap) (T : Top p loose mean mg mb s.heap) (hroom : A.depth + 5 < recursionLimit) :
    Pure w A s (call (.ref 32) pos kw) (RInt r) := by
  intro Q E hret
  have hlo := D.h0
  have hhi := D.h1
  refine' enter (by assumption) (by assumption) ?zzk6 ?zzk7 ?zzk8 ?zzk9 ?zzkB ?_ ?zzc2 ?zzc3 ?zzc4 ?zzc5; (case zzk6 => k_is); (case zzk7 => k_is); (case zzk8 => omega); (case zzk9 => exact hb _ _ (by k_is) rfl); (case zzc5 => decide); (case zzkB => exact locs rfl); (case zzc2 => exact rfl); (case zzc3 => exact rfl); (case zzc4 => exact rfl)
  clear hb
  intro L' h' F' N'
  (try dsimp only)
  (try k_fold)
  k_steps
  unfold Stopped
  refine join_hi (hi := hi) (by assumption) (by assumption) ?_ ?_
  · intro Q9 hQ9
    refine wpAny_If ?_
    rcases hhv with hhv | ⟨hhv, hhl⟩ <;> subst hhv
    · k_steps
      exact hQ9 th _ _ (fr_same (by assumption) (by with_unfolding_all rfl)) (by assumption)
    · subst hhl
      k_steps
      exact hQ9 _ _ _ (by assumption) (by assumption)
  · clear F' N' hhv
    intro t9 h9 tk9 F9 N9
    (try dsimp only)
    k_steps
    all_goals refine hret _ _ _ ?_ (Fr.keep (by assumption))
    all_goals exact rint_end (BisD.over (by assumption) (by assumption))
end
end
/-! Ins -/
section
theorem fill4 (w : World) (h : Heap) : (hd.heap_39 w.params).In h → PySem.Challenge.rw_pk0064_01.prog = PySem.Challenge.rw_pk0064_01.prog := by
  k_fill
  intro _; rfl
section
variable {w : World} {s : Shared} {a x lo hi k : Value}
theorem sh50_1 (X : (hd.heap_39 w.params).In s.heap) (fd : FuncData) (o : Obj) (ho : (hd.heap_39 w.params).lookup 50 = some o) (hf : o.data = .func fd) :
    BindsTo s fd ⟨[a, x], []⟩ [("a", a), ("x", x), ("lo", .int 0 229), ("hi", .none), ("key", .none)] := by
  have e := ho.symm.trans (show (hd.heap_39 w.params).lookup 50 = some _ by k_is)
  obtain rfl := Option.some.inj e
  cases hf
  exact kp_binds X (fun _ => rfl)
theorem sh50_4 (X : (hd.heap_39 w.params).In s.heap) (fd : FuncData) (o : Obj) (ho : (hd.heap_39 w.params).lookup 50 = some o) (hf : o.data = .func fd) :
    BindsTo s fd ⟨[a, x], [(Str.ofString "key", k)]⟩ [("a", a), ("x", x), ("lo", .int 0 229), ("hi", .none), ("key", k)] := by
  have e := ho.symm.trans (show (hd.heap_39 w.params).lookup 50 = some _ by k_is)
  obtain rfl := Option.some.inj e
  cases hf
  exact kp_binds X (fun _ => rfl)
theorem sh32_1 (X : (hd.heap_39 w.params).In s.heap) (fd : FuncData) (o : Obj) (ho : (hd.heap_39 w.params).lookup 32 = some o) (hf : o.data = .func fd) :
    BindsTo s fd ⟨[a, x], []⟩ [("a", a), ("x", x), ("lo", .int 0 202), ("hi", .none), ("key", .none)] := by
  have e := ho.symm.trans (show (hd.heap_39 w.params).lookup 32 = some _ by k_is)
  obtain rfl := Option.some.inj e
  cases hf
  exact kp_binds X (fun _ => rfl)
theorem sh32_4 (X : (hd.heap_39 w.params).In s.heap) (fd : FuncData) (o : Obj) (ho : (hd.heap_39 w.params).lookup 32 = some o) (hf : o.data = .func fd) :
    BindsTo s fd ⟨[a, x], [(Str.ofString "key", k)]⟩ [("a", a), ("x", x), ("lo", .int 0 202), ("hi", .none), ("key", k)] := by
  have e := ho.symm.trans (show (hd.heap_39 w.params).lookup 32 = some _ by k_is)
  obtain rfl := Option.some.inj e
  cases hf
  exact kp_binds X (fun _ => rfl)
theorem sh41_1 (X : (hd.heap_39 w.params).In s.heap) (fd : FuncData) (o : Obj) (ho : (hd.heap_39 w.params).lookup 41 = some o) (hf : o.data = .func fd) :
    BindsTo s fd ⟨[a, x], []⟩ [("a", a), ("x", x), ("lo", .int 0 216), ("hi", .none), ("key", .none)] := by
  have e := ho.symm.trans (show (hd.heap_39 w.params).lookup 41 = some _ by k_is)
  obtain rfl := Option.some.inj e
  cases hf
  exact kp_binds X (fun _ => rfl)
theorem sh41_4 (X : (hd.heap_39 w.params).In s.heap) (fd : FuncData) (o : Obj) (ho : (hd.heap_39 w.params).lookup 41 = some o) (hf : o.data = .func fd) :
    BindsTo s fd ⟨[a, x], [(Str.ofString "key", k)]⟩ [("a", a), ("x", x), ("lo", .int 0 216), ("hi", .none), ("key", k)] := by
  have e := ho.symm.trans (show (hd.heap_39 w.params).lookup 41 = some _ by k_is)
  obtain rfl := Option.some.inj e
  cases hf
  exact kp_binds X (fun _ => rfl)
theorem sh23_1 (X : (hd.heap_39 w.params).In s.heap) (fd : FuncData) (o : Obj) (ho : (hd.heap_39 w.params).lookup 23 = some o) (hf : o.data = .func fd) :
    BindsTo s fd ⟨[a, x], []⟩ [("a", a), ("x", x), ("lo", .int 0 189), ("hi", .none), ("key", .none)] := by
  have e := ho.symm.trans (show (hd.heap_39 w.params).lookup 23 = some _ by k_is)
  obtain rfl := Option.some.inj e
  cases hf
  exact kp_binds X (fun _ => rfl)
theorem sh23_4 (X : (hd.heap_39 w.params).In s.heap) (fd : FuncData) (o : Obj) (ho : (hd.heap_39 w.params).lookup 23 = some o) (hf : o.data = .func fd) :
    BindsTo s fd ⟨[a, x], [(Str.ofString "key", k)]⟩ [("a", a), ("x", x), ("lo", .int 0 189), ("hi", .none), ("key", k)] := by
  have e := ho.symm.trans (show (hd.heap_39 w.params).lookup 23 = some _ by k_is)
  obtain rfl := Option.some.inj e
  cases hf
  exact kp_binds X (fun _ => rfl)
theorem sh50_2 (X : (hd.heap_39 w.params).In s.heap) (fd : FuncData) (o : Obj) (ho : (hd.heap_39 w.params).lookup 50 = some o) (hf : o.data = .func fd) :
    BindsTo s fd ⟨[a, x, lo, hi], []⟩ [("a", a), ("x", x), ("lo", lo), ("hi", hi), ("key", .none)] := by
  have e := ho.symm.trans (show (hd.heap_39 w.params).lookup 50 = some _ by k_is)
  obtain rfl := Option.some.inj e
  cases hf
  exact kp_binds X (fun _ => rfl)
theorem sh50_3 (X : (hd.heap_39 w.params).In s.heap) (fd : FuncData) (o : Obj) (ho : (hd.heap_39 w.params).lookup 50 = some o) (hf : o.data = .func fd) :
    BindsTo s fd ⟨[a, x, lo, hi], [(Str.ofString "key", k)]⟩ [("a", a), ("x", x), ("lo", lo), ("hi", hi), ("key", k)] := by
  have e := ho.symm.trans (show (hd.heap_39 w.params).lookup 50 = some _ by k_is)
  obtain rfl := Option.some.inj e
  cases hf
  exact kp_binds X (fun _ => rfl)
theorem sh32_2 (X : (hd.heap_39 w.params).In s.heap) (fd : FuncData) (o : Obj) (ho : (hd.heap_39 w.params).lookup 32 = some o) (hf : o.data = .func fd) :
    BindsTo s fd ⟨[a, x, lo, hi], []⟩ [("a", a), ("x", x), ("lo", lo), ("hi", hi), ("key", .none)] := by
  have e := ho.symm.trans (show (hd.heap_39 w.params).lookup 32 = some _ by k_is)
  obtain rfl := Option.some.inj e
  cases hf
  exact kp_binds X (fun _ => rfl)
theorem sh32_3 (X : (hd.heap_39 w.params).In s.heap) (fd : FuncData) (o : Obj) (ho : (hd.heap_39 w.params).lookup 32 = some o) (hf : o.data = .func fd) :
    BindsTo s fd ⟨[a, x, lo, hi], [(Str.ofString "key", k)]⟩ [("a", a), ("x", x), ("lo", lo), ("hi", hi), ("key", k)] := by
  have e := ho.symm.trans (show (hd.heap_39 w.params).lookup 32 = some _ by k_is)
  obtain rfl := Option.some.inj e
  cases hf
  exact kp_binds X (fun _ => rfl)
theorem sh50_5 (X : (hd.heap_39 w.params).In s.heap) (fd : FuncData) (o : Obj) (ho : (hd.heap_39 w.params).lookup 50 = some o) (hf : o.data = .func fd) :
    BindsTo s fd ⟨[a, x, lo], []⟩ [("a", a), ("x", x), ("lo", lo), ("hi", .none), ("key", .none)] := by
  have e := ho.symm.trans (show (hd.heap_39 w.params).lookup 50 = some _ by k_is)
  obtain rfl := Option.some.inj e
  cases hf
  exact kp_binds X (fun _ => rfl)
theorem sh50_6 (X : (hd.heap_39 w.params).In s.heap) (fd : FuncData) (o : Obj) (ho : (hd.heap_39 w.params).lookup 50 = some o) (hf : o.data = .func fd) :
    BindsTo s fd ⟨[a, x, lo], [(Str.ofString "key", k)]⟩ [("a", a), ("x", x), ("lo", lo), ("hi", .none), ("key", k)] := by
  have e := ho.symm.trans (show (hd.heap_39 w.params).lookup 50 = some _ by k_is)
  obtain rfl := Option.some.inj e
  cases hf
  exact kp_binds X (fun _ => rfl)
end

def insAt {α : Type} (l : List α) (k : Nat) (y : α) : List α := l.take k ++ y :: l.drop k

/-- a call that turns one object alone and hands back None -/
def Mut1 (w : World) (A : Around) (s : Shared) (l : Addr) (t : Sem Value) (o' : Obj) : Prop :=
  ∀ (Q E : Value → Shared → Prop), (∀ h' tk', (∀ b o, b ≠ l → s.heap.get? b = some o → h'.get? b = some o) → h'.get? l = some o' → Q .none { s with heap := h', toks := tk' }) → wpAny (model PySem.Challenge.rw_pk0064_01.prog w) A t Q E s

section
variable {w : World} {A : Around} {s : Shared} {p : Program} {loose : List Str} {mean : ExcName → Option Value} {mg mb : Str → Option Value}
  {E : Value → Shared → Prop} {Q : Value → Shared → Prop} {h₀ : Heap} {L l : Addr} {m : Str → Option Value} {news news' : List (Addr × Obj)} {t : Sem Value} {o o' : Obj}

theorem Mut1.framed (P : Mut1 w A s l t o') (F : Fr h₀ L s.heap m) (N : News h₀ L s.heap news) (U : Upd l o o' news news')
    (h : ∀ h' tk', Fr h₀ L h' m → News h₀ L h' news' → Q .none { s with heap := h', toks := tk' }) :
    wpAny (model PySem.Challenge.rw_pk0064_01.prog w) A t Q E s := by
  obtain ⟨pre, post, rfl, rfl, a, c⟩ := U.split
  have z := N (l, o) (List.mem_append.mpr (.inr (.head _)))
  refine P Q E fun h' tk' k e => h h' tk' ?_ ?_
  · obtain ⟨oL, a1, a2, hoL, a3⟩ := F.ns
    exact ⟨⟨oL, a1, a2, k _ _ (fun e => z.2.1 e.symm) hoL, a3⟩, fun b x e => k _ _ (fun q => by rw [q, z.2.2] at e; cases e) (F.keep b x e), F.above⟩
  · intro q hq
    rcases List.mem_append.mp hq with hq | hq
    · have n := N q (List.mem_append.mpr (.inl hq)); exact ⟨k _ _ (a q hq) n.1, n.2⟩
    · rcases List.mem_cons.mp hq with rfl | hq
      · exact ⟨e, z.2⟩
      · have n := N q (List.mem_append.mpr (.inr (.tail _ hq))); exact ⟨k _ _ (c q hq) n.1, n.2⟩

theorem in_hide {K : Frag} (X : K.In h₀) (k : ∀ b o, h₀.get? b = some o → s.heap.get? b = some o) (hn : h₀.get? l = none) : K.In (hideAll s.heap [l]) :=
  fun a o e => hideAll_get _ (k _ _ (X a o e)) (fun q => by
    rcases List.mem_cons.mp q with q | q
    · rw [← q, X a o e] at hn; cases hn
    · cases q)
theorem top_hide (T : Top p loose mean mg mb h₀) (k : ∀ b o, h₀.get? b = some o → s.heap.get? b = some o) (hn : h₀.get? l = none) : Top p loose mean mg mb (hideAll s.heap [l]) :=
  T.keeps fun a o e => hideAll_get _ (k _ _ e) (fun q => by
    rcases List.mem_cons.mp q with q | q
    · rw [← q, e] at hn; cases hn
    · cases q)

theorem enterU {K : Frag} {name qual : Str} {params : Arguments} {body : List Stmt} {scope : Scope} {dV kV doc pm cdv ct oc : Value} {an od : Option Addr} {osl : Array (Option Value)} {f : Addr} {pos : List Value} {kw : List (Str × Value)} {binds : List (Str × Value)}
    (hl : s.heap.get? l = some o) (X : K.In (hideAll s.heap [l])) (T : Top p loose mean mg mb (hideAll s.heap [l]))
    (ho : K.lookup f = some ⟨oc, od, .func (fnOf name qual params body scope dV kV doc pm an cdv ct), osl⟩) (hcd : codeIn K cdv qual = true) (hroom : A.depth < recursionLimit)
    (hbind : BindsTo s (fnOf name qual params body scope dV kV doc pm an cdv ct) ⟨pos, kw⟩ binds) (hloc : ∀ y ∈ binds, scope.names.lookup y.1 = some .local)
    (h : ∀ g L' h₁, g = hideAll s.heap [l] → Fr g L' h₁ (fun y => binds.reverse.lookup y) → News g L' h₁ [(l, o)] → K.In g → Top p loose mean mg mb g →
      wpAny (model PySem.Challenge.rw_pk0064_01.prog w) (A.deeper (envOf qual scope L' f cdv)) (execs body (envOf qual scope L' f cdv))
        (fun fl s' => Q (match fl with | .ret v => v | _ => .none) s')
        (fun e s' => wpAny (model PySem.Challenge.rw_pk0064_01.prog w) (A.deeper (envOf qual scope L' f cdv)) (leaving (envOf qual scope L' f cdv) e) (fun _ s'' => E e s'') (fun e' s'' => E e' s'') s')
        { s with heap := h₁, toks := s.toks + binds.length })
    (hco : scope.isCoroutine = false) (hgen : scope.isGenerator = false) (hk : scope.kind = .function)
    (hcell : ∀ x ∈ scope.names, x.2 ≠ .cell) : wpAny (model PySem.Challenge.rw_pk0064_01.prog w) A (call (.ref f) pos kw) Q E s := by
  have up : ∀ b x, (hideAll s.heap [l]).get? b = some x → s.heap.get? b = some x := fun b x e => of_hideAll _ e
  refine wpAny_call (codeAny_call_def (fd := fnOf name qual params body scope dV kV doc pm an cdv ct) (body := body) (binds := binds) hroom (up _ _ (X _ _ ho)) rfl (T.nolimit.keeps up) ((codeRec_of X hcd).keeps up) rfl hbind hcell hloc (fun h₁ hns hk₁ => ?_) hco hgen hk)
  refine h _ s.heap.objs.size h₁ rfl ⟨hns, fun b x e => hk₁ b x (up b x e), Nat.le_of_eq (hideAll_size _ _)⟩ ?_ X T
  intro q hq
  rcases List.mem_cons.mp hq with rfl | hq
  · exact ⟨hk₁ _ _ hl, Nat.ne_of_lt (Heap.lt_size hl), hideAll_none _ (.head _)⟩
  · cases hq

theorem mut_end {g h' : Heap} {L' : Addr} {m' : Str → Option Value} (hg : g = hideAll s.heap [l]) (F : Fr g L' h' m') : ∀ b o, b ≠ l → s.heap.get? b = some o → h'.get? b = some o := fun b o n e =>
  F.keep b o (by rw [hg]; exact hideAll_get _ e (fun q => by
    rcases List.mem_cons.mp q with q | q
    · exact n q
    · cases q))
theorem my_insert {prog : Program} {its : List Value} {n : Nat} {x : Int} {u : Tok} {y : Value} (F : Fr h₀ L s.heap m) (N : News h₀ L s.heap [(l, PySem.W.listOf its.toArray n)]) (hx : 0 ≤ x ∧ x ≤ (its.length : Int)) (hz : its.length < 2 ^ 20)
    (h : ∀ h', Fr h₀ L h' m → News h₀ L h' [(l, PySem.W.listOf (insAt its x.toNat y).toArray (n + 1))] → Q .none { s with heap := h' }) :
    wpAny (model prog w) A (call (.builtin "list.insert") [.ref l, .int x u, y]) Q E s := by
  refine kl_insert (l := insAt its x.toNat y) (its := its.toArray) (n := n) F N ?_ ?_ (Upd.head fun _ h => nomatch h) (by simp [sizeLine]; omega) h
  · unfold Builtin.List.listFitsIndex; simp; omega
  · unfold kl_ins insAt
    simp only [if_neg (show ¬ x < 0 by omega)]
    rw [Nat.min_eq_left (by simp; omega)]
end

-- my own words, under keys of my own
theorem lnIns0 : True := by
  k_with_none
  k_with "my X" => (refine' Frag.In.keeps ?zzx (Fr.keep ?zzf); (case zzf => assumption); (case zzx => assumption))
  k_with "my T" => (refine' Top.keeps ?zzx (Fr.keep ?zzf); (case zzf => assumption); (case zzx => assumption))
  k_with "my room" => ((try simp only [depth_deeper, depth_in1]); omega)
  k_with "my th" => first | assumption | exact ThV.i _ _
  k_with "my after" => (intro t' h' tk' k' F' N'; (try clear k'); (try dsimp only); (try k_sweep))
  k_with "call ref" => (
      refine' Pure.framedI (code_spec ?zzv ?zzX ?zzT ?zzr) ?zzF ?zzN ?_; (case zzF => k_asm); (case zzN => k_asm); (case zzv => walk_at "my th"); (case zzX => walk_at "my X"); (case zzT => walk_at "my T"); (case zzr => walk_at "my room"); k_whole
      walk_at "my after")
  k_with "call ref" => (
      refine' Pure.framedS (unctrl_spec ?zzv ?zzX ?zzT ?zzr) ?zzF ?zzN ?_; (case zzF => k_asm); (case zzN => k_asm); (case zzv => walk_at "my th"); (case zzX => walk_at "my X"); (case zzT => walk_at "my T"); (case zzr => walk_at "my room"); k_whole
      walk_at "my after")
  k_with "call ref" => (
      refine' Pure.framedI (bl_ints (hv := Value.none) (th := 0) ?zzl ?zzns ?zzz ?zzD ?zzc ?zzh ?zzb ?zzX ?zzT ?zzr) ?zzF ?zzN ?_; (case zzF => k_asm); (case zzN => k_asm); (case zzl => exact News.isList (by assumption) (List.Mem.head _)); (case zzns => assumption); (case zzz => assumption); (case zzD => assumption); (case zzc => assumption); (case zzh => exact Or.inr ⟨rfl, rfl⟩); (case zzX => walk_at "my X"); (case zzT => walk_at "my T"); (case zzb => exact sh50_2 (by walk_at "my X")); (case zzr => walk_at "my room"); k_whole
      walk_at "my after")
  k_with "call ref" => (
      refine' Pure.framedI (bl_strs (hv := Value.none) (th := 0) ?zzl ?zzns ?zzz ?zzD ?zzc ?zzh ?zzb ?zzX ?zzT ?zzr) ?zzF ?zzN ?_; (case zzF => k_asm); (case zzN => k_asm); (case zzl => exact News.isList (by assumption) (List.Mem.head _)); (case zzns => assumption); (case zzz => assumption); (case zzD => assumption); (case zzc => assumption); (case zzh => exact Or.inr ⟨rfl, rfl⟩); (case zzX => walk_at "my X"); (case zzT => walk_at "my T"); (case zzb => exact sh50_2 (by walk_at "my X")); (case zzr => walk_at "my room"); k_whole
      walk_at "my after")
  k_with "call ref" => (
      refine' Pure.framedI (bl_code (hv := Value.none) (th := 0) ?zzl ?zzns ?zzz ?zzD ?zzc ?zzh ?zzb ?zzX ?zzT ?zzr) ?zzF ?zzN ?_; (case zzF => k_asm); (case zzN => k_asm); (case zzl => exact News.isList (by assumption) (List.Mem.head _)); (case zzns => assumption); (case zzz => assumption); (case zzD => assumption); (case zzc => assumption); (case zzh => exact Or.inr ⟨rfl, rfl⟩); (case zzX => walk_at "my X"); (case zzT => walk_at "my T"); (case zzb => exact sh50_3 (by walk_at "my X")); (case zzr => walk_at "my room"); k_whole
      walk_at "my after")
  k_with "call ref" => (
      refine' Pure.framedI (bl_pic (hv := Value.none) (th := 0) ?zzl ?zzns ?zzz ?zzD ?zzc ?zzh ?zzb ?zzX ?zzT ?zzr) ?zzF ?zzN ?_; (case zzF => k_asm); (case zzN => k_asm); (case zzl => exact News.isList (by assumption) (List.Mem.head _)); (case zzns => assumption); (case zzz => assumption); (case zzD => assumption); (case zzc => assumption); (case zzh => exact Or.inr ⟨rfl, rfl⟩); (case zzX => walk_at "my X"); (case zzT => walk_at "my T"); (case zzb => exact sh50_3 (by walk_at "my X")); (case zzr => walk_at "my room"); k_whole
      walk_at "my after")
  k_with "call ref" => (
      refine' Pure.framedI (br_ints (hv := Value.none) (th := 0) ?zzl ?zzns ?zzz ?zzD ?zzc ?zzh ?zzb ?zzX ?zzT ?zzr) ?zzF ?zzN ?_; (case zzF => k_asm); (case zzN => k_asm); (case zzl => exact News.isList (by assumption) (List.Mem.head _)); (case zzns => assumption); (case zzz => assumption); (case zzD => assumption); (case zzc => assumption); (case zzh => exact Or.inr ⟨rfl, rfl⟩); (case zzX => walk_at "my X"); (case zzT => walk_at "my T"); (case zzb => exact sh32_2 (by walk_at "my X")); (case zzr => walk_at "my room"); k_whole
      walk_at "my after")
  k_with "call ref" => (
      refine' Pure.framedI (br_strs (hv := Value.none) (th := 0) ?zzl ?zzns ?zzz ?zzD ?zzc ?zzh ?zzb ?zzX ?zzT ?zzr) ?zzF ?zzN ?_; (case zzF => k_asm); (case zzN => k_asm); (case zzl => exact News.isList (by assumption) (List.Mem.head _)); (case zzns => assumption); (case zzz => assumption); (case zzD => assumption); (case zzc => assumption); (case zzh => exact Or.inr ⟨rfl, rfl⟩); (case zzX => walk_at "my X"); (case zzT => walk_at "my T"); (case zzb => exact sh32_2 (by walk_at "my X")); (case zzr => walk_at "my room"); k_whole
      walk_at "my after")
  k_with "call ref" => (
      refine' Pure.framedI (br_code (hv := Value.none) (th := 0) ?zzl ?zzns ?zzz ?zzD ?zzc ?zzh ?zzb ?zzX ?zzT ?zzr) ?zzF ?zzN ?_; (case zzF => k_asm); (case zzN => k_asm); (case zzl => exact News.isList (by assumption) (List.Mem.head _)); (case zzns => assumption); (case zzz => assumption); (case zzD => assumption); (case zzc => assumption); (case zzh => exact Or.inr ⟨rfl, rfl⟩); (case zzX => walk_at "my X"); (case zzT => walk_at "my T"); (case zzb => exact sh32_3 (by walk_at "my X")); (case zzr => walk_at "my room"); k_whole
      walk_at "my after")
  k_with "call ref" => (
      refine' Pure.framedI (br_pic (hv := Value.none) (th := 0) ?zzl ?zzns ?zzz ?zzD ?zzc ?zzh ?zzb ?zzX ?zzT ?zzr) ?zzF ?zzN ?_; (case zzF => k_asm); (case zzN => k_asm); (case zzl => exact News.isList (by assumption) (List.Mem.head _)); (case zzns => assumption); (case zzz => assumption); (case zzD => assumption); (case zzc => assumption); (case zzh => exact Or.inr ⟨rfl, rfl⟩); (case zzX => walk_at "my X"); (case zzT => walk_at "my T"); (case zzb => exact sh32_3 (by walk_at "my X")); (case zzr => walk_at "my room"); k_whole
      walk_at "my after")
  k_with "call builtin:list.insert" => (
      (with_unfolding_all refine' my_insert ?zzF ?zzN ?zzx ?zzz ?_); (case zzF => assumption); (case zzN => assumption); (case zzx => omega); (case zzz => omega); k_whole; intro h' F' N'; (try k_sweep))
  exact trivial

section
variable {w : World} {A : Around} {s : Shared} {p : Program} {loose : List Str} {mean : ExcName → Option Value} {mg mb : Str → Option Value} {h₀ : Heap}
theorem insL_ints {l : Addr} {its : List Value} {ns : List Int} {x : Int} {t : Tok} {n : Int} {c : Nat}
    (hl : s.heap.get? l = some (PySem.W.listOf its.toArray c)) (hns : Are IntV its ns) (hlen : ns.length < 2 ^ 20) 
    (hn : 0 ≤ n ∧ n ≤ ns.length) (hc : ∀ (i : Nat) a, ns[i]? = some a → (a < x ↔ (i : Int) < n))
    (X : (hd.heap_39 w.params).In h₀) (T : Top p loose mean mg mb h₀) (k₀ : ∀ b o, h₀.get? b = some o → s.heap.get? b = some o) (h0l : h₀.get? l = none) (hroom : A.depth + 6 < recursionLimit) :
    Mut1 w A s l (call (.ref 41) [.ref l, .int x t] []) (PySem.W.listOf (insAt its n.toNat (.int x t)).toArray (c + 1)) := by
  intro Q E hret
  have D : BisD n ns.length n 0 ns.length := ⟨by omega, by omega, by omega⟩
  have hil := hns.length
  have XS : (hd.heap_39 w.params).In s.heap := X.keeps k₀
  have X' := in_hide (K := hd.heap_39 w.params) X k₀ h0l
  have T' := top_hide T k₀ h0l
  refine' enterU hl X' T' ?zzk6 ?zzk7 ?zzk8 ?zzk9 ?zzkB ?_ ?zzc2 ?zzc3 ?zzc4 ?zzc5; (case zzk6 => k_is); (case zzk7 => k_is); (case zzk8 => omega); (case zzk9 => exact sh41_1 XS _ _ (by k_is) rfl); (case zzc5 => decide); (case zzkB => exact locs rfl); (case zzc2 => exact rfl); (case zzc3 => exact rfl); (case zzc4 => exact rfl)
  clear X T k₀ h0l XS X' T'
  intro g L' h' hg F' N' X T
  (try dsimp only)
  (try k_fold)
  k_steps
  refine hret _ _ (mut_end hg (by assumption)) (News.get (by assumption) (List.Mem.head _))
theorem insL_strs {l : Addr} {its : List Value} {ns : List Str} {x : Str} {t : Tok} {n : Int} {c : Nat}
    (hl : s.heap.get? l = some (PySem.W.listOf its.toArray c)) (hns : Are StrV its ns) (hlen : ns.length < 2 ^ 20) 
    (hn : 0 ≤ n ∧ n ≤ ns.length) (hc : ∀ (i : Nat) a, ns[i]? = some a → (a.cps.toList < x.cps.toList ↔ (i : Int) < n))
    (X : (hd.heap_39 w.params).In h₀) (T : Top p loose mean mg mb h₀) (k₀ : ∀ b o, h₀.get? b = some o → s.heap.get? b = some o) (h0l : h₀.get? l = none) (hroom : A.depth + 6 < recursionLimit) :
    Mut1 w A s l (call (.ref 41) [.ref l, .str x t] []) (PySem.W.listOf (insAt its n.toNat (.str x t)).toArray (c + 1)) := by
  intro Q E hret
  have D : BisD n ns.length n 0 ns.length := ⟨by omega, by omega, by omega⟩
  have hil := hns.length
  have XS : (hd.heap_39 w.params).In s.heap := X.keeps k₀
  have X' := in_hide (K := hd.heap_39 w.params) X k₀ h0l
  have T' := top_hide T k₀ h0l
  refine' enterU hl X' T' ?zzk6 ?zzk7 ?zzk8 ?zzk9 ?zzkB ?_ ?zzc2 ?zzc3 ?zzc4 ?zzc5; (case zzk6 => k_is); (case zzk7 => k_is); (case zzk8 => omega); (case zzk9 => exact sh41_1 XS _ _ (by k_is) rfl); (case zzc5 => decide); (case zzkB => exact locs rfl); (case zzc2 => exact rfl); (case zzc3 => exact rfl); (case zzc4 => exact rfl)
  clear X T k₀ h0l XS X' T'
  intro g L' h' hg F' N' X T
  (try dsimp only)
  (try k_fold)
  k_steps
  refine hret _ _ (mut_end hg (by assumption)) (News.get (by assumption) (List.Mem.head _))
theorem insL_code {l : Addr} {its : List Value} {ns : List Th} {x : Th} {v : Value} {n : Int} {c : Nat}
    (hl : s.heap.get? l = some (PySem.W.listOf its.toArray c)) (hns : Are ThV its ns) (hlen : ns.length < 2 ^ 20) (hv : ThV v x) 
    (hn : 0 ≤ n ∧ n ≤ ns.length) (hc : ∀ (i : Nat) a, ns[i]? = some a → (codeN a.num < codeN x.num ↔ (i : Int) < n))
    (X : (hd.heap_39 w.params).In h₀) (T : Top p loose mean mg mb h₀) (k₀ : ∀ b o, h₀.get? b = some o → s.heap.get? b = some o) (h0l : h₀.get? l = none) (hroom : A.depth + 6 < recursionLimit) :
    Mut1 w A s l (call (.ref 41) [.ref l, v] [(Str.ofString "key", .ref 85)]) (PySem.W.listOf (insAt its n.toNat (v)).toArray (c + 1)) := by
  intro Q E hret
  have D : BisD n ns.length n 0 ns.length := ⟨by omega, by omega, by omega⟩
  have hil := hns.length
  have XS : (hd.heap_39 w.params).In s.heap := X.keeps k₀
  have X' := in_hide (K := hd.heap_39 w.params) X k₀ h0l
  have T' := top_hide T k₀ h0l
  refine' enterU hl X' T' ?zzk6 ?zzk7 ?zzk8 ?zzk9 ?zzkB ?_ ?zzc2 ?zzc3 ?zzc4 ?zzc5; (case zzk6 => k_is); (case zzk7 => k_is); (case zzk8 => omega); (case zzk9 => exact sh41_4 XS _ _ (by k_is) rfl); (case zzc5 => decide); (case zzkB => exact locs rfl); (case zzc2 => exact rfl); (case zzc3 => exact rfl); (case zzc4 => exact rfl)
  clear X T k₀ h0l XS X' T'
  intro g L' h' hg F' N' X T
  (try dsimp only)
  (try k_fold)
  k_steps
  refine hret _ _ (mut_end hg (by assumption)) (News.get (by assumption) (List.Mem.head _))
theorem insL_pic {l : Addr} {its : List Value} {ns : List Th} {x : Th} {v : Value} {n : Int} {c : Nat}
    (hl : s.heap.get? l = some (PySem.W.listOf its.toArray c)) (hns : Are ThV its ns) (hlen : ns.length < 2 ^ 20) (hv : ThV v x) 
    (hn : 0 ≤ n ∧ n ≤ ns.length) (hc : ∀ (i : Nat) a, ns[i]? = some a → ((picN a.num).cps.toList < (picN x.num).cps.toList ↔ (i : Int) < n))
    (X : (hd.heap_39 w.params).In h₀) (T : Top p loose mean mg mb h₀) (k₀ : ∀ b o, h₀.get? b = some o → s.heap.get? b = some o) (h0l : h₀.get? l = none) (hroom : A.depth + 6 < recursionLimit) :
    Mut1 w A s l (call (.ref 41) [.ref l, v] [(Str.ofString "key", .ref 71)]) (PySem.W.listOf (insAt its n.toNat (v)).toArray (c + 1)) := by
  intro Q E hret
  have D : BisD n ns.length n 0 ns.length := ⟨by omega, by omega, by omega⟩
  have hil := hns.length
  have XS : (hd.heap_39 w.params).In s.heap := X.keeps k₀
  have X' := in_hide (K := hd.heap_39 w.params) X k₀ h0l
  have T' := top_hide T k₀ h0l
  refine' enterU hl X' T' ?zzk6 ?zzk7 ?zzk8 ?zzk9 ?zzkB ?_ ?zzc2 ?zzc3 ?zzc4 ?zzc5; (case zzk6 => k_is); (case zzk7 => k_is); (case zzk8 => omega); (case zzk9 => exact sh41_4 XS _ _ (by k_is) rfl); (case zzc5 => decide); (case zzkB => exact locs rfl); (case zzc2 => exact rfl); (case zzc3 => exact rfl); (case zzc4 => exact rfl)
  clear X T k₀ h0l XS X' T'
  intro g L' h' hg F' N' X T
  (try dsimp only)
  (try k_fold)
  k_steps
  refine hret _ _ (mut_end hg (by assumption)) (News.get (by assumption) (List.Mem.head _))
theorem insR_ints {l : Addr} {its : List Value} {ns : List Int} {x : Int} {t : Tok} {n : Int} {c : Nat}
    (hl : s.heap.get? l = some (PySem.W.listOf its.toArray c)) (hns : Are IntV its ns) (hlen : ns.length < 2 ^ 20) 
    (hn : 0 ≤ n ∧ n ≤ ns.length) (hc : ∀ (i : Nat) a, ns[i]? = some a → (x < a ↔ ¬ (i : Int) < n))
    (X : (hd.heap_39 w.params).In h₀) (T : Top p loose mean mg mb h₀) (k₀ : ∀ b o, h₀.get? b = some o → s.heap.get? b = some o) (h0l : h₀.get? l = none) (hroom : A.depth + 6 < recursionLimit) :
    Mut1 w A s l (call (.ref 23) [.ref l, .int x t] []) (PySem.W.listOf (insAt its n.toNat (.int x t)).toArray (c + 1)) := by
  intro Q E hret
  have D : BisD n ns.length n 0 ns.length := ⟨by omega, by omega, by omega⟩
  have hil := hns.length
  have XS : (hd.heap_39 w.params).In s.heap := X.keeps k₀
  have X' := in_hide (K := hd.heap_39 w.params) X k₀ h0l
  have T' := top_hide T k₀ h0l
  refine' enterU hl X' T' ?zzk6 ?zzk7 ?zzk8 ?zzk9 ?zzkB ?_ ?zzc2 ?zzc3 ?zzc4 ?zzc5; (case zzk6 => k_is); (case zzk7 => k_is); (case zzk8 => omega); (case zzk9 => exact sh23_1 XS _ _ (by k_is) rfl); (case zzc5 => decide); (case zzkB => exact locs rfl); (case zzc2 => exact rfl); (case zzc3 => exact rfl); (case zzc4 => exact rfl)
  clear X T k₀ h0l XS X' T'
  intro g L' h' hg F' N' X T
  (try dsimp only)
  (try k_fold)
  k_steps
  refine hret _ _ (mut_end hg (by assumption)) (News.get (by assumption) (List.Mem.head _))
theorem insR_strs {l : Addr} {its : List Value} {ns : List Str} {x : Str} {t : Tok} {n : Int} {c : Nat}
    (hl : s.heap.get? l = some (PySem.W.listOf its.toArray c)) (hns : Are StrV its ns) (hlen : ns.length < 2 ^ 20) 
    (hn : 0 ≤ n ∧ n ≤ ns.length) (hc : ∀ (i : Nat) a, ns[i]? = some a → (x.cps.toList < a.cps.toList ↔ ¬ (i : Int) < n))
    (X : (hd.heap_39 w.params).In h₀) (T : Top p loose mean mg mb h₀) (k₀ : ∀ b o, h₀.get? b = some o → s.heap.get? b = some o) (h0l : h₀.get? l = none) (hroom : A.depth + 6 < recursionLimit) :
    Mut1 w A s l (call (.ref 23) [.ref l, .str x t] []) (PySem.W.listOf (insAt its n.toNat (.str x t)).toArray (c + 1)) := by
  intro Q E hret
  have D : BisD n ns.length n 0 ns.length := ⟨by omega, by omega, by omega⟩
  have hil := hns.length
  have XS : (hd.heap_39 w.params).In s.heap := X.keeps k₀
  have X' := in_hide (K := hd.heap_39 w.params) X k₀ h0l
  have T' := top_hide T k₀ h0l
  refine' enterU hl X' T' ?zzk6 ?zzk7 ?zzk8 ?zzk9 ?zzkB ?_ ?zzc2 ?zzc3 ?zzc4 ?zzc5; (case zzk6 => k_is); (case zzk7 => k_is); (case zzk8 => omega); (case zzk9 => exact sh23_1 XS _ _ (by k_is) rfl); (case zzc5 => decide); (case zzkB => exact locs rfl); (case zzc2 => exact rfl); (case zzc3 => exact rfl); (case zzc4 => exact rfl)
  clear X T k₀ h0l XS X' T'
  intro g L' h' hg F' N' X T
  (try dsimp only)
  (try k_fold)
  k_steps
  refine hret _ _ (mut_end hg (by assumption)) (News.get (by assumption) (List.Mem.head _))
theorem insR_code {l : Addr} {its : List Value} {ns : List Th} {x : Th} {v : Value} {n : Int} {c : Nat}
    (hl : s.heap.get? l = some (PySem.W.listOf its.toArray c)) (hns : Are ThV its ns) (hlen : ns.length < 2 ^ 20) (hv : ThV v x) 
    (hn : 0 ≤ n ∧ n ≤ ns.length) (hc : ∀ (i : Nat) a, ns[i]? = some a → (codeN x.num < codeN a.num ↔ ¬ (i : Int) < n))
    (X : (hd.heap_39 w.params).In h₀) (T : Top p loose mean mg mb h₀) (k₀ : ∀ b o, h₀.get? b = some o → s.heap.get? b = some o) (h0l : h₀.get? l = none) (hroom : A.depth + 6 < recursionLimit) :
    Mut1 w A s l (call (.ref 23) [.ref l, v] [(Str.ofString "key", .ref 85)]) (PySem.W.listOf (insAt its n.toNat (v)).toArray (c + 1)) := by
  intro Q E hret
  have D : BisD n ns.length n 0 ns.length := ⟨by omega, by omega, by omega⟩
  have hil := hns.length
  have XS : (hd.heap_39 w.params).In s.heap := X.keeps k₀
  have X' := in_hide (K := hd.heap_39 w.params) X k₀ h0l
  have T' := top_hide T k₀ h0l
  refine' enterU hl X' T' ?zzk6 ?zzk7 ?zzk8 ?zzk9 ?zzkB ?_ ?zzc2 ?zzc3 ?zzc4 ?zzc5; (case zzk6 => k_is); (case zzk7 => k_is); (case zzk8 => omega); (case zzk9 => exact sh23_4 XS _ _ (by k_is) rfl); (case zzc5 => decide); (case zzkB => exact locs rfl); (case zzc2 => exact rfl); (case zzc3 => exact rfl); (case zzc4 => exact rfl)
  clear X T k₀ h0l XS X' T'
  intro g L' h' hg F' N' X T
  (try dsimp only)
  (try k_fold)
  k_steps
  refine hret _ _ (mut_end hg (by assumption)) (News.get (by assumption) (List.Mem.head _))
theorem insR_pic {l : Addr} {its : List Value} {ns : List Th} {x : Th} {v : Value} {n : Int} {c : Nat}
    (hl : s.heap.get? l = some (PySem.W.listOf its.toArray c)) (hns : Are ThV its ns) (hlen : ns.length < 2 ^ 20) (hv : ThV v x) 
    (hn : 0 ≤ n ∧ n ≤ ns.length) (hc : ∀ (i : Nat) a, ns[i]? = some a → ((picN x.num).cps.toList < (picN a.num).cps.toList ↔ ¬ (i : Int) < n))
    (X : (hd.heap_39 w.params).In h₀) (T : Top p loose mean mg mb h₀) (k₀ : ∀ b o, h₀.get? b = some o → s.heap.get? b = some o) (h0l : h₀.get? l = none) (hroom : A.depth + 6 < recursionLimit) :
    Mut1 w A s l (call (.ref 23) [.ref l, v] [(Str.ofString "key", .ref 71)]) (PySem.W.listOf (insAt its n.toNat (v)).toArray (c + 1)) := by
  intro Q E hret
  have D : BisD n ns.length n 0 ns.length := ⟨by omega, by omega, by omega⟩
  have hil := hns.length
  have XS : (hd.heap_39 w.params).In s.heap := X.keeps k₀
  have X' := in_hide (K := hd.heap_39 w.params) X k₀ h0l
  have T' := top_hide T k₀ h0l
  refine' enterU hl X' T' ?zzk6 ?zzk7 ?zzk8 ?zzk9 ?zzkB ?_ ?zzc2 ?zzc3 ?zzc4 ?zzc5; (case zzk6 => k_is); (case zzk7 => k_is); (case zzk8 => omega); (case zzk9 => exact sh23_4 XS _ _ (by k_is) rfl); (case zzc5 => decide); (case zzkB => exact locs rfl); (case zzc2 => exact rfl); (case zzc3 => exact rfl); (case zzc4 => exact rfl)
  clear X T k₀ h0l XS X' T'
  intro g L' h' hg F' N' X T
  (try dsimp only)
  (try k_fold)
  k_steps
  refine hret _ _ (mut_end hg (by assumption)) (News.get (by assumption) (List.Mem.head _))
end
end
/-! Comp -/
section
theorem lookup_relabel_cell {env : Env} : ∀ {names : List (Str × NameKind)} {x : Str}, names.lookup x = some .cell →
    (names.map fun (n, k) => if (k == NameKind.free && env.scope.kind == .function && env.kindOf n == some .cell) then (n, NameKind.cell) else (n, k)).lookup x = some .cell
  | [], _, h => by cases h
  | (n, k) :: r, x, h => by
    rw [List.map_cons]
    rw [List.lookup_cons] at h
    cases hb : x == n with
    | true =>
      rw [hb] at h; cases h
      dsimp only
      rw [show (NameKind.cell == NameKind.free) = false from rfl, Bool.false_and, Bool.false_and]
      simp only [Bool.false_eq_true, if_false]
      rw [List.lookup_cons, hb]
    | false =>
      rw [hb] at h
      have ih := lookup_relabel_cell (env := env) h
      dsimp only
      split
      · rw [List.lookup_cons, hb]; exact ih
      · rw [List.lookup_cons, hb]; exact ih

section
variable {prog : Program} {w : World} {A : Around} {E : Value → Shared → Prop} {env : Env}

theorem newEnv_cell {s : Shared} {scope : Scope} {cl : List (Str × Addr)} {x : Str} {qual : Str} {Q : Env → Shared → Prop}
    (hcells : ∀ k acc, cellsFrom k scope.names acc = (x, k) :: acc) (hpush : ∀ h : Heap, pushCells h scope.names = h.push { cls := .type "cell", data := .cell none })
    (h : ∀ h', h'.IsCell (s.heap.objs.size + 1) none → h'.Ns s.heap.objs.size (fun _ => none) → (∀ b o, s.heap.get? b = some o → h'.get? b = some o) →
      Q (newEnv scope s.heap.objs.size env.globals ((x, s.heap.objs.size + 1) :: cl) qual none .none (some env) builtinsNs) { s with heap := h' }) :
    wpAny (model prog w) A (newFunctionEnv scope env.globals cl [] qual none .none (some env)) Q E s := by
  simp only [newFunctionEnv, Option.isSome_some, if_true]
  refine wpAny_bind (wpAny_alloc ?_)
  refine wpAny_bind (wpAny_layCells _ (fun name kind cells => by cases hkc : kind == NameKind.cell <;> simp [hkc]) _ _ _ _ ?_)
  rw [hcells, hpush]
  dsimp only
  simp only [Heap.size_push]
  refine wpAny_bind ?_
  rw [List.forIn_nil]
  refine wpAny_pure (wpAny_pure ?_)
  refine h _ ⟨{ cls := .type "cell", data := .cell none }, ?_, rfl⟩ ?_ ?_
  · have e := Heap.get?_push_size (s.heap.push { cls := .type "dict", data := .dict #[] }) (o := { cls := .type "cell", data := .cell none }) rfl
    rw [Heap.size_push] at e
    exact e
  · exact (Heap.Ns.new s.heap (.type "dict")).keeps fun b o e => Heap.get?_push_of_some _ e
  · intro b o e
    exact Heap.get?_push_of_some _ (Heap.get?_push_of_some _ e)

theorem cellLoop {s : Shared} {elt iter : PySem.Expr} {x : Str} {px : Pos} {ifs : List PySem.Expr} {scope : Scope} {pos : Pos} {I D c : Addr} {fp wr : List Addr} {n : Nat} {P : Nat → Value → Prop} {St : Nat → Heap → Prop} {R : Result → Shared → Prop}
    {cenv : Env} {m : Str → Option Value} (W : Walks prog w A I fp wr n P St) (p : Value → Bool) (F : Value → Value → Prop)
    (hx : cenv.kindOf x = some .cell) (hk : cenv.scope.kind = .function) (hc : cenv.cells.lookup x = some c)
    (hDC : D ≠ cenv.locals) (hDc : D ≠ c) (hCc : cenv.locals ≠ c) (hDf : D ∉ fp) (hCf : cenv.locals ∉ fp) (hcf : c ∉ fp)
    (hst : St 0 s.heap) (hacc : s.heap.PlainList D #[]) (hn : s.heap.Ns cenv.locals m) (hv : s.heap.IsCell c none)
    (htests : ∀ i v s₂, P i v → s₂.heap.Ns cenv.locals m → s₂.heap.IsCell c (some v) → (∀ b o, b ≠ c → b ∉ wr → b ≠ D → s.heap.get? b = some o → s₂.heap.get? b = some o) →
      wpAny (model prog w) A (forIn ifs true fun c r => if r = true then do let ok ← isTrue c cenv (eval c cenv); pure (ForInStep.yield ok) else pure (ForInStep.yield r))
        (fun ok s₃ => ok = p v ∧ Keeps s₂ s₃) (notedBy (model prog w) A cenv fun e s' => R (.error e) s') s₂)
    (helt : ∀ i v s₂, P i v → p v = true → s₂.heap.Ns cenv.locals m → s₂.heap.IsCell c (some v) → (∀ b o, b ≠ c → b ∉ wr → b ≠ D → s.heap.get? b = some o → s₂.heap.get? b = some o) →
      wpAny (model prog w) A (eval elt cenv) (fun y s₃ => F v y ∧ Keeps s₂ s₃) (notedBy (model prog w) A cenv fun e s' => R (.error e) s') s₂)
    (hR : ∀ h' tk ys (vs : List Value), h'.Ns cenv.locals m → h'.PlainList D ys → vs.length = n → (∀ j v, vs[j]? = some v → P j v) → Paired F (vs.filter p) ys.toList →
      (∀ b o, b ≠ c → b ∉ wr → b ≠ D → s.heap.get? b = some o → h'.get? b = some o) → R (.ok .next) { s with heap := h', toks := tk })
    (hsz : n ≤ sizeLine) :
    codeAny (model prog w) A (.compLoop (.ListComp elt [⟨.Name x px, iter, ifs, 0⟩] scope pos) 0 (.ref I) (.ref D) cenv) R s := by
  have hCw : cenv.locals ∉ wr := fun h => hCf (W.sub _ h)
  have hDw : D ∉ wr := fun h => hDf (W.sub _ h)
  have hcw : c ∉ wr := fun h => hcf (W.sub _ h)
  refine codeAny_compLoop_tests
    (fun k s' => ∃ h' tk ys, ∃ vs : List Value, s' = { s with heap := h', toks := tk } ∧ St vs.length h' ∧ h'.PlainList D ys ∧ h'.Ns cenv.locals m ∧ (∃ u, h'.IsCell c u) ∧ (∀ j v, vs[j]? = some v → P j v) ∧
      Paired F (vs.filter p) ys.toList ∧ vs.length ≤ n ∧ k = n + 1 - vs.length ∧
      (∀ b o, b ≠ c → b ∉ wr → b ≠ D → s.heap.get? b = some o → h'.get? b = some o)) ?_ (n + 1)
    ⟨s.heap, s.toks, #[], [], rfl, hst, hacc, hn, ⟨_, hv⟩, by simp, by simpa using Paired.nil, Nat.zero_le _, rfl, fun _ _ _ _ _ e => e⟩
  rintro k s' ⟨H, tk, ys, vs, rfl, hst', hacc', hn', ⟨u, hu⟩, hP, hF, hi, rfl, hkp⟩
  by_cases hlt : vs.length < n
  · refine W.item vs.length _ _ _ hlt hst' fun v h₁ tk₁ hPv hst₁ hk₁ => ?_
    obtain ⟨oc, hoc, hoc'⟩ := hu
    refine wpAny_assign_Name (wpAny_storeName_cell hk hx hc ⟨oc, hk₁ _ _ hcw hoc, hoc'⟩ fun h₂ hv₂ hs₂ => ?_)
    have up₂ : ∀ b o, b ≠ c → b ∉ wr → H.get? b = some o → h₂.get? b = some o := fun b o hbc hbf e => hs₂.extBut b o hbc (hk₁ b o hbf e)
    have hst₂ : St (vs.length + 1) h₂ := W.frame _ _ _ hst₁ fun b hb o e => hs₂.extBut b o (fun h => hcf (h ▸ hb)) e
    have hn₂ : h₂.Ns cenv.locals m := hn'.at' fun o e => up₂ _ o hCc hCw e
    refine wpAny_mono (htests vs.length v _ hPv hn₂ hv₂ (fun b o hbc hbf hbD e => up₂ b o hbc hbf (hkp b o hbc hbf hbD e))) (fun ok s₃ h₃ => ?_) fun _ _ e => e
    obtain ⟨rfl, h₃, tk₃, rfl, hk₃⟩ := h₃
    have hst₃ : St (vs.length + 1) h₃ := W.frame _ _ _ hst₂ fun b _ o e => hk₃ b o e
    have hacc₃ : h₃.PlainList D ys := hacc'.at fun o e => hk₃ _ o (up₂ D o hDc hDw e)
    have hn₃ := hn₂.keeps hk₃
    have hv₃ := hv₂.keeps hk₃
    have hP' : ∀ j u, (vs ++ [v])[j]? = some u → P j u := fun j u hj => by
      rcases Nat.lt_trichotomy j vs.length with h | h | h
      · exact hP j u (by rwa [List.getElem?_append_left h] at hj)
      · subst h; simp at hj; subst hj; exact hPv
      · have hnone : (vs ++ [v])[j]? = none := List.getElem?_eq_none (by rw [List.length_append, List.length_singleton]; omega)
        rw [hnone] at hj; cases hj
    cases hpv : p v with
    | false =>
      simp only [Bool.false_eq_true, if_false]
      refine ⟨n + 1 - (vs.length + 1), by omega, h₃, tk₃, ys, vs ++ [v], rfl, by simpa using hst₃, hacc₃, hn₃, ⟨_, hv₃⟩, hP', ?_, (by rw [List.length_append, List.length_singleton]; exact hlt), (by rw [List.length_append, List.length_singleton]), fun b o hbC hbf hbD e => hk₃ b o (up₂ b o hbC hbf (hkp b o hbC hbf hbD e))⟩
      rw [List.filter_append]; simpa [hpv] using hF
    | true =>
      simp only [if_true]
      refine wpAny_mono (helt vs.length v _ hPv hpv hn₃ hv₃ (fun b o hbC hbf hbD e => hk₃ b o (up₂ b o hbC hbf (hkp b o hbC hbf hbD e)))) (fun y s₄ h₄ => ?_) fun _ _ e => e
      obtain ⟨hFy, h₄, tk₄, rfl, hk₄⟩ := h₄
      have hys : ys.size ≤ sizeLine := by
        have e1 := hF.length
        have e2 : (vs.filter p).length ≤ vs.length := List.length_filter_le _ _
        have e4 : ys.toList.length = ys.size := by simp
        omega
      refine wpAny_list_append_plain (hsz := hys) (hacc₃.at fun o e => hk₄ _ o e) fun h₅ hl₅ hs₅ => ?_
      refine ⟨n + 1 - (vs.length + 1), by omega, h₅, tk₄, ys.push y, vs ++ [v], rfl, ?_, hl₅, (hn₃.keeps hk₄).sameBut hs₅ (Ne.symm hDC), ⟨some v, ?_⟩, hP', ?_, (by rw [List.length_append, List.length_singleton]; exact hlt), (by rw [List.length_append, List.length_singleton]),
        fun b o hbC hbf hbD e => hs₅.extBut b o hbD (hk₄ b o (hk₃ b o (up₂ b o hbC hbf (hkp b o hbC hbf hbD e))))⟩
      · have := W.frame _ _ h₅ hst₃ fun b hb o e => hs₅.extBut b o (fun h => hDf (h ▸ hb)) (hk₄ b o e)
        simpa using this
      · obtain ⟨o, ho, ho'⟩ := hv₃
        exact ⟨o, hs₅.extBut _ _ (Ne.symm hDc) (hk₄ _ _ ho), ho'⟩
      · rw [List.filter_append]; simpa [hpv] using Paired.snoc hF hFy
  · have hin : vs.length = n := by omega
    refine W.done _ _ _ (hin ▸ hst') fun h₁ tk₁ hk₁ => ?_
    exact hR h₁ tk₁ ys vs (hn'.at' fun o e => hk₁ _ o hCw e) (hacc'.at fun o e => hk₁ _ o hDw e) hin hP hF fun b o hbC hbf hbD e => hk₁ b o hbf (hkp b o hbC hbf hbD e)

theorem cellBlock {s₂ : Shared} {elt iter : PySem.Expr} {x : Str} {px : Pos} {ifs : List PySem.Expr} {scope : Scope} {cl : List (Str × Addr)} {pos : Pos} {I : Addr} {fp wr : List Addr} {n : Nat} {P : Nat → Value → Prop}
    {St : Nat → Heap → Prop} (W : Walks prog w A I fp wr n P St) (hsz : n ≤ sizeLine) (p : Value → Bool) (F : Value → Value → Prop) {RR : Value → Addr → Result → Shared → Prop}
    (hcells : ∀ k acc, cellsFrom k scope.names acc = (x, k) :: acc) (hpush : ∀ h : Heap, pushCells h scope.names = h.push { cls := .type "cell", data := .cell none })
    (hkind : scope.kind = .function) (hx : scope.names.lookup x = some .cell) (hst : St 0 s₂.heap) (hfp : ∀ b ∈ fp, b < s₂.heap.objs.size)
    (htests : ∀ C c i v s₃ E', s₂.heap.objs.size ≤ C → P i v → s₃.heap.Ns C (fun _ => none) → s₃.heap.IsCell c (some v) → (∀ b o, b ∉ wr → s₂.heap.get? b = some o → s₃.heap.get? b = some o) →
      wpAny (model prog w) A (forIn ifs true fun e r => if r = true then do let ok ← isTrue e (compEnvC scope ((x, c) :: cl) C env) (eval e (compEnvC scope ((x, c) :: cl) C env)); pure (ForInStep.yield ok) else pure (ForInStep.yield r))
        (fun ok s₄ => ok = p v ∧ Keeps s₃ s₄) E' s₃)
    (helt : ∀ C c i v s₃ E', s₂.heap.objs.size ≤ C → P i v → p v = true → s₃.heap.Ns C (fun _ => none) → s₃.heap.IsCell c (some v) → (∀ b o, b ∉ wr → s₂.heap.get? b = some o → s₃.heap.get? b = some o) →
      wpAny (model prog w) A (eval elt (compEnvC scope ((x, c) :: cl) C env)) (fun y s₄ => F v y ∧ Keeps s₃ s₄) E' s₃)
    (hRR : ∀ D C h' tk m' ys (vs : List Value), s₂.heap.get? D = none → s₂.heap.get? C = none → D ≠ C → h'.Ns C m' → h'.PlainList D ys → vs.length = n → (∀ j v, vs[j]? = some v → P j v) → Paired F (vs.filter p) ys.toList →
      (∀ b o, b ∉ wr → s₂.heap.get? b = some o → h'.get? b = some o) → RR (.ref D) C (.ok .next) { s₂ with heap := h', toks := tk }) :
    wpAny (model prog w) A (newList []) (fun acc s₃ => wpAny (model prog w) A (newFunctionEnv scope env.globals cl [] env.qual none .none (some env)) (fun cenv s₄ =>
      codeAny (model prog w) A (.compStart (.ListComp elt [⟨.Name x px, iter, ifs, 0⟩] scope pos) 0 (.ref I) acc { cenv with scope := relabel scope env }) (RR acc cenv.locals) s₄) E s₃) E s₂ := by
  refine wpAny_newObj_type (newEnv_cell hcells hpush fun h₁ hv₁ hn₁ hk₁ => ?_)
  dsimp only at hv₁ hn₁ hk₁ ⊢
  generalize hH2 : s₂.heap.push { cls := .type "list", dict := none, data := .seq ([] : List Value).toArray } = H2 at hv₁ hn₁ hk₁ ⊢
  have hC : H2.objs.size = s₂.heap.objs.size + 1 := by rw [← hH2, Heap.size_push]
  have hDC : s₂.heap.objs.size ≠ H2.objs.size := by rw [hC]; exact Nat.ne_of_lt (Nat.lt_succ_self _)
  have hDc : s₂.heap.objs.size ≠ H2.objs.size + 1 := by rw [hC]; exact Nat.ne_of_lt (Nat.lt_succ_of_lt (Nat.lt_succ_self _))
  have hCle : s₂.heap.objs.size ≤ H2.objs.size := by rw [hC]; exact Nat.le_succ _
  have old : ∀ b o, s₂.heap.get? b = some o → h₁.get? b = some o := fun b o e => hk₁ b o (hH2 ▸ Heap.get?_push_of_some _ e)
  have hacc : h₁.PlainList s₂.heap.objs.size #[] := ⟨_, hk₁ _ _ (hH2 ▸ Heap.get?_push_size _ rfl)⟩
  have hst₁ : St 0 h₁ := W.frame _ _ _ hst fun b _ o e => old b o e
  have fresh : ∀ a, s₂.heap.objs.size ≤ a → s₂.heap.get? a = none := fun a ha => by
    cases e : s₂.heap.get? a with
    | none => rfl
    | some o' => exact absurd (Heap.lt_size e) (Nat.not_lt.mpr ha)
  have off : ∀ a, s₂.heap.objs.size ≤ a → a ∉ fp := fun a ha hm => absurd (hfp a hm) (Nat.not_lt.mpr ha)
  have lt : ∀ b o, s₂.heap.get? b = some o → b ≠ H2.objs.size + 1 ∧ b ≠ s₂.heap.objs.size := fun b o e => by
    have l := Heap.lt_size e
    rw [hC]
    exact ⟨Nat.ne_of_lt (Nat.lt_trans l (Nat.lt_succ_of_lt (Nat.lt_succ_self _))), Nat.ne_of_lt l⟩
  have loop : ∀ s₃ : Shared, s₃ = { s₂ with heap := h₁ } →
      codeAny (model prog w) A (.compLoop (.ListComp elt [⟨.Name x px, iter, ifs, 0⟩] scope pos) 0 (.ref I) (.ref s₂.heap.objs.size) (compEnvC scope ((x, H2.objs.size + 1) :: cl) H2.objs.size env))
        (RR (.ref s₂.heap.objs.size) H2.objs.size) s₃ := by
    rintro s₃ rfl
    refine cellLoop (cenv := compEnvC scope ((x, H2.objs.size + 1) :: cl) H2.objs.size env) (c := H2.objs.size + 1) W p F (lookup_relabel_cell hx) (by simp [compEnvC, relabel, hkind]) (by simp [compEnvC]) hDC hDc (Nat.ne_of_lt (Nat.lt_succ_self _)) (off _ (Nat.le_refl _)) (off _ hCle) (off _ (Nat.le_succ_of_le hCle)) hst₁ hacc hn₁ hv₁
      (fun i v s₃ hPv hn hv hk => htests _ _ i v s₃ _ hCle hPv hn hv (fun b o hbf e => hk b o (lt b o e).1 hbf (lt b o e).2 (old b o e)))
      (fun i v s₃ hPv hpv hn hv hk => helt _ _ i v s₃ _ hCle hPv hpv hn hv (fun b o hbf e => hk b o (lt b o e).1 hbf (lt b o e).2 (old b o e))) (fun h' tk ys vs hn ha hlen hP hF hk => ?_) hsz
    exact hRR _ _ h' tk _ ys vs (fresh _ (Nat.le_refl _)) (fresh _ hCle) hDC hn ha hlen hP hF fun b o hbf e =>
      hk b o (lt b o e).1 hbf (lt b o e).2 (old b o e)
  exact codeAny_compStart_list (loop _ rfl) (W.self 0 _ _ _ hst₁ (loop _ rfl))
end
end
/-! Comp2 -/
section
abbrev Led := List (Addr × Obj)

/-- what a comprehension has made: each value with what it means, over a ledger -/
inductive Ares {β : Type} (G : Value → β → Led → Prop) (led : Led) : List Value → List β → Prop
  | nil : Ares G led [] []
  | cons {y : Value} {b : β} {ys : List Value} {bs : List β} : G y b led → Ares G led ys bs → Ares G led (y :: ys) (b :: bs)
theorem Ares.mono {β : Type} {G : Value → β → Led → Prop} (hm : ∀ y b l l', (∀ p ∈ l, p ∈ l') → G y b l → G y b l') {l l' : Led} (hs : ∀ p ∈ l, p ∈ l') :
    ∀ {ys : List Value} {bs : List β}, Ares G l ys bs → Ares G l' ys bs
  | _, _, .nil => .nil
  | _, _, .cons g r => .cons (hm _ _ _ _ hs g) (r.mono hm hs)
theorem Ares.snoc {β : Type} {G : Value → β → Led → Prop} {l : Led} {y : Value} {b : β} (g : G y b l) :
    ∀ {ys : List Value} {bs : List β}, Ares G l ys bs → Ares G l (ys ++ [y]) (bs ++ [b])
  | _, _, .nil => .cons g .nil
  | _, _, .cons g' r => .cons g' (r.snoc g)
theorem Ares.length {β : Type} {G : Value → β → Led → Prop} {l : Led} : ∀ {ys : List Value} {bs : List β}, Ares G l ys bs → ys.length = bs.length
  | _, _, .nil => rfl
  | _, _, .cons _ r => by simp [r.length]

theorem take_snoc_filter {α β : Type} (pz : α → Bool) (f : α → β) (as : List α) (k : Nat) (a : α) (h : as[k]? = some a) :
    ((as.take (k + 1)).filter pz).map f = ((as.take k).filter pz).map f ++ (if pz a = true then [f a] else []) := by
  rw [List.take_add_one, h]
  simp only [Option.toList_some, List.filter_append, List.map_append]
  congr 1
  cases hq : pz a <;> simp [hq]

theorem News.app_l {h₀ h : Heap} {L : Addr} {l₁ l₂ : Led} (N : News h₀ L h (l₁ ++ l₂)) : News h₀ L h l₁ := fun p hp => N p (List.mem_append.mpr (.inl hp))
theorem News.app_r {h₀ h : Heap} {L : Addr} {l₁ l₂ : Led} (N : News h₀ L h (l₁ ++ l₂)) : News h₀ L h l₂ := fun p hp => N p (List.mem_append.mpr (.inr hp))
theorem News.join {h₀ h : Heap} {L : Addr} {l₁ l₂ : Led} (N₁ : News h₀ L h l₁) (N₂ : News h₀ L h l₂) : News h₀ L h (l₁ ++ l₂) := fun p hp => (List.mem_append.mp hp).elim (N₁ p) (N₂ p)
theorem News.one {h₀ h : Heap} {L : Addr} {p : Addr × Obj} {l : Led} (e : h.get? p.1 = some p.2) (a : p.1 ≠ L) (b : h₀.get? p.1 = none) (N : News h₀ L h l) : News h₀ L h (p :: l) := fun q hq => by
  rcases List.mem_cons.mp hq with rfl | hq
  · exact ⟨e, a, b⟩
  · exact N q hq
theorem News.off {h₀ h h' : Heap} {L I : Addr} {l : Led} (N : News h₀ L h l) (ho : ∀ p ∈ l, p.1 ≠ I) (k : ∀ b o, b ∉ [I] → h.get? b = some o → h'.get? b = some o) : News h₀ L h' l := fun p hp =>
  ⟨k _ _ (fun q => ho p hp (List.mem_singleton.mp q)) (N p hp).1, (N p hp).2⟩
theorem Fr.off {h₀ h h' : Heap} {L I : Addr} {m : Str → Option Value} (F : Fr h₀ L h m) (hL : L ≠ I) (hI : h₀.get? I = none) (k : ∀ b o, b ∉ [I] → h.get? b = some o → h'.get? b = some o) : Fr h₀ L h' m :=
  ⟨F.ns.at' fun o e => k _ _ (fun q => hL (List.mem_singleton.mp q)) e, fun b o e => k _ _ (fun q => by rw [List.mem_singleton.mp q, hI] at e; cases e) (F.keep b o e), F.above⟩

/-- a turn's end -/
def TEnd (hb : Heap) (C : Addr) (m : Str → Option Value) (led : Led) (s s' : Shared) : Prop :=
  ∃ h' tk, s' = { s with heap := h', toks := tk } ∧ Fr hb C h' m ∧ News hb C h' led

section
variable {prog : Program} {w : World} {A : Around} {E : Value → Shared → Prop} {env : Env}

theorem myLoop {α β : Type} {s : Shared} {elt iter : PySem.Expr} {x : Str} {px : Pos} {ifs : List PySem.Expr} {scope : Scope} {pos : Pos} {I D : Addr} {fp : List Addr} {n : Nat} {P : Nat → Value → Prop} {St : Nat → Heap → Prop} {R : Result → Shared → Prop}
    {cenv : Env} {hb : Heap} {as : List α} {pz : α → Bool} {f : α → β} {Rv : Value → α → Prop} {G : Value → β → Led → Prop}
    {SlotOk : (Str → Option Value) → Led → Prop} {SlotHas : Value → (Str → Option Value) → Led → Prop} {m₀ : Str → Option Value} {sl₀ : Led} {n₀ : Nat}
    (W : Walks prog w A I fp [I] n P St) (hn : n = as.length) (hP : ∀ i v, P i v → ∀ a, as[i]? = some a → Rv v a)
    (hlive : ∀ i h, St i h → ∃ o, h.get? I = some o) (hfp : ∀ b ∈ fp, b ≠ I → ∃ o, hb.get? b = some o) (hI : hb.get? I = none) (hDI : D ≠ I) (hCI : cenv.locals ≠ I)
    (hGm : ∀ y b l l', (∀ p ∈ l, p ∈ l') → G y b l → G y b l')
    (hSok : ∀ v m sl, SlotHas v m sl → SlotOk m sl) (hSne : ∀ m sl, SlotOk m sl → ∀ p ∈ sl, p.1 ≠ I ∧ p.1 ≠ D)
    (hasg : ∀ (s : Shared) (Q : Unit → Shared → Prop) (E : Value → Shared → Prop) v m sl rest, SlotOk m sl → Fr hb cenv.locals s.heap m → News hb cenv.locals s.heap (sl ++ rest) → (∀ p ∈ rest, ∀ q ∈ sl, p.1 ≠ q.1) →
      (∀ h' tk' m' sl', SlotHas v m' sl' → Fr hb cenv.locals h' m' → News hb cenv.locals h' (sl' ++ rest) → sl'.map (·.1) = sl.map (·.1) → Q () { s with heap := h', toks := tk' }) → wpAny (model prog w) A (assign (.Name x px) cenv v) Q E s)
    (hst : St 0 s.heap) (hok₀ : SlotOk m₀ sl₀) (F₀ : Fr hb cenv.locals s.heap m₀) (N₀ : News hb cenv.locals s.heap (sl₀ ++ [(D, PySem.W.listOf #[] n₀)]))
    (tests : ∀ a v h tk m sl oI oD rest E', a ∈ as → Rv v a → SlotHas v m sl → sl.map (·.1) = sl₀.map (·.1) → Fr hb cenv.locals h m → News hb cenv.locals h (sl ++ (I, oI) :: (D, oD) :: rest) →
      wpAny (model prog w) A (forIn ifs true fun c r => if r = true then do let ok ← isTrue c cenv (eval c cenv); pure (ForInStep.yield ok) else pure (ForInStep.yield r))
        (fun ok s' => ok = pz a ∧ TEnd hb cenv.locals m (sl ++ (I, oI) :: (D, oD) :: rest) { s with heap := h, toks := tk } s') E' { s with heap := h, toks := tk })
    (helt : ∀ a v h tk m sl oI oD rest E', a ∈ as → pz a = true → Rv v a → SlotHas v m sl → sl.map (·.1) = sl₀.map (·.1) → Fr hb cenv.locals h m → News hb cenv.locals h (sl ++ (I, oI) :: (D, oD) :: rest) →
      wpAny (model prog w) A (eval elt cenv)
        (fun y s' => ∃ added, G y (f a) (added ++ rest) ∧ (∀ p ∈ added, p.1 ≠ I ∧ p.1 ≠ D ∧ p.1 ∉ sl₀.map (·.1)) ∧ TEnd hb cenv.locals m (sl ++ (I, oI) :: (D, oD) :: (added ++ rest)) { s with heap := h, toks := tk } s') E' { s with heap := h, toks := tk })
    (hR : ∀ h' tk ys nD rest m, Fr hb cenv.locals h' m → News hb cenv.locals h' ((D, PySem.W.listOf (List.toArray ys) nD) :: rest) → Ares G rest ys ((as.filter pz).map f) → (∀ p ∈ rest, p.1 ≠ D) → R (.ok .next) { s with heap := h', toks := tk })
    (hsz : n ≤ sizeLine) :
    codeAny (model prog w) A (.compLoop (.ListComp elt [⟨.Name x px, iter, ifs, 0⟩] scope pos) 0 (.ref I) (.ref D) cenv) R s := by
  refine codeAny_compLoop_tests
    (fun k s' => ∃ h' tk ys nD rest m sl, ∃ i : Nat, s' = { s with heap := h', toks := tk } ∧ St i h' ∧ SlotOk m sl ∧ sl.map (·.1) = sl₀.map (·.1) ∧ Fr hb cenv.locals h' m ∧ News hb cenv.locals h' (sl ++ (D, PySem.W.listOf (List.toArray ys) nD) :: rest) ∧
      (∀ p ∈ rest, p.1 ≠ I ∧ p.1 ≠ D ∧ p.1 ∉ sl₀.map (·.1)) ∧ Ares G rest ys (((as.take i).filter pz).map f) ∧ i ≤ n ∧ k = n + 1 - i) ?_ (n + 1)
    ⟨s.heap, s.toks, [], n₀, [], m₀, sl₀, 0, rfl, hst, hok₀, rfl, F₀, N₀, (fun _ h => nomatch h), .nil, Nat.zero_le _, rfl⟩
  rintro k s' ⟨H, tk, ys, nD, rest, m, sl, i, rfl, hst', hok, hadr, F, N, hrest, hA, hi, rfl⟩
  have slne : ∀ p ∈ sl, p.1 ≠ I ∧ p.1 ≠ D := hSne m sl hok
  have inI : ∀ (h : Heap) (o : Obj), h.get? I = some o → cenv.locals ≠ I → News hb cenv.locals h [(I, o)] := fun h o e c => News.one e (Ne.symm c) hI News.nil
  by_cases hlt : i < n
  · refine W.item i _ _ _ hlt hst' fun v h₁ tk₁ hPv hst₁ hk₁ => ?_
    dsimp only at hk₁
    obtain ⟨a, ha⟩ : ∃ a, as[i]? = some a := ⟨as[i]'(by omega), by simp⟩
    have hRv := hP i v hPv a ha
    have hmem : a ∈ as := List.mem_of_getElem? ha
    have offA : ∀ p ∈ sl ++ (D, PySem.W.listOf (List.toArray ys) nD) :: rest, p.1 ≠ I := fun p hp => by
      rcases List.mem_append.mp hp with hp | hp
      · exact (slne p hp).1
      · rcases List.mem_cons.mp hp with rfl | hp
        · exact hDI
        · exact (hrest p hp).1
    have F₁ := Fr.off F hCI hI hk₁
    have N₁ := News.off N offA hk₁
    obtain ⟨oI, hoI⟩ := hlive _ _ hst₁
    have N₁' : News hb cenv.locals h₁ (sl ++ (I, oI) :: (D, PySem.W.listOf (List.toArray ys) nD) :: rest) :=
      News.join (News.app_l N₁) (News.one hoI (Ne.symm hCI) hI (News.app_r N₁))
    refine hasg { s with heap := h₁, toks := tk₁ } _ _ v m sl _ hok F₁ N₁' ?_ fun h₂ tk₂ m₂ sl₂ hS₂ F₂ N₂ hadr₂ => ?_
    · intro p hp q hq e
      have hq' : q.1 ∈ sl₀.map (·.1) := by rw [← hadr]; exact List.mem_map.mpr ⟨q, hq, rfl⟩
      rcases List.mem_cons.mp hp with rfl | hp
      · exact (slne q hq).1 e.symm
      · rcases List.mem_cons.mp hp with rfl | hp
        · exact (slne q hq).2 e.symm
        · exact (hrest p hp).2.2 (by rw [e]; exact hq')
    have hadr₂' : sl₂.map (·.1) = sl₀.map (·.1) := hadr₂.trans hadr
    have stI : ∀ (h h' : Heap) (j : Nat), St j h → h.get? I = some oI → h'.get? I = some oI → (∀ b o, hb.get? b = some o → h.get? b = some o) → (∀ b o, hb.get? b = some o → h'.get? b = some o) → St j h' := fun h h' j st e e' k k' =>
      W.frame _ _ _ st fun b hbf o q => by
        by_cases hbI : b = I
        · subst hbI; rw [e] at q; cases q; exact e'
        · obtain ⟨o', ho'⟩ := hfp b hbf hbI
          rw [k b o' ho'] at q; cases q; exact k' _ _ ho'
    have memI : ∀ (l r : Led), (I, oI) ∈ l ++ (I, oI) :: r := fun l r => List.mem_append.mpr (.inr (.head _))
    have hst₂ : St (i + 1) h₂ := stI h₁ h₂ _ hst₁ hoI (N₂ _ (memI _ _)).1 F₁.keep F₂.keep
    refine wpAny_mono (tests a v h₂ tk₂ m₂ sl₂ oI _ rest _ hmem hRv hS₂ hadr₂' F₂ N₂) (fun ok s₃ h₃ => ?_) fun _ _ e => e
    obtain ⟨rfl, h₃, tk₃, rfl, F₃, N₃⟩ := h₃
    have hst₃ : St (i + 1) h₃ := stI h₂ h₃ _ hst₂ (N₂ _ (memI _ _)).1 (N₃ _ (memI _ _)).1 F₂.keep F₃.keep
    cases hpv : pz a with
    | false =>
      simp only [Bool.false_eq_true, if_false]
      refine ⟨n + 1 - (i + 1), by omega, h₃, tk₃, ys, nD, rest, m₂, sl₂, i + 1, rfl, hst₃, hSok _ _ _ hS₂, hadr₂', F₃, News.join (News.app_l N₃) (fun p hp => N₃ p (List.mem_append.mpr (.inr (.tail _ hp)))), hrest, ?_, by omega, rfl⟩
      rw [take_snoc_filter pz f as i a ha, hpv]
      simpa using hA
    | true =>
      simp only [if_true]
      refine wpAny_mono (helt a v h₃ tk₃ m₂ sl₂ oI _ rest _ hmem hpv hRv hS₂ hadr₂' F₃ N₃) (fun y s₄ h₄ => ?_) fun _ _ e => e
      obtain ⟨added, hG, hadd, h₄, tk₄, rfl, F₄, N₄⟩ := h₄
      have hst₄ : St (i + 1) h₄ := stI h₃ h₄ _ hst₃ (N₃ _ (memI _ _)).1 (N₄ _ (memI _ _)).1 F₃.keep F₄.keep
      have hys : ys.toArray.size ≤ sizeLine := by
        have e1 := hA.length
        have e2 : (((as.take i).filter pz).map f).length ≤ i := by
          rw [List.length_map]; exact Nat.le_trans (List.length_filter_le _ _) (by rw [List.length_take]; omega)
        simp only [List.size_toArray]; omega
      have hD₄ := N₄ (D, PySem.W.listOf (List.toArray ys) nD) (List.mem_append.mpr (.inr (.tail _ (.head _))))
      refine wpAny_list_append_plain (hsz := hys) ⟨nD, hD₄.1⟩ fun h₅ hl₅ hs₅ => ?_
      obtain ⟨n₅, hn₅⟩ := hl₅
      have hne₂ : ∀ p ∈ sl₂, p.1 ≠ I ∧ p.1 ≠ D := hSne _ _ (hSok _ _ _ hS₂)
      have k₅ : ∀ b o, b ∉ [D] → h₄.get? b = some o → h₅.get? b = some o := fun b o hbD e => hs₅.extBut b o (fun q => hbD (by simp [q])) e
      have F₅ := Fr.off F₄ (Ne.symm hD₄.2.1) hD₄.2.2 k₅
      have nr : News hb cenv.locals h₅ (added ++ rest) := News.off (fun p hp => N₄ p (List.mem_append.mpr (.inr (.tail _ (.tail _ hp))))) (fun p hp => (List.mem_append.mp hp).elim (fun q => (hadd p q).2.1) fun q => (hrest p q).2.1) k₅
      have ns : News hb cenv.locals h₅ sl₂ := News.off (News.app_l N₄) (fun p hp => (hne₂ p hp).2) k₅
      refine ⟨n + 1 - (i + 1), by omega, h₅, tk₄, ys ++ [y], n₅, added ++ rest, m₂, sl₂, i + 1, rfl, ?_, hSok _ _ _ hS₂, hadr₂', F₅, News.join ns (News.one (by simpa using hn₅) hD₄.2.1 hD₄.2.2 nr), ?_, ?_, by omega, rfl⟩
      · exact stI h₄ h₅ _ hst₄ (N₄ _ (memI _ _)).1 (k₅ _ _ (by simpa using Ne.symm hDI) (N₄ _ (memI _ _)).1) F₄.keep F₅.keep
      · intro p hp
        rcases List.mem_append.mp hp with q | q
        · exact hadd p q
        · exact hrest p q
      · rw [take_snoc_filter pz f as i a ha, hpv]
        simp only [if_true]
        exact (hA.mono hGm fun p hp => List.mem_append.mpr (.inr hp)).snoc hG
  · have hin : i = n := by omega
    refine W.done _ _ _ (hin ▸ hst') fun h₁ tk₁ hk₁ => ?_
    dsimp only at hk₁
    have offB : ∀ p ∈ (D, PySem.W.listOf (List.toArray ys) nD) :: rest, p.1 ≠ I := fun p hp => by
      rcases List.mem_cons.mp hp with rfl | hp
      · exact hDI
      · exact (hrest p hp).1
    refine hR h₁ tk₁ ys nD rest m (Fr.off F hCI hI hk₁) (News.off (News.app_r N) offB hk₁) ?_ fun p hp => (hrest p hp).2.1
    rw [hin, hn, List.take_length] at hA
    exact hA
end
end
/-! Comp3 -/
section
/-- a value that a comprehension walks: its items are as, one by one -/
def Src {α : Type} (prog : Program) (w : World) (A : Around) (s₁ : Shared) (xv : Value) (as : List α) (Rv : Value → α → Prop) : Prop :=
  as.length ≤ sizeLine ∧ ∀ (Q : Value → Shared → Prop) (E : Value → Shared → Prop), (∀ I fp P St h₂ tk₂, Walks prog w A I fp [I] as.length P St → (∀ i v, P i v → ∀ a, as[i]? = some a → Rv v a) → (∀ i h, St i h → ∃ o, h.get? I = some o) →
    (∀ b ∈ fp, b ≠ I → ∃ o, s₁.heap.get? b = some o) → s₁.heap.objs.size ≤ I → I < h₂.objs.size → (∀ b o, s₁.heap.get? b = some o → h₂.get? b = some o) → St 0 h₂ → Q (.ref I) { s₁ with heap := h₂, toks := tk₂ }) → wpAny (model prog w) A (pyIter xv) Q E s₁

theorem get_none_of_le {h : Heap} {a : Addr} (le : h.objs.size ≤ a) : h.get? a = none := by
  cases e : h.get? a with
  | none => rfl
  | some o => exact absurd (Heap.lt_size e) (Nat.not_lt.mpr le)

section
variable {prog : Program} {w : World} {A : Around} {E : Value → Shared → Prop} {env : Env} {s s₁ : Shared}

theorem src_list {α : Type} {ax : Addr} {vs : List Value} {as : List α} {Rv : Value → α → Prop} (hh : A.handled = none) (hl : s₁.heap.IsList ax vs.toArray) (ha : Are Rv vs as) (hsz : as.length ≤ sizeLine) : Src prog w A s₁ (.ref ax) as Rv := by
  refine ⟨hsz, fun Q E h => ?_⟩
  have hlt : ax < s₁.heap.objs.size := by obtain ⟨_, e, _⟩ := hl; exact Heap.lt_size e
  have e : vs.toArray.size = as.length := by simp [ha.length]
  have W := Walks.list (prog := prog) (w := w) hh s₁.heap.objs.size ax (Nat.ne_of_lt hlt) vs.toArray
  rw [e] at W
  refine wpAny_pyIter_list hl (h _ _ _ _ _ s₁.toks W ?_ ?_ ?_ (Nat.le_refl _) ?_ ?_ ?_)
  · intro i v hv a hai
    have hv' : vs[i]? = some v := by simpa using hv
    obtain ⟨v', a', e1, e2, e3⟩ := ha.at i (by rcases Nat.lt_or_ge i as.length with q | q; exact q; rw [List.getElem?_eq_none q] at hai; cases hai)
    rw [e1] at hv'; cases hv'
    rw [e2] at hai; cases hai
    exact e3
  · rintro i h ⟨⟨o, ho, _⟩, _⟩; exact ⟨o, ho⟩
  · intro b hb hbI
    rcases List.mem_cons.mp hb with rfl | hb
    · exact absurd rfl hbI
    · rw [List.mem_singleton.mp hb]; obtain ⟨o, ho, _⟩ := hl; exact ⟨o, ho⟩
  · rw [Heap.size_push]; exact Nat.lt_succ_self _
  · intro b o e; exact Heap.get?_push_of_some _ e
  · exact ⟨⟨_, Heap.get?_push_size _ rfl, rfl, rfl⟩, hl.push _⟩

/-- the block of a comprehension whose own name is a plain local -/
theorem blockL {α β : Type} {s₂ : Shared} {hb : Heap} {elt iter : PySem.Expr} {x : Str} {px : Pos} {ifs : List PySem.Expr} {scope : Scope} {cl : List (Str × Addr)} {pos : Pos} {I : Addr} {fp : List Addr} {n : Nat} {P : Nat → Value → Prop}
    {St : Nat → Heap → Prop} {as : List α} {pz : α → Bool} {f : α → β} {Rv : Value → α → Prop} {G : Value → β → Led → Prop} {RR : Value → Addr → Result → Shared → Prop}
    (W : Walks prog w A I fp [I] n P St) (hn : n = as.length) (hP : ∀ i v, P i v → ∀ a, as[i]? = some a → Rv v a)
    (hlive : ∀ i h, St i h → ∃ o, h.get? I = some o) (hfp : ∀ b ∈ fp, b ≠ I → ∃ o, hb.get? b = some o) (hbI : hb.objs.size ≤ I) (hI2 : I < s₂.heap.objs.size) (hk : ∀ b o, hb.get? b = some o → s₂.heap.get? b = some o) (hst : St 0 s₂.heap)
    (hGm : ∀ y b l l', (∀ p ∈ l, p ∈ l') → G y b l → G y b l') (hsz : n ≤ sizeLine)
    (hcell : ∀ y ∈ scope.names, y.2 ≠ .cell) (hkind : scope.kind = .function) (hx : scope.names.lookup x = some .local)
    (tests : ∀ C D a v h tk m oI oD rest E', I < D → D < C → a ∈ as → Rv v a → m x = some v → Fr hb C h m → News hb C h ((I, oI) :: (D, oD) :: rest) →
      wpAny (model prog w) A (forIn ifs true fun c r => if r = true then do let ok ← isTrue c (compEnvC scope cl C env) (eval c (compEnvC scope cl C env)); pure (ForInStep.yield ok) else pure (ForInStep.yield r))
        (fun ok s' => ok = pz a ∧ TEnd hb C m ((I, oI) :: (D, oD) :: rest) { s₂ with heap := h, toks := tk } s') E' { s₂ with heap := h, toks := tk })
    (helt : ∀ C D a v h tk m oI oD rest E', I < D → D < C → a ∈ as → pz a = true → Rv v a → m x = some v → Fr hb C h m → News hb C h ((I, oI) :: (D, oD) :: rest) →
      wpAny (model prog w) A (eval elt (compEnvC scope cl C env))
        (fun y s' => ∃ added, G y (f a) (added ++ rest) ∧ (∀ p ∈ added, p.1 ≠ I ∧ p.1 ≠ D) ∧ TEnd hb C m ((I, oI) :: (D, oD) :: (added ++ rest)) { s₂ with heap := h, toks := tk } s') E' { s₂ with heap := h, toks := tk })
    (hRR : ∀ D C h' tk ys nD rest m, I < D → D < C → Fr hb C h' m → News hb C h' ((D, PySem.W.listOf (List.toArray ys) nD) :: rest) → Ares G rest ys ((as.filter pz).map f) → (∀ p ∈ rest, p.1 ≠ D) → RR (.ref D) C (.ok .next) { s₂ with heap := h', toks := tk }) :
    wpAny (model prog w) A (newList []) (fun acc s₃ => wpAny (model prog w) A (newFunctionEnv scope env.globals cl [] env.qual none .none (some env)) (fun cenv s₄ =>
      codeAny (model prog w) A (.compStart (.ListComp elt [⟨.Name x px, iter, ifs, 0⟩] scope pos) 0 (.ref I) acc { cenv with scope := relabel scope env }) (RR acc cenv.locals) s₄) E s₃) E s₂ := by
  refine wpAny_newObj_type (wpAny_newFunctionEnv hcell (by intro y hy; simp at hy) (fun h₁ hns₁ hsb₁ => ?_) hkind)
  dsimp only at hns₁ hsb₁ ⊢
  generalize hH2 : s₂.heap.push { cls := .type "list", dict := none, data := .seq ([] : List Value).toArray } = H2 at hns₁ hsb₁ ⊢
  have hC : H2.objs.size = s₂.heap.objs.size + 1 := by rw [← hH2, Heap.size_push]
  have hDC : s₂.heap.objs.size < H2.objs.size := by rw [hC]; exact Nat.lt_succ_self _
  have k1 : ∀ b o, H2.get? b = some o → h₁.get? b = some o := fun b o e => hsb₁.extBut b o (Nat.ne_of_lt (Heap.lt_size e)) (Heap.get?_push_of_some _ e)
  have k2 : ∀ b o, s₂.heap.get? b = some o → h₁.get? b = some o := fun b o e => k1 b o (hH2 ▸ Heap.get?_push_of_some _ e)
  have hbD : hb.get? s₂.heap.objs.size = none := get_none_of_le (Nat.le_trans hbI (Nat.le_of_lt hI2))
  have hst₁ : St 0 h₁ := W.frame _ _ _ hst fun b _ o e => k2 b o e
  have F₁ : Fr hb H2.objs.size h₁ (fun x => ([] : List (Str × Value)).reverse.lookup x) := ⟨hns₁, fun b o e => k2 b o (hk b o e), Nat.le_trans hbI (Nat.le_trans (Nat.le_of_lt hI2) (Nat.le_of_lt hDC))⟩
  have N₁ : News hb H2.objs.size h₁ ([] ++ [(s₂.heap.objs.size, PySem.W.listOf #[] 0)]) := News.one (k1 _ _ (hH2 ▸ Heap.get?_push_size _ rfl)) (Nat.ne_of_lt hDC) hbD News.nil
  have loop : ∀ s₃ : Shared, s₃ = { s₂ with heap := h₁, toks := s₂.toks + ([] : List (Str × Value)).length } →
      codeAny (model prog w) A (.compLoop (.ListComp elt [⟨.Name x px, iter, ifs, 0⟩] scope pos) 0 (.ref I) (.ref s₂.heap.objs.size) (compEnvC scope cl H2.objs.size env))
        (RR (.ref s₂.heap.objs.size) H2.objs.size) s₃ := by
    rintro s₃ rfl
    refine myLoop (hb := hb) (as := as) (pz := pz) (f := f) (Rv := Rv) (G := G) (cenv := compEnvC scope cl H2.objs.size env) (SlotOk := fun _ sl => sl = []) (SlotHas := fun v m sl => sl = [] ∧ m x = some v) (sl₀ := []) W hn hP hlive hfp (get_none_of_le hbI) (Nat.ne_of_gt hI2)
      (Nat.ne_of_gt (Nat.lt_trans hI2 hDC)) hGm (fun _ _ _ h => h.1) (fun _ sl h p hp => by subst h; cases hp) ?_ hst₁ rfl F₁ N₁ ?_ ?_ (fun h' tk ys nD rest m F N a r => hRR _ _ h' tk ys nD rest m hI2 hDC F N a r) hsz
    · rintro s Q E v m sl rest rfl F N _ hQ
      refine wpAny_assign_Name (wpAny_storeName_local (lookup_relabel_local hx) F.ns (fun h' hn' hs' => ?_) (by simp [compEnvC, relabel, hkind]))
      exact hQ h' _ _ [] ⟨rfl, if_pos rfl⟩ (F.set hn' hs') (N.set hs') rfl
    · rintro a v h tk m sl oI oD rest E' hm hr ⟨rfl, hmx⟩ _ F N
      exact tests _ _ a v h tk m oI oD rest E' hI2 hDC hm hr hmx F N
    · rintro a v h tk m sl oI oD rest E' hm hpz hr ⟨rfl, hmx⟩ _ F N
      refine wpAny_mono (helt _ _ a v h tk m oI oD rest E' hI2 hDC hm hpz hr hmx F N) (fun y s' hy => ?_) fun _ _ e => e
      obtain ⟨added, h1, h2, h3⟩ := hy
      exact ⟨added, h1, fun p hp => ⟨(h2 p hp).1, (h2 p hp).2, fun q => nomatch q⟩, h3⟩
  exact codeAny_compStart_list (loop _ rfl) (W.self 0 _ _ _ hst₁ (loop _ rfl))

/-- the block of a comprehension whose own name is a cell -/
theorem blockC {α β : Type} {s₂ : Shared} {hb : Heap} {elt iter : PySem.Expr} {x : Str} {px : Pos} {ifs : List PySem.Expr} {scope : Scope} {cl : List (Str × Addr)} {pos : Pos} {I : Addr} {fp : List Addr} {n : Nat} {P : Nat → Value → Prop}
    {St : Nat → Heap → Prop} {as : List α} {pz : α → Bool} {f : α → β} {Rv : Value → α → Prop} {G : Value → β → Led → Prop} {RR : Value → Addr → Result → Shared → Prop}
    (W : Walks prog w A I fp [I] n P St) (hn : n = as.length) (hP : ∀ i v, P i v → ∀ a, as[i]? = some a → Rv v a)
    (hlive : ∀ i h, St i h → ∃ o, h.get? I = some o) (hfp : ∀ b ∈ fp, b ≠ I → ∃ o, hb.get? b = some o) (hbI : hb.objs.size ≤ I) (hI2 : I < s₂.heap.objs.size) (hk : ∀ b o, hb.get? b = some o → s₂.heap.get? b = some o) (hst : St 0 s₂.heap)
    (hGm : ∀ y b l l', (∀ p ∈ l, p ∈ l') → G y b l → G y b l') (hsz : n ≤ sizeLine)
    (hcells : ∀ k acc, cellsFrom k scope.names acc = (x, k) :: acc) (hpush : ∀ h : Heap, pushCells h scope.names = h.push { cls := .type "cell", data := .cell none })
    (hkind : scope.kind = .function) (hx : scope.names.lookup x = some .cell)
    (tests : ∀ C D c a v h tk m oc oI oD rest E', I < D → D < C → C < c → a ∈ as → Rv v a → oc.data = .cell (some v) → Fr hb C h m → News hb C h ((c, oc) :: (I, oI) :: (D, oD) :: rest) →
      wpAny (model prog w) A (forIn ifs true fun e r => if r = true then do let ok ← isTrue e (compEnvC scope ((x, c) :: cl) C env) (eval e (compEnvC scope ((x, c) :: cl) C env)); pure (ForInStep.yield ok) else pure (ForInStep.yield r))
        (fun ok s' => ok = pz a ∧ TEnd hb C m ((c, oc) :: (I, oI) :: (D, oD) :: rest) { s₂ with heap := h, toks := tk } s') E' { s₂ with heap := h, toks := tk })
    (helt : ∀ C D c a v h tk m oc oI oD rest E', I < D → D < C → C < c → a ∈ as → pz a = true → Rv v a → oc.data = .cell (some v) → Fr hb C h m → News hb C h ((c, oc) :: (I, oI) :: (D, oD) :: rest) →
      wpAny (model prog w) A (eval elt (compEnvC scope ((x, c) :: cl) C env))
        (fun y s' => ∃ added, G y (f a) (added ++ rest) ∧ (∀ p ∈ added, p.1 ≠ I ∧ p.1 ≠ D ∧ p.1 ≠ c) ∧ TEnd hb C m ((c, oc) :: (I, oI) :: (D, oD) :: (added ++ rest)) { s₂ with heap := h, toks := tk } s') E' { s₂ with heap := h, toks := tk })
    (hRR : ∀ D C h' tk ys nD rest m, I < D → D < C → Fr hb C h' m → News hb C h' ((D, PySem.W.listOf (List.toArray ys) nD) :: rest) → Ares G rest ys ((as.filter pz).map f) → (∀ p ∈ rest, p.1 ≠ D) → RR (.ref D) C (.ok .next) { s₂ with heap := h', toks := tk }) :
    wpAny (model prog w) A (newList []) (fun acc s₃ => wpAny (model prog w) A (newFunctionEnv scope env.globals cl [] env.qual none .none (some env)) (fun cenv s₄ =>
      codeAny (model prog w) A (.compStart (.ListComp elt [⟨.Name x px, iter, ifs, 0⟩] scope pos) 0 (.ref I) acc { cenv with scope := relabel scope env }) (RR acc cenv.locals) s₄) E s₃) E s₂ := by
  refine wpAny_newObj_type (newEnv_cell hcells hpush fun h₁ hv₁ hns₁ k1 => ?_)
  dsimp only at hv₁ hns₁ k1 ⊢
  generalize hH2 : s₂.heap.push { cls := .type "list", dict := none, data := .seq ([] : List Value).toArray } = H2 at hv₁ hns₁ k1 ⊢
  have hC : H2.objs.size = s₂.heap.objs.size + 1 := by rw [← hH2, Heap.size_push]
  have hDC : s₂.heap.objs.size < H2.objs.size := by rw [hC]; exact Nat.lt_succ_self _
  have hCc : H2.objs.size < H2.objs.size + 1 := Nat.lt_succ_self _
  have k2 : ∀ b o, s₂.heap.get? b = some o → h₁.get? b = some o := fun b o e => k1 b o (hH2 ▸ Heap.get?_push_of_some _ e)
  have hbD : hb.get? s₂.heap.objs.size = none := get_none_of_le (Nat.le_trans hbI (Nat.le_of_lt hI2))
  have hbc : hb.get? (H2.objs.size + 1) = none := get_none_of_le (Nat.le_trans hbI (Nat.le_trans (Nat.le_of_lt hI2) (Nat.le_trans (Nat.le_of_lt hDC) (Nat.le_of_lt hCc))))
  have hst₁ : St 0 h₁ := W.frame _ _ _ hst fun b _ o e => k2 b o e
  have F₁ : Fr hb H2.objs.size h₁ (fun _ => none) := ⟨hns₁, fun b o e => k2 b o (hk b o e), Nat.le_trans hbI (Nat.le_trans (Nat.le_of_lt hI2) (Nat.le_of_lt hDC))⟩
  obtain ⟨oc, hoc, hoc'⟩ := hv₁
  have N₁ : News hb H2.objs.size h₁ ([(H2.objs.size + 1, oc)] ++ [(s₂.heap.objs.size, PySem.W.listOf #[] 0)]) :=
    News.one hoc (Nat.ne_of_gt hCc) hbc (News.one (k1 _ _ (hH2 ▸ Heap.get?_push_size _ rfl)) (Nat.ne_of_lt hDC) hbD News.nil)
  have loop : ∀ s₃ : Shared, s₃ = { s₂ with heap := h₁ } →
      codeAny (model prog w) A (.compLoop (.ListComp elt [⟨.Name x px, iter, ifs, 0⟩] scope pos) 0 (.ref I) (.ref s₂.heap.objs.size) (compEnvC scope ((x, H2.objs.size + 1) :: cl) H2.objs.size env))
        (RR (.ref s₂.heap.objs.size) H2.objs.size) s₃ := by
    rintro s₃ rfl
    refine myLoop (hb := hb) (as := as) (pz := pz) (f := f) (Rv := Rv) (G := G) (cenv := compEnvC scope ((x, H2.objs.size + 1) :: cl) H2.objs.size env) (SlotOk := fun _ sl => ∃ o u, sl = [(H2.objs.size + 1, o)] ∧ o.data = .cell u)
      (SlotHas := fun v m sl => ∃ o, sl = [(H2.objs.size + 1, o)] ∧ o.data = .cell (some v)) (sl₀ := [(H2.objs.size + 1, oc)]) W hn hP hlive hfp (get_none_of_le hbI) (Nat.ne_of_gt hI2)
      (Nat.ne_of_gt (Nat.lt_trans hI2 hDC)) hGm (fun _ _ _ ⟨o, h1, h2⟩ => ⟨o, _, h1, h2⟩) ?_ ?_ hst₁ ⟨oc, _, rfl, hoc'⟩ F₁ N₁ ?_ ?_ (fun h' tk ys nD rest m F N a r => hRR _ _ h' tk ys nD rest m hI2 hDC F N a r) hsz
    · rintro _ sl ⟨o, u, rfl, _⟩ p hp
      rw [List.mem_singleton.mp hp]
      exact ⟨Nat.ne_of_gt (Nat.lt_trans hI2 (Nat.lt_trans hDC hCc)), Nat.ne_of_gt (Nat.lt_trans hDC hCc)⟩
    · rintro s Q E v m sl rest ⟨o, u, rfl, hu⟩ F N hoff hQ
      have z := N (H2.objs.size + 1, o) (.head _)
      refine wpAny_assign_Name (wpAny_storeName_cell (c := H2.objs.size + 1) (by simp [compEnvC, relabel, hkind]) (lookup_relabel_cell hx) (by simp [compEnvC]) ⟨o, z.1, hu⟩ fun h' hv' hs' => ?_)
      obtain ⟨o', ho', hd'⟩ := hv'
      have kk : ∀ b q, b ∉ [H2.objs.size + 1] → s.heap.get? b = some q → h'.get? b = some q := fun b q hb' e => hs'.extBut b q (fun r => hb' (by simp [r])) e
      exact hQ h' s.toks m [(H2.objs.size + 1, o')] ⟨o', rfl, hd'⟩ (Fr.off F (Ne.symm z.2.1) z.2.2 kk) (News.one ho' z.2.1 z.2.2 (News.off (News.app_r N) (fun p hp => hoff p hp _ (.head _)) kk)) rfl
    · rintro a v h tk m sl oI oD rest E' hm hr ⟨o, rfl, ho⟩ _ F N
      exact tests _ _ _ a v h tk m o oI oD rest E' hI2 hDC hCc hm hr ho F N
    · rintro a v h tk m sl oI oD rest E' hm hpz hr ⟨o, rfl, ho⟩ _ F N
      refine wpAny_mono (helt _ _ _ a v h tk m o oI oD rest E' hI2 hDC hCc hm hpz hr ho F N) (fun y s' hy => ?_) fun _ _ e => e
      obtain ⟨added, h1, h2, h3⟩ := hy
      exact ⟨added, h1, fun p hp => ⟨(h2 p hp).1, (h2 p hp).2.1, fun q => (h2 p hp).2.2 (by simpa using q)⟩, h3⟩
  exact codeAny_compStart_list (loop _ rfl) (W.self 0 _ _ _ hst₁ (loop _ rfl))
end
end
/-! Comp4 -/
section
/-- the end of an element's turn -/
def EltEnd {β : Type} (hb : Heap) (C I D : Addr) (m : Str → Option Value) (pre rest : Led) (G : Value → β → Led → Prop) (b : β) (s : Shared) (y : Value) (s' : Shared) : Prop :=
  ∃ added, G y b (added ++ rest) ∧ (∀ p ∈ added, p.1 ≠ I ∧ p.1 ≠ D ∧ ∀ q ∈ pre, p.1 ≠ q.1) ∧ TEnd hb C m (pre ++ added ++ rest) s s'
def TestEnd (hb : Heap) (C : Addr) (m : Str → Option Value) (led : Led) (b : Bool) (s : Shared) (ok : Bool) (s' : Shared) : Prop := ok = b ∧ TEnd hb C m led s s'

section
variable {prog : Program} {w : World} {A : Around} {E : Value → Shared → Prop} {env : Env} {s s₁ : Shared} {h₀ : Heap} {L : Addr} {m : Str → Option Value}

theorem TEnd.intro {hb h' : Heap} {C : Addr} {m : Str → Option Value} {led led' : Led} {s : Shared} {tk : Nat} (F : Fr hb C h' m) (N : News hb C h' led') (hs : ∀ p ∈ led, p ∈ led') : TEnd hb C m led s { s with heap := h', toks := tk } :=
  ⟨h', tk, rfl, F, fun p hp => N p (hs p hp)⟩
theorem tests_nil {Q : Bool → Shared → Prop} {cenv : Env} (h : Q true s) :
    wpAny (model prog w) A (forIn ([] : List PySem.Expr) true fun c r => if r = true then do let ok ← isTrue c cenv (eval c cenv); pure (ForInStep.yield ok) else pure (ForInStep.yield r)) Q E s := by
  rw [List.forIn_nil]; exact wpAny_pure h
theorem tests_one {Q : Bool → Shared → Prop} {cenv : Env} {c : PySem.Expr} (h : wpAny (model prog w) A (isTrue c cenv (eval c cenv)) Q E s) :
    wpAny (model prog w) A (forIn [c] true fun c r => if r = true then do let ok ← isTrue c cenv (eval c cenv); pure (ForInStep.yield ok) else pure (ForInStep.yield r)) Q E s := by
  rw [List.forIn_cons]
  simp only [if_true]
  refine wpAny_bind (wpAny_bind (wpAny_mono h (fun ok s' q => ?_) fun _ _ e => e))
  refine wpAny_pure ?_
  dsimp only
  rw [List.forIn_nil]
  exact wpAny_pure q

theorem news_up {h h' : Heap} {L : Addr} {news : Led} (N : News h₀ L h news) (k : ∀ b o, h.get? b = some o → h'.get? b = some o) : News h₀ L h' news := fun p hp => ⟨k _ _ (N p hp).1, (N p hp).2⟩

def CGoL {α β : Type} (prog : Program) (w : World) (A : Around) (h₀ : Heap) (L : Addr) (m : Str → Option Value) (env : Env) (elt : PySem.Expr) (x : Str) (ifs : List PySem.Expr) (scope : Scope) (cl : List (Str × Addr)) (as : List α) (pz : α → Bool) (f : α → β) (Rv : Value → α → Prop) (G : Value → β → Led → Prop)
    (Fin : Led → Heap → Addr → List Value → Nat → Led → Shared → Prop) (xv : Value) (s₁ : Shared) : Prop :=
  ∃ news, Fr h₀ L s₁.heap m ∧ News h₀ L s₁.heap news ∧ Src prog w A s₁ xv as Rv ∧
  (∀ C I D a v h tk m₂ oI oD rest E', s₁.heap.objs.size ≤ I → I < D → D < C → a ∈ as → Rv v a → m₂ x = some v → Fr s₁.heap C h m₂ → News s₁.heap C h ([(I, oI), (D, oD)] ++ rest) →
    wpAny (model prog w) A (forIn ifs true fun e r => if r = true then do let ok ← isTrue e (compEnvC scope cl C env) (eval e (compEnvC scope cl C env)); pure (ForInStep.yield ok) else pure (ForInStep.yield r))
      (TestEnd s₁.heap C m₂ ([(I, oI), (D, oD)] ++ rest) (pz a) { s₁ with heap := h, toks := tk }) E' { s₁ with heap := h, toks := tk }) ∧
  (∀ C I D a v h tk m₂ oI oD rest E', s₁.heap.objs.size ≤ I → I < D → D < C → a ∈ as → pz a = true → Rv v a → m₂ x = some v → Fr s₁.heap C h m₂ → News s₁.heap C h ([(I, oI), (D, oD)] ++ rest) →
    wpAny (model prog w) A (eval elt (compEnvC scope cl C env)) (EltEnd s₁.heap C I D m₂ [(I, oI), (D, oD)] rest G (f a) { s₁ with heap := h, toks := tk }) E' { s₁ with heap := h, toks := tk }) ∧
  (∀ D h' tk ys nD rest, s₁.heap.objs.size ≤ D → (∀ p ∈ news, p.1 < D) → News h₀ L h' ((D, PySem.W.listOf (List.toArray ys) nD) :: (rest ++ news)) → Ares G rest ys ((as.filter pz).map f) → Fin news h' D ys nD rest { s₁ with heap := h', toks := tk })

theorem compEL {α β : Type} {elt iter : PySem.Expr} {x : Str} {px : Pos} {ifs : List PySem.Expr} {scope : Scope} {cl : List (Str × Addr)} {pos : Pos} {Q : Value → Shared → Prop} (as : List α) (pz : α → Bool) (f : α → β) (Rv : Value → α → Prop) (G : Value → β → Led → Prop)
    (hclos : closureFor scope env = pure cl) (hcell : ∀ y ∈ scope.names, y.2 ≠ .cell) (hkind : scope.kind = .function)
    (hnames : ∀ y ∈ scope.names, y.2 = .local → scope.names.lookup y.1 = some .local) (hx : scope.names.lookup x = some .local) (hGm : ∀ y b l l', (∀ p ∈ l, p ∈ l') → G y b l → G y b l')
    (h : wpAny (model prog w) A (eval iter env) (CGoL prog w A h₀ L m env elt x ifs scope cl as pz f Rv G (fun _ h' D _ _ _ s' => Fr h₀ L h' m → Q (.ref D) s')) E s)
    (hs : ∀ x, foldedSetIterable iter env x = pure x) :
    wpAny (model prog w) A (eval (.ListComp elt [⟨.Name x px, iter, ifs, 0⟩] scope pos) env) Q E s := by
  rw [eval_ListComp]
  refine wpAny_comprehension_free (use := none) rfl hs hclos hkind hnames (wpAny_mono h (fun xv s₁ h₁ => ?_) fun _ _ e => e)
  obtain ⟨news, F, N, ⟨hsz, src⟩, tests, elts, fin⟩ := h₁
  refine src _ _ fun I fp P St h₂ tk₂ W hP hlive hfp hbI hI2 hk hst => ?_
  refine blockL (hb := s₁.heap) (s₂ := { s₁ with heap := h₂, toks := tk₂ }) (as := as) (pz := pz) (f := f) (Rv := Rv) (G := G) (RR := fun acc C => compPost (model prog w) A E none Q acc C) W rfl hP hlive hfp hbI hI2 hk hst hGm hsz hcell hkind hx ?_ ?_ ?_
  · intro C D a v h tk m₂ oI oD rest E' i1 i2 hm hr hv F N
    exact tests C I D a v h tk m₂ oI oD rest E' hbI i1 i2 hm hr hv F N
  · intro C D a v h tk m₂ oI oD rest E' i1 i2 hm hpz hr hv F N
    refine wpAny_mono (elts C I D a v h tk m₂ oI oD rest E' hbI i1 i2 hm hpz hr hv F N) (fun y s' hy => ?_) fun _ _ e => e
    obtain ⟨added, h1, h2, h3⟩ := hy
    exact ⟨added, h1, fun p hp => ⟨(h2 p hp).1, (h2 p hp).2.1⟩, by simpa using h3⟩
  · intro D C h' tk ys nD rest m' i1 i2 F' N' a r
    have hD : s₁.heap.objs.size ≤ D := Nat.le_of_lt (Nat.lt_of_le_of_lt hbI i1)
    have hL' : L ≠ C := fun q => by
      have l := F.ns.lt
      rw [q] at l
      exact absurd l (Nat.not_lt.mpr (Nat.le_of_lt (Nat.lt_of_le_of_lt hD i2)))
    have lt : ∀ b o, s₁.heap.get? b = some o → b ≠ C := fun b o e => Nat.ne_of_lt (Nat.lt_of_lt_of_le (Heap.lt_size e) (Nat.le_of_lt (Nat.lt_of_le_of_lt hD i2)))
    have dn : ∀ p ∈ (D, PySem.W.listOf (List.toArray ys) nD) :: rest, p.1 ≠ L ∧ h₀.get? p.1 = none := fun p hp => by
      have z := (N' p hp).2.2
      refine ⟨fun q => ?_, ?_⟩
      · rw [q] at z; obtain ⟨o, _, _, ho, _⟩ := F.ns; rw [ho] at z; cases z
      · cases q : h₀.get? p.1 with
        | none => rfl
        | some o => rw [F.keep _ _ q] at z; cases z
    have hlt : ∀ p ∈ news, p.1 < D := fun p hp => Nat.lt_of_lt_of_le (Heap.lt_size (N p hp).1) hD
    refine ⟨m', F'.ns, fun h'' hs'' => ?_⟩
    have k'' : ∀ b o, s₁.heap.get? b = some o → h''.get? b = some o := fun b o e => hs''.extBut b o (lt b o e) (F'.keep b o e)
    refine fin D h'' tk ys nD rest hD hlt ?_ a (fr_stays F k'')
    intro p hp
    rcases List.mem_cons.mp hp with rfl | hp
    · exact ⟨hs''.extBut _ _ (Nat.ne_of_lt i2) (N' _ (.head _)).1, dn _ (.head _)⟩
    · rcases List.mem_append.mp hp with hp | hp
      · exact ⟨hs''.extBut _ _ (N' _ (.tail _ hp)).2.1 (N' _ (.tail _ hp)).1, dn _ (.tail _ hp)⟩
      · exact news_up N k'' p hp

theorem compAL {α β : Type} {elt iter : PySem.Expr} {x y : Str} {px py : Pos} {ifs : List PySem.Expr} {scope : Scope} {cl : List (Str × Addr)} {pos spos : Pos} {Q : Flow → Shared → Prop} (as : List α) (pz : α → Bool) (f : α → β) (Rv : Value → α → Prop) (G : Value → β → Led → Prop)
    (hL : env.locals = L) (hsw : swapsWith (.ListComp elt [⟨.Name x px, iter, ifs, 0⟩] scope pos) (some (.Name y py)) spos.line env = pure true)
    (hy : env.kindOf y = some .local) (hp : (env.scope.kind == .class || (env.scope.kind == .module && env.locals != env.globals)) = false)
    (hclos : closureFor scope env = pure cl) (hcell : ∀ y ∈ scope.names, y.2 ≠ .cell) (hkind : scope.kind = .function)
    (hnames : ∀ y ∈ scope.names, y.2 = .local → scope.names.lookup y.1 = some .local) (hx : scope.names.lookup x = some .local) (hGm : ∀ y b l l', (∀ p ∈ l, p ∈ l') → G y b l → G y b l')
    (h : wpAny (model prog w) A (eval iter env) (CGoL prog w A h₀ L m env elt x ifs scope cl as pz f Rv G (fun _ h' D _ _ _ s' => Fr h₀ L h' (fun z => if z = y then some (.ref D) else m z) → Q .next s')) E s)
    (hs : ∀ x, foldedSetIterable iter env x = pure x) :
    wpAny (model prog w) A (exec (.Assign [.Name y py] (.ListComp elt [⟨.Name x px, iter, ifs, 0⟩] scope pos) spos) env) Q E s := by
  subst hL
  rw [exec_Assign_Name_used _ _ _ _ hsw]
  refine wpAny_bind (wpAny_standAt (wpAny_bind ?_))
  show wpAny _ A (do let _ ← comprehension (.ListComp elt [⟨.Name x px, iter, ifs, 0⟩] scope pos) scope env _ (newList []) false (eval iter env) (some (assign (.Name y py) env))) _ _ s
  refine wpAny_bind (wpAny_mono (wpAny_comprehension_free (use := some (assign (.Name y py) env)) (Q := fun _ s' => Q .next s') rfl hs hclos hkind hnames
    (wpAny_mono h (fun xv s₁ h₁ => ?_) fun _ _ e => e)) (fun _ s' hq => wpAny_pure (wpAny_pure hq)) fun _ _ e => e)
  obtain ⟨news, F, N, ⟨hsz, src⟩, tests, elts, fin⟩ := h₁
  refine src _ _ fun I fp P St h₂ tk₂ W hP hlive hfp hbI hI2 hk hst => ?_
  refine blockL (hb := s₁.heap) (s₂ := { s₁ with heap := h₂, toks := tk₂ }) (as := as) (pz := pz) (f := f) (Rv := Rv) (G := G) (RR := fun acc C => compPost (model prog w) A E (some (assign (.Name y py) env)) (fun _ s4 => Q .next s4) acc C) W rfl hP hlive hfp hbI hI2 hk hst hGm hsz hcell hkind hx ?_ ?_ ?_
  · intro C D a v h tk m₂ oI oD rest E' i1 i2 hm hr hv F N
    exact tests C I D a v h tk m₂ oI oD rest E' hbI i1 i2 hm hr hv F N
  · intro C D a v h tk m₂ oI oD rest E' i1 i2 hm hpz hr hv F N
    refine wpAny_mono (elts C I D a v h tk m₂ oI oD rest E' hbI i1 i2 hm hpz hr hv F N) (fun y s' hy => ?_) fun _ _ e => e
    obtain ⟨added, h1, h2, h3⟩ := hy
    exact ⟨added, h1, fun p hp => ⟨(h2 p hp).1, (h2 p hp).2.1⟩, by simpa using h3⟩
  · intro D C h' tk ys nD rest m' i1 i2 F' N' a r
    have hD : s₁.heap.objs.size ≤ D := Nat.le_of_lt (Nat.lt_of_le_of_lt hbI i1)
    have hL' : env.locals ≠ C := fun q => by
      have l := F.ns.lt
      rw [q] at l
      exact absurd l (Nat.not_lt.mpr (Nat.le_of_lt (Nat.lt_of_le_of_lt hD i2)))
    have lt : ∀ b o, s₁.heap.get? b = some o → b ≠ C := fun b o e => Nat.ne_of_lt (Nat.lt_of_lt_of_le (Heap.lt_size e) (Nat.le_of_lt (Nat.lt_of_le_of_lt hD i2)))
    have dn : ∀ p ∈ (D, PySem.W.listOf (List.toArray ys) nD) :: rest, p.1 ≠ env.locals ∧ h₀.get? p.1 = none := fun p hp => by
      have z := (N' p hp).2.2
      refine ⟨fun q => ?_, ?_⟩
      · rw [q] at z; obtain ⟨o, _, _, ho, _⟩ := F.ns; rw [ho] at z; cases z
      · cases q : h₀.get? p.1 with
        | none => rfl
        | some o => rw [F.keep _ _ q] at z; cases z
    have hlt : ∀ p ∈ news, p.1 < D := fun p hp => Nat.lt_of_lt_of_le (Heap.lt_size (N p hp).1) hD
    show wpAny _ A (assign (.Name y py) env (.ref D)) _ _ _
    have FL : Fr h₀ env.locals h' m := fr_stays F F'.keep
    refine wpAny_assign_Name (wpAny_storeName_local hy FL.ns (fun h₃ hn₃ hs₃ => ?_) hp)
    refine ⟨m', F'.ns.sameBut hs₃ (Ne.symm hL'), fun h'' hs'' => ?_⟩
    have F₃ : Fr h₀ env.locals h₃ (fun z => if z = y then some (.ref D) else m z) := FL.set hn₃ hs₃
    have k3 : ∀ b o, b ≠ env.locals → s₁.heap.get? b = some o → h''.get? b = some o := fun b o hb e => hs''.extBut b o (lt b o e) (hs₃.extBut b o hb (F'.keep b o e))
    have F'' : Fr h₀ env.locals h'' (fun z => if z = y then some (.ref D) else m z) := ⟨F₃.ns.sameBut hs'' hL', fun b o e => hs''.extBut b o (lt b o (F.keep b o e)) (F₃.keep b o e), F.above⟩
    refine fin D h'' _ ys nD rest hD hlt ?_ a F''
    intro p hp
    have old : ∀ q ∈ (D, PySem.W.listOf (List.toArray ys) nD) :: rest, q.1 ≠ C → h''.get? q.1 = some q.2 := fun q hq hc => hs''.extBut _ _ hc (hs₃.extBut _ _ (dn q hq).1 (N' q hq).1)
    rcases List.mem_cons.mp hp with rfl | hp
    · exact ⟨old _ (.head _) (Nat.ne_of_lt i2), dn _ (.head _)⟩
    · rcases List.mem_append.mp hp with hp | hp
      · exact ⟨old _ (.tail _ hp) (N' _ (.tail _ hp)).2.1, dn _ (.tail _ hp)⟩
      · exact ⟨k3 _ _ (N p hp).2.1 (N p hp).1, (N p hp).2⟩

def CGoC {α β : Type} (prog : Program) (w : World) (A : Around) (h₀ : Heap) (L : Addr) (m : Str → Option Value) (env : Env) (elt : PySem.Expr) (x : Str) (ifs : List PySem.Expr) (scope : Scope) (cl : List (Str × Addr)) (as : List α) (pz : α → Bool) (f : α → β) (Rv : Value → α → Prop) (G : Value → β → Led → Prop)
    (Fin : Led → Heap → Addr → List Value → Nat → Led → Shared → Prop) (xv : Value) (s₁ : Shared) : Prop :=
  ∃ news, Fr h₀ L s₁.heap m ∧ News h₀ L s₁.heap news ∧ Src prog w A s₁ xv as Rv ∧
  (∀ C I D c a v h tk m₂ oc oI oD rest E', s₁.heap.objs.size ≤ I → I < D → D < C → C < c → a ∈ as → Rv v a → oc.data = .cell (some v) → Fr s₁.heap C h m₂ → News s₁.heap C h ([(c, oc), (I, oI), (D, oD)] ++ rest) →
    wpAny (model prog w) A (forIn ifs true fun e r => if r = true then do let ok ← isTrue e (compEnvC scope ((x, c) :: cl) C env) (eval e (compEnvC scope ((x, c) :: cl) C env)); pure (ForInStep.yield ok) else pure (ForInStep.yield r))
      (TestEnd s₁.heap C m₂ ([(c, oc), (I, oI), (D, oD)] ++ rest) (pz a) { s₁ with heap := h, toks := tk }) E' { s₁ with heap := h, toks := tk }) ∧
  (∀ C I D c a v h tk m₂ oc oI oD rest E', s₁.heap.objs.size ≤ I → I < D → D < C → C < c → a ∈ as → pz a = true → Rv v a → oc.data = .cell (some v) → Fr s₁.heap C h m₂ → News s₁.heap C h ([(c, oc), (I, oI), (D, oD)] ++ rest) →
    wpAny (model prog w) A (eval elt (compEnvC scope ((x, c) :: cl) C env)) (EltEnd s₁.heap C I D m₂ [(c, oc), (I, oI), (D, oD)] rest G (f a) { s₁ with heap := h, toks := tk }) E' { s₁ with heap := h, toks := tk }) ∧
  (∀ D h' tk ys nD rest, s₁.heap.objs.size ≤ D → (∀ p ∈ news, p.1 < D) → News h₀ L h' ((D, PySem.W.listOf (List.toArray ys) nD) :: (rest ++ news)) → Ares G rest ys ((as.filter pz).map f) → Fin news h' D ys nD rest { s₁ with heap := h', toks := tk })

theorem compEC {α β : Type} {elt iter : PySem.Expr} {x : Str} {px : Pos} {ifs : List PySem.Expr} {scope : Scope} {cl : List (Str × Addr)} {pos : Pos} {Q : Value → Shared → Prop} (as : List α) (pz : α → Bool) (f : α → β) (Rv : Value → α → Prop) (G : Value → β → Led → Prop)
    (hclos : closureFor scope env = pure cl) (hcells : ∀ k acc, cellsFrom k scope.names acc = (x, k) :: acc) (hpush : ∀ h : Heap, pushCells h scope.names = h.push { cls := .type "cell", data := .cell none }) (hkind : scope.kind = .function)
    (hnames : ∀ y ∈ scope.names, y.2 = .local → scope.names.lookup y.1 = some .local) (hx : scope.names.lookup x = some .cell) (hGm : ∀ y b l l', (∀ p ∈ l, p ∈ l') → G y b l → G y b l')
    (h : wpAny (model prog w) A (eval iter env) (CGoC prog w A h₀ L m env elt x ifs scope cl as pz f Rv G (fun _ h' D _ _ _ s' => Fr h₀ L h' m → Q (.ref D) s')) E s)
    (hs : ∀ x, foldedSetIterable iter env x = pure x) :
    wpAny (model prog w) A (eval (.ListComp elt [⟨.Name x px, iter, ifs, 0⟩] scope pos) env) Q E s := by
  rw [eval_ListComp]
  refine wpAny_comprehension_free (use := none) rfl hs hclos hkind hnames (wpAny_mono h (fun xv s₁ h₁ => ?_) fun _ _ e => e)
  obtain ⟨news, F, N, ⟨hsz, src⟩, tests, elts, fin⟩ := h₁
  refine src _ _ fun I fp P St h₂ tk₂ W hP hlive hfp hbI hI2 hk hst => ?_
  refine blockC (hb := s₁.heap) (s₂ := { s₁ with heap := h₂, toks := tk₂ }) (as := as) (pz := pz) (f := f) (Rv := Rv) (G := G) (RR := fun acc C => compPost (model prog w) A E none Q acc C) W rfl hP hlive hfp hbI hI2 hk hst hGm hsz hcells hpush hkind hx ?_ ?_ ?_
  · intro C D c a v h tk m₂ oc oI oD rest E' i1 i2 i3 hm hr hv F N
    exact tests C I D c a v h tk m₂ oc oI oD rest E' hbI i1 i2 i3 hm hr hv F N
  · intro C D c a v h tk m₂ oc oI oD rest E' i1 i2 i3 hm hpz hr hv F N
    refine wpAny_mono (elts C I D c a v h tk m₂ oc oI oD rest E' hbI i1 i2 i3 hm hpz hr hv F N) (fun y s' hy => ?_) fun _ _ e => e
    obtain ⟨added, h1, h2, h3⟩ := hy
    exact ⟨added, h1, fun p hp => ⟨(h2 p hp).1, (h2 p hp).2.1, (h2 p hp).2.2 (c, oc) (.head _)⟩, by simpa using h3⟩
  · intro D C h' tk ys nD rest m' i1 i2 F' N' a r
    have hD : s₁.heap.objs.size ≤ D := Nat.le_of_lt (Nat.lt_of_le_of_lt hbI i1)
    have hL' : L ≠ C := fun q => by
      have l := F.ns.lt
      rw [q] at l
      exact absurd l (Nat.not_lt.mpr (Nat.le_of_lt (Nat.lt_of_le_of_lt hD i2)))
    have lt : ∀ b o, s₁.heap.get? b = some o → b ≠ C := fun b o e => Nat.ne_of_lt (Nat.lt_of_lt_of_le (Heap.lt_size e) (Nat.le_of_lt (Nat.lt_of_le_of_lt hD i2)))
    have dn : ∀ p ∈ (D, PySem.W.listOf (List.toArray ys) nD) :: rest, p.1 ≠ L ∧ h₀.get? p.1 = none := fun p hp => by
      have z := (N' p hp).2.2
      refine ⟨fun q => ?_, ?_⟩
      · rw [q] at z; obtain ⟨o, _, _, ho, _⟩ := F.ns; rw [ho] at z; cases z
      · cases q : h₀.get? p.1 with
        | none => rfl
        | some o => rw [F.keep _ _ q] at z; cases z
    have hlt : ∀ p ∈ news, p.1 < D := fun p hp => Nat.lt_of_lt_of_le (Heap.lt_size (N p hp).1) hD
    refine ⟨m', F'.ns, fun h'' hs'' => ?_⟩
    have k'' : ∀ b o, s₁.heap.get? b = some o → h''.get? b = some o := fun b o e => hs''.extBut b o (lt b o e) (F'.keep b o e)
    refine fin D h'' tk ys nD rest hD hlt ?_ a (fr_stays F k'')
    intro p hp
    rcases List.mem_cons.mp hp with rfl | hp
    · exact ⟨hs''.extBut _ _ (Nat.ne_of_lt i2) (N' _ (.head _)).1, dn _ (.head _)⟩
    · rcases List.mem_append.mp hp with hp | hp
      · exact ⟨hs''.extBut _ _ (N' _ (.tail _ hp)).2.1 (N' _ (.tail _ hp)).1, dn _ (.tail _ hp)⟩
      · exact news_up N k'' p hp

theorem compAC {α β : Type} {elt iter : PySem.Expr} {x y : Str} {px py : Pos} {ifs : List PySem.Expr} {scope : Scope} {cl : List (Str × Addr)} {pos spos : Pos} {Q : Flow → Shared → Prop} (as : List α) (pz : α → Bool) (f : α → β) (Rv : Value → α → Prop) (G : Value → β → Led → Prop)
    (hL : env.locals = L) (hsw : swapsWith (.ListComp elt [⟨.Name x px, iter, ifs, 0⟩] scope pos) (some (.Name y py)) spos.line env = pure true)
    (hy : env.kindOf y = some .local) (hp : (env.scope.kind == .class || (env.scope.kind == .module && env.locals != env.globals)) = false)
    (hclos : closureFor scope env = pure cl) (hcells : ∀ k acc, cellsFrom k scope.names acc = (x, k) :: acc) (hpush : ∀ h : Heap, pushCells h scope.names = h.push { cls := .type "cell", data := .cell none }) (hkind : scope.kind = .function)
    (hnames : ∀ y ∈ scope.names, y.2 = .local → scope.names.lookup y.1 = some .local) (hx : scope.names.lookup x = some .cell) (hGm : ∀ y b l l', (∀ p ∈ l, p ∈ l') → G y b l → G y b l')
    (h : wpAny (model prog w) A (eval iter env) (CGoC prog w A h₀ L m env elt x ifs scope cl as pz f Rv G (fun _ h' D _ _ _ s' => Fr h₀ L h' (fun z => if z = y then some (.ref D) else m z) → Q .next s')) E s)
    (hs : ∀ x, foldedSetIterable iter env x = pure x) :
    wpAny (model prog w) A (exec (.Assign [.Name y py] (.ListComp elt [⟨.Name x px, iter, ifs, 0⟩] scope pos) spos) env) Q E s := by
  subst hL
  rw [exec_Assign_Name_used _ _ _ _ hsw]
  refine wpAny_bind (wpAny_standAt (wpAny_bind ?_))
  show wpAny _ A (do let _ ← comprehension (.ListComp elt [⟨.Name x px, iter, ifs, 0⟩] scope pos) scope env _ (newList []) false (eval iter env) (some (assign (.Name y py) env))) _ _ s
  refine wpAny_bind (wpAny_mono (wpAny_comprehension_free (use := some (assign (.Name y py) env)) (Q := fun _ s' => Q .next s') rfl hs hclos hkind hnames
    (wpAny_mono h (fun xv s₁ h₁ => ?_) fun _ _ e => e)) (fun _ s' hq => wpAny_pure (wpAny_pure hq)) fun _ _ e => e)
  obtain ⟨news, F, N, ⟨hsz, src⟩, tests, elts, fin⟩ := h₁
  refine src _ _ fun I fp P St h₂ tk₂ W hP hlive hfp hbI hI2 hk hst => ?_
  refine blockC (hb := s₁.heap) (s₂ := { s₁ with heap := h₂, toks := tk₂ }) (as := as) (pz := pz) (f := f) (Rv := Rv) (G := G) (RR := fun acc C => compPost (model prog w) A E (some (assign (.Name y py) env)) (fun _ s4 => Q .next s4) acc C) W rfl hP hlive hfp hbI hI2 hk hst hGm hsz hcells hpush hkind hx ?_ ?_ ?_
  · intro C D c a v h tk m₂ oc oI oD rest E' i1 i2 i3 hm hr hv F N
    exact tests C I D c a v h tk m₂ oc oI oD rest E' hbI i1 i2 i3 hm hr hv F N
  · intro C D c a v h tk m₂ oc oI oD rest E' i1 i2 i3 hm hpz hr hv F N
    refine wpAny_mono (elts C I D c a v h tk m₂ oc oI oD rest E' hbI i1 i2 i3 hm hpz hr hv F N) (fun y s' hy => ?_) fun _ _ e => e
    obtain ⟨added, h1, h2, h3⟩ := hy
    exact ⟨added, h1, fun p hp => ⟨(h2 p hp).1, (h2 p hp).2.1, (h2 p hp).2.2 (c, oc) (.head _)⟩, by simpa using h3⟩
  · intro D C h' tk ys nD rest m' i1 i2 F' N' a r
    have hD : s₁.heap.objs.size ≤ D := Nat.le_of_lt (Nat.lt_of_le_of_lt hbI i1)
    have hL' : env.locals ≠ C := fun q => by
      have l := F.ns.lt
      rw [q] at l
      exact absurd l (Nat.not_lt.mpr (Nat.le_of_lt (Nat.lt_of_le_of_lt hD i2)))
    have lt : ∀ b o, s₁.heap.get? b = some o → b ≠ C := fun b o e => Nat.ne_of_lt (Nat.lt_of_lt_of_le (Heap.lt_size e) (Nat.le_of_lt (Nat.lt_of_le_of_lt hD i2)))
    have dn : ∀ p ∈ (D, PySem.W.listOf (List.toArray ys) nD) :: rest, p.1 ≠ env.locals ∧ h₀.get? p.1 = none := fun p hp => by
      have z := (N' p hp).2.2
      refine ⟨fun q => ?_, ?_⟩
      · rw [q] at z; obtain ⟨o, _, _, ho, _⟩ := F.ns; rw [ho] at z; cases z
      · cases q : h₀.get? p.1 with
        | none => rfl
        | some o => rw [F.keep _ _ q] at z; cases z
    have hlt : ∀ p ∈ news, p.1 < D := fun p hp => Nat.lt_of_lt_of_le (Heap.lt_size (N p hp).1) hD
    show wpAny _ A (assign (.Name y py) env (.ref D)) _ _ _
    have FL : Fr h₀ env.locals h' m := fr_stays F F'.keep
    refine wpAny_assign_Name (wpAny_storeName_local hy FL.ns (fun h₃ hn₃ hs₃ => ?_) hp)
    refine ⟨m', F'.ns.sameBut hs₃ (Ne.symm hL'), fun h'' hs'' => ?_⟩
    have F₃ : Fr h₀ env.locals h₃ (fun z => if z = y then some (.ref D) else m z) := FL.set hn₃ hs₃
    have k3 : ∀ b o, b ≠ env.locals → s₁.heap.get? b = some o → h''.get? b = some o := fun b o hb e => hs''.extBut b o (lt b o e) (hs₃.extBut b o hb (F'.keep b o e))
    have F'' : Fr h₀ env.locals h'' (fun z => if z = y then some (.ref D) else m z) := ⟨F₃.ns.sameBut hs'' hL', fun b o e => hs''.extBut b o (lt b o (F.keep b o e)) (F₃.keep b o e), F.above⟩
    refine fin D h'' _ ys nD rest hD hlt ?_ a F''
    intro p hp
    have old : ∀ q ∈ (D, PySem.W.listOf (List.toArray ys) nD) :: rest, q.1 ≠ C → h''.get? q.1 = some q.2 := fun q hq hc => hs''.extBut _ _ hc (hs₃.extBut _ _ (dn q hq).1 (N' q hq).1)
    rcases List.mem_cons.mp hp with rfl | hp
    · exact ⟨old _ (.head _) (Nat.ne_of_lt i2), dn _ (.head _)⟩
    · rcases List.mem_append.mp hp with hp | hp
      · exact ⟨old _ (.tail _ hp) (N' _ (.tail _ hp)).2.1, dn _ (.tail _ hp)⟩
      · exact ⟨k3 _ _ (N p hp).2.1 (N p hp).1, (N p hp).2⟩
end
end
/-! Comp5 -/
section
def EltP {β : Type} (hb : Heap) (C : Addr) (m : Str → Option Value) (led : Led) (R' : Value → β → Prop) (b : β) (s : Shared) (y : Value) (s' : Shared) : Prop := R' y b ∧ TEnd hb C m led s s'
theorem Ares.are {β : Type} {R' : Value → β → Prop} {led : Led} : ∀ {ys : List Value} {bs : List β}, Ares (fun v b _ => R' v b) led ys bs → Are R' ys bs
  | _, _, .nil => .nil
  | _, _, .cons g r => .cons g r.are

section
variable {prog : Program} {w : World} {A : Around} {E : Value → Shared → Prop} {env : Env} {s : Shared} {h₀ : Heap} {L : Addr} {m : Str → Option Value} {news : Led} {K : Frag} {p : Program} {loose : List Str} {mean : ExcName → Option Value} {mg mb : Str → Option Value}

theorem compNEL {α β : Type} {elt iter : PySem.Expr} {x : Str} {px pos : Pos} {ifs : List PySem.Expr} {scope : Scope} {cl : List (Str × Addr)} {Q : Value → Shared → Prop} {as : List α} {xv : Value} {Rv : Value → α → Prop} (pz : α → Bool) (f : α → β) (R' : Value → β → Prop)
    (F : Fr h₀ L s.heap m) (N : News h₀ L s.heap news) (X : K.In h₀) (T : Top p loose mean mg mb h₀) (src : Src prog w A s xv as Rv)
    (hit : ∀ (Q : Value → Shared → Prop), Q xv s → wpAny (model prog w) A (eval iter env) Q E s)
    (hclos : closureFor scope env = pure cl) (hcell : ∀ y ∈ scope.names, y.2 ≠ .cell) (hkind : scope.kind = .function)
    (hnames : ∀ y ∈ scope.names, y.2 = .local → scope.names.lookup y.1 = some .local) (hx : scope.names.lookup x = some .local) (hs : ∀ x, foldedSetIterable iter env x = pure x)
    (tests : ∀ C I D a v h tk m₂ oI oD rest E', s.heap.objs.size ≤ I → I < D → D < C → a ∈ as → Rv v a → m₂ x = some v → Fr s.heap C h m₂ → News s.heap C h ((I, oI) :: (D, oD) :: rest) → K.In s.heap → Top p loose mean mg mb s.heap →
      wpAny (model prog w) A (forIn ifs true fun e r => if r = true then do let ok ← isTrue e (compEnvC scope cl C env) (eval e (compEnvC scope cl C env)); pure (ForInStep.yield ok) else pure (ForInStep.yield r))
        (TestEnd s.heap C m₂ ((I, oI) :: (D, oD) :: rest) (pz a) { s with heap := h, toks := tk }) E' { s with heap := h, toks := tk })
    (elts : ∀ C I D a v h tk m₂ oI oD rest E', s.heap.objs.size ≤ I → I < D → D < C → a ∈ as → pz a = true → Rv v a → m₂ x = some v → Fr s.heap C h m₂ → News s.heap C h ((I, oI) :: (D, oD) :: rest) → K.In s.heap → Top p loose mean mg mb s.heap →
      wpAny (model prog w) A (eval elt (compEnvC scope cl C env)) (EltP s.heap C m₂ ((I, oI) :: (D, oD) :: rest) R' (f a) { s with heap := h, toks := tk }) E' { s with heap := h, toks := tk })
    (fin : ∀ D h' tk ys nD, (∀ p ∈ news, p.1 < D) → Fr h₀ L h' m → News h₀ L h' ((D, PySem.W.listOf (List.toArray ys) nD) :: news) → Are R' ys ((as.filter pz).map f) → Q (.ref D) { s with heap := h', toks := tk }) :
    wpAny (model prog w) A (eval (.ListComp elt [⟨.Name x px, iter, ifs, 0⟩] scope pos) env) Q E s := by
  refine compEL (h₀ := h₀) (L := L) (m := m) as pz f Rv (fun v b _ => R' v b) hclos hcell hkind hnames hx (fun _ _ _ _ _ g => g) (hit _ ⟨news, F, N, src, ?_, ?_, ?_⟩) hs
  · intro C I D a v h tk m₂ oI oD rest E' i0 i1 i2 hm hr hv F' N'
    exact tests C I D a v h tk m₂ oI oD rest E' i0 i1 i2 hm hr hv F' N' (X.keeps F.keep) (T.keeps F.keep)
  · intro C I D a v h tk m₂ oI oD rest E' i0 i1 i2 hm hpz hr hv F' N'
    refine wpAny_mono (elts C I D a v h tk m₂ oI oD rest E' i0 i1 i2 hm hpz hr hv F' N' (X.keeps F.keep) (T.keeps F.keep)) (fun y s' hy => ?_) fun _ _ e => e
    exact ⟨[], hy.1, (fun _ h => nomatch h), hy.2⟩
  · intro D h' tk ys nD rest hD hlt N' hA F'
    refine fin D h' tk ys nD hlt F' (fun p hp => N' p ?_) hA.are
    rcases List.mem_cons.mp hp with rfl | hp
    · exact .head _
    · exact .tail _ (List.mem_append.mpr (.inr hp))

theorem compNAL {α β : Type} {elt iter : PySem.Expr} {x : Str} {yv : Str} {px py pos spos : Pos} {ifs : List PySem.Expr} {scope : Scope} {cl : List (Str × Addr)} {Q : Flow → Shared → Prop} {as : List α} {xv : Value} {Rv : Value → α → Prop} (pz : α → Bool) (f : α → β) (R' : Value → β → Prop)
    (F : Fr h₀ L s.heap m) (N : News h₀ L s.heap news) (X : K.In h₀) (T : Top p loose mean mg mb h₀) (src : Src prog w A s xv as Rv)
    (hit : ∀ (Q : Value → Shared → Prop), Q xv s → wpAny (model prog w) A (eval iter env) Q E s)
    (hL : env.locals = L) (hsw : swapsWith (.ListComp elt [⟨.Name x px, iter, ifs, 0⟩] scope pos) (some (.Name yv py)) spos.line env = pure true)
    (hy : env.kindOf yv = some .local) (hp : (env.scope.kind == .class || (env.scope.kind == .module && env.locals != env.globals)) = false)
    (hclos : closureFor scope env = pure cl) (hcell : ∀ y ∈ scope.names, y.2 ≠ .cell) (hkind : scope.kind = .function)
    (hnames : ∀ y ∈ scope.names, y.2 = .local → scope.names.lookup y.1 = some .local) (hx : scope.names.lookup x = some .local) (hs : ∀ x, foldedSetIterable iter env x = pure x)
    (tests : ∀ C I D a v h tk m₂ oI oD rest E', s.heap.objs.size ≤ I → I < D → D < C → a ∈ as → Rv v a → m₂ x = some v → Fr s.heap C h m₂ → News s.heap C h ((I, oI) :: (D, oD) :: rest) → K.In s.heap → Top p loose mean mg mb s.heap →
      wpAny (model prog w) A (forIn ifs true fun e r => if r = true then do let ok ← isTrue e (compEnvC scope cl C env) (eval e (compEnvC scope cl C env)); pure (ForInStep.yield ok) else pure (ForInStep.yield r))
        (TestEnd s.heap C m₂ ((I, oI) :: (D, oD) :: rest) (pz a) { s with heap := h, toks := tk }) E' { s with heap := h, toks := tk })
    (elts : ∀ C I D a v h tk m₂ oI oD rest E', s.heap.objs.size ≤ I → I < D → D < C → a ∈ as → pz a = true → Rv v a → m₂ x = some v → Fr s.heap C h m₂ → News s.heap C h ((I, oI) :: (D, oD) :: rest) → K.In s.heap → Top p loose mean mg mb s.heap →
      wpAny (model prog w) A (eval elt (compEnvC scope cl C env)) (EltP s.heap C m₂ ((I, oI) :: (D, oD) :: rest) R' (f a) { s with heap := h, toks := tk }) E' { s with heap := h, toks := tk })
    (fin : ∀ D h' tk ys nD, (∀ p ∈ news, p.1 < D) → Fr h₀ L h' (fun z => if z = yv then some (.ref D) else m z) → News h₀ L h' ((D, PySem.W.listOf (List.toArray ys) nD) :: news) → Are R' ys ((as.filter pz).map f) → Q .next { s with heap := h', toks := tk }) :
    wpAny (model prog w) A (exec (.Assign [.Name yv py] (.ListComp elt [⟨.Name x px, iter, ifs, 0⟩] scope pos) spos) env) Q E s := by
  refine compAL (h₀ := h₀) (L := L) (m := m) as pz f Rv (fun v b _ => R' v b) hL hsw hy hp hclos hcell hkind hnames hx (fun _ _ _ _ _ g => g) (hit _ ⟨news, F, N, src, ?_, ?_, ?_⟩) hs
  · intro C I D a v h tk m₂ oI oD rest E' i0 i1 i2 hm hr hv F' N'
    exact tests C I D a v h tk m₂ oI oD rest E' i0 i1 i2 hm hr hv F' N' (X.keeps F.keep) (T.keeps F.keep)
  · intro C I D a v h tk m₂ oI oD rest E' i0 i1 i2 hm hpz hr hv F' N'
    refine wpAny_mono (elts C I D a v h tk m₂ oI oD rest E' i0 i1 i2 hm hpz hr hv F' N' (X.keeps F.keep) (T.keeps F.keep)) (fun y s' hy => ?_) fun _ _ e => e
    exact ⟨[], hy.1, (fun _ h => nomatch h), hy.2⟩
  · intro D h' tk ys nD rest hD hlt N' hA F'
    refine fin D h' tk ys nD hlt F' (fun p hp => N' p ?_) hA.are
    rcases List.mem_cons.mp hp with rfl | hp
    · exact .head _
    · exact .tail _ (List.mem_append.mpr (.inr hp))

theorem compNEC {α β : Type} {elt iter : PySem.Expr} {x : Str} {px pos : Pos} {ifs : List PySem.Expr} {scope : Scope} {cl : List (Str × Addr)} {Q : Value → Shared → Prop} {as : List α} {xv : Value} {Rv : Value → α → Prop} (pz : α → Bool) (f : α → β) (R' : Value → β → Prop)
    (F : Fr h₀ L s.heap m) (N : News h₀ L s.heap news) (X : K.In h₀) (T : Top p loose mean mg mb h₀) (src : Src prog w A s xv as Rv)
    (hit : ∀ (Q : Value → Shared → Prop), Q xv s → wpAny (model prog w) A (eval iter env) Q E s)
    (hclos : closureFor scope env = pure cl) (hcells : ∀ k acc, cellsFrom k scope.names acc = (x, k) :: acc) (hpush : ∀ h : Heap, pushCells h scope.names = h.push { cls := .type "cell", data := .cell none }) (hkind : scope.kind = .function)
    (hnames : ∀ y ∈ scope.names, y.2 = .local → scope.names.lookup y.1 = some .local) (hx : scope.names.lookup x = some .cell) (hs : ∀ x, foldedSetIterable iter env x = pure x)
    (tests : ∀ C I D c a v h tk m₂ oc oI oD rest E', s.heap.objs.size ≤ I → I < D → D < C → C < c → a ∈ as → Rv v a → oc.data = .cell (some v) → Fr s.heap C h m₂ → News s.heap C h ((c, oc) :: (I, oI) :: (D, oD) :: rest) → K.In s.heap → Top p loose mean mg mb s.heap →
      wpAny (model prog w) A (forIn ifs true fun e r => if r = true then do let ok ← isTrue e (compEnvC scope ((x, c) :: cl) C env) (eval e (compEnvC scope ((x, c) :: cl) C env)); pure (ForInStep.yield ok) else pure (ForInStep.yield r))
        (TestEnd s.heap C m₂ ((c, oc) :: (I, oI) :: (D, oD) :: rest) (pz a) { s with heap := h, toks := tk }) E' { s with heap := h, toks := tk })
    (elts : ∀ C I D c a v h tk m₂ oc oI oD rest E', s.heap.objs.size ≤ I → I < D → D < C → C < c → a ∈ as → pz a = true → Rv v a → oc.data = .cell (some v) → Fr s.heap C h m₂ → News s.heap C h ((c, oc) :: (I, oI) :: (D, oD) :: rest) → K.In s.heap → Top p loose mean mg mb s.heap →
      wpAny (model prog w) A (eval elt (compEnvC scope ((x, c) :: cl) C env)) (EltP s.heap C m₂ ((c, oc) :: (I, oI) :: (D, oD) :: rest) R' (f a) { s with heap := h, toks := tk }) E' { s with heap := h, toks := tk })
    (fin : ∀ D h' tk ys nD, (∀ p ∈ news, p.1 < D) → Fr h₀ L h' m → News h₀ L h' ((D, PySem.W.listOf (List.toArray ys) nD) :: news) → Are R' ys ((as.filter pz).map f) → Q (.ref D) { s with heap := h', toks := tk }) :
    wpAny (model prog w) A (eval (.ListComp elt [⟨.Name x px, iter, ifs, 0⟩] scope pos) env) Q E s := by
  refine compEC (h₀ := h₀) (L := L) (m := m) as pz f Rv (fun v b _ => R' v b) hclos hcells hpush hkind hnames hx (fun _ _ _ _ _ g => g) (hit _ ⟨news, F, N, src, ?_, ?_, ?_⟩) hs
  · intro C I D c a v h tk m₂ oc oI oD rest E' i0 i1 i2 i3 hm hr hv F' N'
    exact tests C I D c a v h tk m₂ oc oI oD rest E' i0 i1 i2 i3 hm hr hv F' N' (X.keeps F.keep) (T.keeps F.keep)
  · intro C I D c a v h tk m₂ oc oI oD rest E' i0 i1 i2 i3 hm hpz hr hv F' N'
    refine wpAny_mono (elts C I D c a v h tk m₂ oc oI oD rest E' i0 i1 i2 i3 hm hpz hr hv F' N' (X.keeps F.keep) (T.keeps F.keep)) (fun y s' hy => ?_) fun _ _ e => e
    exact ⟨[], hy.1, (fun _ h => nomatch h), hy.2⟩
  · intro D h' tk ys nD rest hD hlt N' hA F'
    refine fin D h' tk ys nD hlt F' (fun p hp => N' p ?_) hA.are
    rcases List.mem_cons.mp hp with rfl | hp
    · exact .head _
    · exact .tail _ (List.mem_append.mpr (.inr hp))

theorem compNAC {α β : Type} {elt iter : PySem.Expr} {x : Str} {yv : Str} {px py pos spos : Pos} {ifs : List PySem.Expr} {scope : Scope} {cl : List (Str × Addr)} {Q : Flow → Shared → Prop} {as : List α} {xv : Value} {Rv : Value → α → Prop} (pz : α → Bool) (f : α → β) (R' : Value → β → Prop)
    (F : Fr h₀ L s.heap m) (N : News h₀ L s.heap news) (X : K.In h₀) (T : Top p loose mean mg mb h₀) (src : Src prog w A s xv as Rv)
    (hit : ∀ (Q : Value → Shared → Prop), Q xv s → wpAny (model prog w) A (eval iter env) Q E s)
    (hL : env.locals = L) (hsw : swapsWith (.ListComp elt [⟨.Name x px, iter, ifs, 0⟩] scope pos) (some (.Name yv py)) spos.line env = pure true)
    (hy : env.kindOf yv = some .local) (hp : (env.scope.kind == .class || (env.scope.kind == .module && env.locals != env.globals)) = false)
    (hclos : closureFor scope env = pure cl) (hcells : ∀ k acc, cellsFrom k scope.names acc = (x, k) :: acc) (hpush : ∀ h : Heap, pushCells h scope.names = h.push { cls := .type "cell", data := .cell none }) (hkind : scope.kind = .function)
    (hnames : ∀ y ∈ scope.names, y.2 = .local → scope.names.lookup y.1 = some .local) (hx : scope.names.lookup x = some .cell) (hs : ∀ x, foldedSetIterable iter env x = pure x)
    (tests : ∀ C I D c a v h tk m₂ oc oI oD rest E', s.heap.objs.size ≤ I → I < D → D < C → C < c → a ∈ as → Rv v a → oc.data = .cell (some v) → Fr s.heap C h m₂ → News s.heap C h ((c, oc) :: (I, oI) :: (D, oD) :: rest) → K.In s.heap → Top p loose mean mg mb s.heap →
      wpAny (model prog w) A (forIn ifs true fun e r => if r = true then do let ok ← isTrue e (compEnvC scope ((x, c) :: cl) C env) (eval e (compEnvC scope ((x, c) :: cl) C env)); pure (ForInStep.yield ok) else pure (ForInStep.yield r))
        (TestEnd s.heap C m₂ ((c, oc) :: (I, oI) :: (D, oD) :: rest) (pz a) { s with heap := h, toks := tk }) E' { s with heap := h, toks := tk })
    (elts : ∀ C I D c a v h tk m₂ oc oI oD rest E', s.heap.objs.size ≤ I → I < D → D < C → C < c → a ∈ as → pz a = true → Rv v a → oc.data = .cell (some v) → Fr s.heap C h m₂ → News s.heap C h ((c, oc) :: (I, oI) :: (D, oD) :: rest) → K.In s.heap → Top p loose mean mg mb s.heap →
      wpAny (model prog w) A (eval elt (compEnvC scope ((x, c) :: cl) C env)) (EltP s.heap C m₂ ((c, oc) :: (I, oI) :: (D, oD) :: rest) R' (f a) { s with heap := h, toks := tk }) E' { s with heap := h, toks := tk })
    (fin : ∀ D h' tk ys nD, (∀ p ∈ news, p.1 < D) → Fr h₀ L h' (fun z => if z = yv then some (.ref D) else m z) → News h₀ L h' ((D, PySem.W.listOf (List.toArray ys) nD) :: news) → Are R' ys ((as.filter pz).map f) → Q .next { s with heap := h', toks := tk }) :
    wpAny (model prog w) A (exec (.Assign [.Name yv py] (.ListComp elt [⟨.Name x px, iter, ifs, 0⟩] scope pos) spos) env) Q E s := by
  refine compAC (h₀ := h₀) (L := L) (m := m) as pz f Rv (fun v b _ => R' v b) hL hsw hy hp hclos hcells hpush hkind hnames hx (fun _ _ _ _ _ g => g) (hit _ ⟨news, F, N, src, ?_, ?_, ?_⟩) hs
  · intro C I D c a v h tk m₂ oc oI oD rest E' i0 i1 i2 i3 hm hr hv F' N'
    exact tests C I D c a v h tk m₂ oc oI oD rest E' i0 i1 i2 i3 hm hr hv F' N' (X.keeps F.keep) (T.keeps F.keep)
  · intro C I D c a v h tk m₂ oc oI oD rest E' i0 i1 i2 i3 hm hpz hr hv F' N'
    refine wpAny_mono (elts C I D c a v h tk m₂ oc oI oD rest E' i0 i1 i2 i3 hm hpz hr hv F' N' (X.keeps F.keep) (T.keeps F.keep)) (fun y s' hy => ?_) fun _ _ e => e
    exact ⟨[], hy.1, (fun _ h => nomatch h), hy.2⟩
  · intro D h' tk ys nD rest hD hlt N' hA F'
    refine fin D h' tk ys nD hlt F' (fun p hp => N' p ?_) hA.are
    rcases List.mem_cons.mp hp with rfl | hp
    · exact .head _
    · exact .tail _ (List.mem_append.mpr (.inr hp))

-- names, in any frame
variable {x : Str} {pos : Pos} {v : Value} {Q : Value → Shared → Prop} {c : Addr} {o : Obj} {hb : Heap} {C : Addr} {m₂ : Str → Option Value} {led : Led} {M : Model}
theorem nameY_L (F : Fr hb C s.heap m₂) (hv : m₂ x = some v) (h : Q v s) (hC : env.locals = C) (hk : env.scope.kind = .function) (hx : env.kindOf x = some .local) (hd : (x == ("__debug__" : Str)) = false) : wpAny M A (eval (.Name x pos) env) Q E s := by
  subst hC; exact wpAny_Name (wpAny_loadName_local hk hx F.ns hv h) hd
theorem nameY_C (F : Fr hb C s.heap m₂) (N : News h₀ L hb news) (hm : (c, o) ∈ news) (hd : o.data = .cell (some v)) (h : Q v s) (hc : env.cells.lookup x = some c) (hk : env.scope.kind = .function) (hx : env.kindOf x = some .cell) (hn : (x == ("__debug__" : Str)) = false) :
    wpAny M A (eval (.Name x pos) env) Q E s := wpAny_Name (wpAny_loadName_cell hk hx hc ⟨o, F.keep _ _ (N.get hm), hd⟩ h) hn
theorem nameY_D (N : News hb C s.heap led) (hm : (c, o) ∈ led) (hd : o.data = .cell (some v)) (h : Q v s) (hc : env.cells.lookup x = some c) (hk : env.scope.kind = .function) (hx : env.kindOf x = some .cell) (hn : (x == ("__debug__" : Str)) = false) :
    wpAny M A (eval (.Name x pos) env) Q E s := wpAny_Name (wpAny_loadName_cell hk hx hc ⟨o, N.get hm, hd⟩ h) hn
theorem nameY_K (F : Fr hb C s.heap m₂) (X : K.In hb) (T : Top p loose mean mg mb hb) (e : nsIn K mainGlobals x = some (some v)) (h : Q v s) (hg : env.globals = mainGlobals) (hk : env.scope.kind = .function) (hx : env.kindOf x = some .globalImplicit) (hd : (x == ("__debug__" : Str)) = false) :
    wpAny M A (eval (.Name x pos) env) Q E s := Name_function_global hk hx (loadGlobal_global (env := env) (hg ▸ (T.g.keeps F.keep)) (mg_of X T.g e) h) hd
theorem nameY_B (F : Fr hb C s.heap m₂) (X : K.In hb) (T : Top p loose mean mg mb hb) (e : nsIn K mainGlobals x = some none) (hv : bootBuiltins x = some v) (hn : x ≠ "__name__") (h : Q v s) (hg : env.globals = mainGlobals) (hbn : env.builtins = builtinsNs) (hk : env.scope.kind = .function)
    (hx : env.kindOf x = some .globalImplicit) (hd : (x == ("__debug__" : Str)) = false) :
    wpAny M A (eval (.Name x pos) env) Q E s := Name_function_global hk hx (loadGlobal_builtin (env := env) (hg ▸ (T.g.keeps F.keep)) (mg_none_of X T.g e) (hbn ▸ (T.b.keeps F.keep)) ((T.builtins x hn).trans hv) h) hd
end
end
/-! Rows0 -/
section
section
variable {w : World} {A : Around} {s : Shared} {p : Program} {loose : List Str} {mean : ExcName → Option Value} {mg mb : Str → Option Value} {prog : Program} {K : Frag}
  {E : Value → Shared → Prop} {Q : Value → Shared → Prop}

theorem enterC {name qual : Str} {params : Arguments} {body : List Stmt} {scope : Scope} {dV kV doc pm cdv ct oc : Value} {an od : Option Addr} {osl : Array (Option Value)} {f : Addr} {pos : List Value} {kw : List (Str × Value)} {binds : List (Str × Value)}
    (X : K.In s.heap) (T : Top p loose mean mg mb s.heap)
    (ho : K.lookup f = some ⟨oc, od, .func (fnOf name qual params body scope dV kV doc pm an cdv ct), osl⟩) (hcd : codeIn K cdv qual = true) (hroom : A.depth < recursionLimit)
    (hbind : BindsTo s (fnOf name qual params body scope dV kV doc pm an cdv ct) ⟨pos, kw⟩ binds) (hkind : (binds.all fun y => scope.names.lookup y.1 == some .local || scope.names.lookup y.1 == some .cell) = true)
    (hnd : ((cellsFrom 0 scope.names []).map (·.1)).Nodup)
    (h : ∀ L' h₁ tk cells, Fr s.heap L' h₁ (bindL (envOfC qual scope L' f cdv).kindOf binds fun _ => none) → News s.heap L' h₁ cells →
      CellsAre (bindC (envOfC qual scope L' f cdv).kindOf binds fun _ => none) (cellsFrom (L' + 1) scope.names []) cells →
      wpAny (model prog w) (A.deeper (envOfC qual scope L' f cdv)) (execs body (envOfC qual scope L' f cdv))
        (fun fl s' => Q (match fl with | .ret v => v | _ => .none) s')
        (fun e s' => wpAny (model prog w) (A.deeper (envOfC qual scope L' f cdv)) (leaving (envOfC qual scope L' f cdv) e) (fun _ s'' => E e s'') (fun e' s'' => E e' s'') s')
        { s with heap := h₁, toks := tk })
    (hco : scope.isCoroutine = false) (hgen : scope.isGenerator = false) (hk : scope.kind = .function) : wpAny (model prog w) A (call (.ref f) pos kw) Q E s := by
  refine wpAny_call (codeAny_call_function hroom (X _ _ ho) rfl hco hgen rfl (codeRec_of X hcd) (hbind _ _ _ _ ?_))
  refine wpAny_newFunctionEnv_cells hk (kindsX hkind _) fun env' he s' x => ?_
  subst he
  refine ⟨T.nolimit.keeps x.toInCall.keep, codeAny_func ?_⟩
  obtain ⟨h₁, tk, rfl, _⟩ := x.done
  obtain ⟨cells, NC, Y⟩ := Cl.news (h₀ := s.heap) (Nat.le_refl _) fun n c hm => ⟨x.cell n c (lookup_of_mem_nodup (cellsFrom_names scope.names 0 (s.heap.objs.size + 1) [] [] rfl ▸ hnd) hm), x.above n c hm⟩
  exact h s.heap.objs.size h₁ tk cells ⟨x.toInCall.ns, x.toInCall.keep, Nat.le_refl _⟩ NC Y
end
end
/-! ForL -/
section
/-- the end of a loop's turn -/
def ForEnd (h₀ : Heap) (L I : Addr) (oI : Obj) (J : (Str → Option Value) → Led → Prop) (s : Shared) (fl : Flow) (s₂ : Shared) : Prop :=
  fl = .next ∧ ∃ h' tk' m' news', s₂ = { s with heap := h', toks := tk' } ∧ Fr h₀ L h' m' ∧ News h₀ L h' ((I, oI) :: news') ∧ (∀ p ∈ news', p.1 ≠ I) ∧ J m' news'
theorem ForEnd.intro {h₀ h' : Heap} {L I : Addr} {oI : Obj} {J : (Str → Option Value) → Led → Prop} {s : Shared} {tk' : Nat} {m' : Str → Option Value} {led : Led} (news' : Led)
    (F : Fr h₀ L h' m') (N : News h₀ L h' led) (hs : ∀ p ∈ (I, oI) :: news', p ∈ led) (hI : ∀ p ∈ news', p.1 ≠ I) (hJ : J m' news') : ForEnd h₀ L I oI J s .next { s with heap := h', toks := tk' } :=
  ⟨rfl, h', tk', m', news', rfl, F, fun p hp => N p (hs p hp), hI, hJ⟩

section
variable {prog : Program} {w : World} {A : Around} {E : Value → Shared → Prop} {s : Shared} {env : Env} {h₀ : Heap} {x : Str} {body : List Stmt} {Q : Flow → Shared → Prop}
theorem for_ints {l : Addr} {vs : List Value} {ns : List Int} {m₀ : Str → Option Value} {news : Led} {px ppx pos : Pos} {itn : Str} (J : Nat → (Str → Option Value) → Led → Prop)
    (hh : A.handled = none) (hl : h₀.IsList l vs.toArray) (hi : IntsAre vs ns) (F : Fr h₀ env.locals s.heap m₀) (N : News h₀ env.locals s.heap news) (hj : J 0 m₀ news)
    (hx : env.kindOf x = some .local) (hp : (env.scope.kind == .class || (env.scope.kind == .module && env.locals != env.globals)) = false) (hs : ∀ v, foldedSetIterable (.Name itn ppx) env v = pure v)
    (hit : ∀ (Q : Value → Shared → Prop), Q (.ref l) s → wpAny (model prog w) A (eval (.Name itn ppx) env) Q E s)
    (turn : ∀ i n t m₁ news₁ I oI h tk, ns[i]? = some n → J i m₁ news₁ → (∀ p ∈ news₁, p.1 ≠ I) → Fr h₀ env.locals h (fun y => if y = x then some (.int n t) else m₁ y) → News h₀ env.locals h ((I, oI) :: news₁) →
      wpAny (model prog w) A (execs body env) (ForEnd h₀ env.locals I oI (J (i + 1)) { s with heap := h, toks := tk }) E { s with heap := h, toks := tk })
    (done : ∀ m₁ news₁ h tk, J ns.length m₁ news₁ → Fr h₀ env.locals h m₁ → News h₀ env.locals h news₁ → Q .next { s with heap := h, toks := tk })
    (hE : PassesOwn (model prog w) A env E) :
    wpAny (model prog w) A (exec (.For (.Name x px) (.Name itn ppx) body [] pos) env) Q E s := by
  refine For_invV h₀ hx hp (hit _ ?_) hs hE
  have hls : s.heap.IsList l vs.toArray := hl.at fun o e => F.keep l o e
  obtain ⟨ol, hol, _⟩ := id hl
  have hlt : l < h₀.objs.size := Heap.lt_size hol
  have hne : l ≠ s.heap.objs.size := Nat.ne_of_lt (Nat.lt_trans (Nat.lt_of_lt_of_le hlt F.above) F.ns.lt)
  refine wpAny_pyIter_list hls ?_
  have W := Walks.list (prog := prog) (w := w) hh s.heap.objs.size l hne vs.toArray
  have hlen : vs.toArray.size = ns.length := by simp [hi.length]
  rw [hlen] at W
  refine ⟨s.heap.objs.size, [s.heap.objs.size, l], [s.heap.objs.size], ns.length, _, _, m₀, news, J, rfl, W, ?_, ?_, ?_, ⟨⟨_, Heap.get?_push_size _ rfl, rfl, rfl⟩, hls.at fun o e => Heap.get?_push_of_some _ e⟩, F.push _, (fun p hp => ⟨Heap.get?_push_of_some _ (N p hp).1, (N p hp).2⟩), hj, ?_, ?_⟩
  · intro hm
    rcases List.mem_cons.mp hm with e | hm
    · exact absurd F.ns.lt (e ▸ Nat.lt_irrefl _)
    · exact absurd (Nat.lt_of_lt_of_le hlt F.above) ((List.mem_singleton.mp hm) ▸ Nat.lt_irrefl _)
  · intro b hb
    rw [List.mem_singleton.mp hb]
    exact next_is_new F
  · intro p hp hI
    exact absurd (Heap.lt_size (N p hp).1) ((List.mem_singleton.mp hI) ▸ Nat.lt_irrefl _)
  · rintro i v m₁ news₁ s₁ own ⟨hh', tk', rfl⟩ hin hP hJ hoff hfpo hheld hall hst F₁ N₁
    have hlt' : i < ns.length := hin
    obtain ⟨t, hx'⟩ := hi.get i ns[i] (by simp [hlt'])
    have hv : v = .int ns[i] t := by
      have hP' : vs[i]? = some v := by simpa using hP
      rw [hx'] at hP'; exact (Option.some.inj hP').symm
    subst hv
    obtain ⟨⟨oI, hoI, _⟩, _⟩ := hst
    have hmI : (s.heap.objs.size, oI) ∈ own := hall _ (.head _) (next_is_new F) oI hoI
    have offI : ∀ p ∈ news₁, p.1 ≠ s.heap.objs.size := fun p hp e => hoff p hp (by simp [e])
    have N₂ : News h₀ env.locals hh' ((s.heap.objs.size, oI) :: news₁) := fun p hp => by
      rcases List.mem_cons.mp hp with rfl | hp
      · exact N₁ _ (List.mem_append.mpr (.inl hmI))
      · exact N₁ _ (List.mem_append.mpr (.inr hp))
    refine wpAny_mono (turn i ns[i] t m₁ news₁ s.heap.objs.size oI hh' tk' (by simp [hlt']) hJ offI F₁ N₂) (fun f s₂ p => ?_) fun _ _ e => e
    obtain ⟨rfl, h', tk'', m', news', rfl, F', N', hI', hJ'⟩ := p
    refine .next ⟨rfl, h', tk'', m', news', rfl, F', ?_, fun p hp q => hI' p hp (by simpa using q), hJ'⟩
    intro p hp
    rcases List.mem_append.mp hp with hp | hp
    · have z := N₁ p (List.mem_append.mpr (.inl hp))
      rcases List.mem_cons.mp (hfpo p hp) with e | e
      · have e2 : p.2 = oI := by
          have := z.1; rw [e, hoI] at this; exact (Option.some.inj this).symm
        have e3 : p = (s.heap.objs.size, oI) := Prod.ext e e2
        rw [e3]; exact N' _ (.head _)
      · have e' := List.mem_singleton.mp e
        have := z.2.2
        rw [e', hol] at this; cases this
    · exact N' p (.tail _ hp)
  · rintro h' tk m' news' F' N' _ hJ
    exact done m' news' h' tk hJ F' N'
end
end
/-! Plain -/
section
/-- a text of one to three small signs as a number, in the order of texts -/
def enc : List Nat → Int
  | [a] => ((a : Int) + 1) * 1000000
  | [a, b] => ((a : Int) + 1) * 1000000 + ((b : Int) + 1) * 1000
  | [a, b, c] => ((a : Int) + 1) * 1000000 + ((b : Int) + 1) * 1000 + ((c : Int) + 1)
  | _ => 0
inductive Short : List Nat → Prop
  | one {a : Nat} : a < 998 → Short [a]
  | two {a b : Nat} : a < 998 → b < 998 → Short [a, b]
  | three {a b c : Nat} : a < 998 → b < 998 → c < 998 → Short [a, b, c]
theorem nil_lt_cons' {a : Nat} {l : List Nat} : ([] : List Nat) < a :: l := List.nil_lt_cons _ _
theorem not_lt_nil' {l : List Nat} : ¬ l < ([] : List Nat) := List.not_lt_nil _
theorem lex3 {x y z u v w : Nat} (hy : y < 1000) (hz : z < 1000) (hv : v < 1000) (hw : w < 1000) :
    ((x : Int) * 1000000 + (y : Int) * 1000 + (z : Int) < (u : Int) * 1000000 + (v : Int) * 1000 + (w : Int)) ↔ (x < u ∨ (x = u ∧ (y < v ∨ (y = v ∧ z < w)))) := by
  rcases Nat.lt_trichotomy x u with h | h | h
  · exact ⟨fun _ => .inl h, fun _ => by omega⟩
  · subst h
    rcases Nat.lt_trichotomy y v with h | h | h
    · exact ⟨fun _ => .inr ⟨rfl, .inl h⟩, fun _ => by omega⟩
    · subst h
      exact ⟨fun _ => .inr ⟨rfl, .inr ⟨rfl, by omega⟩⟩, fun q => by omega⟩
    · exact ⟨fun _ => by omega, fun q => by omega⟩
  · exact ⟨fun _ => by omega, fun q => by omega⟩
theorem enc1 (a : Nat) : enc [a] = ((a + 1 : Nat) : Int) * 1000000 + ((0 : Nat) : Int) * 1000 + ((0 : Nat) : Int) := by simp [enc]
theorem enc2 (a b : Nat) : enc [a, b] = ((a + 1 : Nat) : Int) * 1000000 + ((b + 1 : Nat) : Int) * 1000 + ((0 : Nat) : Int) := by simp [enc]
theorem enc3 (a b c : Nat) : enc [a, b, c] = ((a + 1 : Nat) : Int) * 1000000 + ((b + 1 : Nat) : Int) * 1000 + ((c + 1 : Nat) : Int) := by simp [enc]
theorem k998 {a : Nat} (h : a < 998) : a + 1 < 1000 := Nat.lt_trans (Nat.add_lt_add_right h 1) (by decide)
theorem k0 : 0 < 1000 := by decide
theorem enc_lt {l l' : List Nat} (h : Short l) (h' : Short l') : l < l' ↔ enc l < enc l' := by
  cases h with
  | one a => cases h' with
    | one b => rw [enc1, enc1, lex3 k0 k0 k0 k0]; simp [List.cons_lt_cons_iff]
    | two b b2 => rw [enc1, enc2, lex3 k0 k0 (k998 b2) k0]; simp [List.cons_lt_cons_iff]
    | three b b2 b3 => rw [enc1, enc3, lex3 k0 k0 (k998 b2) (k998 b3)]; simp [List.cons_lt_cons_iff]
  | two a a2 => cases h' with
    | one b => rw [enc2, enc1, lex3 (k998 a2) k0 k0 k0]; simp [List.cons_lt_cons_iff]
    | two b b2 => rw [enc2, enc2, lex3 (k998 a2) k0 (k998 b2) k0]; simp [List.cons_lt_cons_iff]
    | three b b2 b3 => rw [enc2, enc3, lex3 (k998 a2) k0 (k998 b2) (k998 b3)]; simp [List.cons_lt_cons_iff]
  | three a a2 a3 => cases h' with
    | one b => rw [enc3, enc1, lex3 (k998 a2) (k998 a3) k0 k0]; simp [List.cons_lt_cons_iff]
    | two b b2 => rw [enc3, enc2, lex3 (k998 a2) (k998 a3) (k998 b2) k0]; simp [List.cons_lt_cons_iff]
    | three b b2 b3 => rw [enc3, enc3, lex3 (k998 a2) (k998 a3) (k998 b2) (k998 b3)]; simp [List.cons_lt_cons_iff]

theorem pic_short (x : Int) : Short (picN x).cps.toList := by
  unfold picN lowPic
  have h1 := Int.emod_nonneg x (show (128 : Int) ≠ 0 by decide)
  have h2 := Int.emod_lt_of_pos x (show (0 : Int) < 128 by decide)
  (repeat' split)
  · exact .three (by decide) (by decide) (by decide)
  · exact .three (by decide) (by decide) (by decide)
  · show Short [33, (x % 128).toNat]; exact .two (by decide) (by omega)
  · show Short [33, 94, (x % 128).toNat + 64]; exact .three (by decide) (by decide) (by omega)
  · exact .two (by decide) (by decide)
  · exact .two (by decide) (by decide)
  · show Short [(x % 128).toNat]; exact .one (by omega)
  · show Short [94, (x % 128).toNat + 64]; exact .two (by decide) (by omega)

def rkN (x : Int) : Int := enc (picN x).cps.toList
theorem pic_lt (x y : Int) : (picN x).cps.toList < (picN y).cps.toList ↔ rkN x < rkN y := enc_lt (pic_short x) (pic_short y)

/-- the thing that a number of the script makes; on which side it is laid -/
def thOf (n : Int) : Th := if n % 2 = 1 then .i (n / 2) else .c (n / 2 % 55296).toNat
def lf (n : Int) : Bool := decide (n % 3 = 0)

section
variable {α : Type}
def SortBy (κ : α → Int) (l : List α) : Prop := l.Pairwise fun a b => κ a ≤ κ b
def below (κ : α → Int) (k : Int) (left : Bool) (a : α) : Bool := if left then decide (κ a < k) else decide (κ a ≤ k)
def posOf (κ : α → Int) (l : List α) (k : Int) (left : Bool) : Nat := (l.filter (below κ k left)).length
theorem posOf_le (κ : α → Int) (l : List α) (k : Int) (left : Bool) : posOf κ l k left ≤ l.length := List.length_filter_le _ _
theorem below_down {κ : α → Int} {k : Int} {left : Bool} {a b : α} (h : κ a ≤ κ b) (hb : below κ k left b = true) : below κ k left a = true := by
  unfold below at *
  cases left <;> simp_all <;> omega
theorem filter_none {q : α → Bool} : ∀ {l : List α}, (∀ a ∈ l, q a = false) → l.filter q = [] := by
  intro l h
  rw [List.filter_eq_nil_iff]
  intro a ha; rw [h a ha]; exact Bool.false_ne_true
theorem posOf_spec {κ : α → Int} {k : Int} {left : Bool} : ∀ {l : List α}, SortBy κ l → ∀ (i : Nat) a, l[i]? = some a → (below κ k left a = true ↔ i < posOf κ l k left) := by
  intro l
  induction l with
  | nil => intro _ i a h; simp at h
  | cons b l ih =>
    intro hs i a ha
    obtain ⟨h1, h2⟩ := List.pairwise_cons.mp hs
    unfold posOf
    cases hb : below κ k left b with
    | false =>
      have hn : ∀ c ∈ l, below κ k left c = false := fun c hc => by
        cases q : below κ k left c with
        | false => rfl
        | true => rw [below_down (h1 c hc) q] at hb; cases hb
      have e : (b :: l).filter (below κ k left) = [] := filter_none fun c hc => by
        rcases List.mem_cons.mp hc with rfl | hc
        · exact hb
        · exact hn c hc
      rw [e]
      have : below κ k left a = false := by
        rcases List.mem_cons.mp (List.mem_of_getElem? ha) with rfl | hc
        · exact hb
        · exact hn a hc
      simp [this]
    | true =>
      rw [List.filter_cons_of_pos hb, List.length_cons]
      cases i with
      | zero => simp at ha; subst ha; simp [hb]
      | succ i =>
        have := ih h2 i a (by simpa using ha)
        unfold posOf at this
        rw [this]; omega
theorem mem_insAt {l : List α} {k : Nat} {y a : α} : a ∈ insAt l k y ↔ a ∈ l ∨ a = y := by
  unfold insAt
  rw [List.mem_append, List.mem_cons]
  constructor
  · rintro (h | h | h)
    · exact .inl (List.mem_of_mem_take h)
    · exact .inr h
    · exact .inl (List.mem_of_mem_drop h)
  · rintro (h | h)
    · rw [← List.take_append_drop k l] at h
      rcases List.mem_append.mp h with h | h
      · exact .inl h
      · exact .inr (.inr h)
    · exact .inr (.inl h)
theorem insAt_length {l : List α} {k : Nat} {y : α} : (insAt l k y).length = l.length + 1 := by
  unfold insAt
  rw [List.length_append, List.length_cons, List.length_take, List.length_drop]; omega
theorem ins_sorted {κ : α → Int} {l : List α} {y : α} {left : Bool} (hs : SortBy κ l) : SortBy κ (insAt l (posOf κ l (κ y) left) y) := by
  have sp := posOf_spec (k := κ y) (left := left) hs
  unfold insAt SortBy
  rw [List.pairwise_append, List.pairwise_cons]
  refine ⟨hs.sublist (List.take_sublist _ _), ⟨?_, hs.sublist (List.drop_sublist _ _)⟩, ?_⟩
  · intro a ha
    obtain ⟨j, hj⟩ := List.getElem?_of_mem ha
    rw [List.getElem?_drop] at hj
    have h := mt (sp _ a hj).mp (by omega)
    unfold below at h
    cases left <;> simp at h <;> omega
  · intro a ha b hb
    obtain ⟨i, hi⟩ := List.getElem?_of_mem ha
    have hik : i < posOf κ l (κ y) left := by
      rcases Nat.lt_or_ge i (posOf κ l (κ y) left) with q | q
      · exact q
      · rw [List.getElem?_eq_none (by rw [List.length_take]; omega)] at hi; cases hi
    rw [List.getElem?_take_of_lt hik] at hi
    have h := (sp _ a hi).mpr hik
    have hay : κ a ≤ κ y := by
      unfold below at h
      cases left <;> simp at h <;> omega
    rcases List.mem_cons.mp hb with rfl | hb
    · exact hay
    · obtain ⟨j, hj⟩ := List.getElem?_of_mem hb
      rw [List.getElem?_drop] at hj
      have h := mt (sp _ b hj).mp (by omega)
      have hyb : κ y ≤ κ b := by
        unfold below at h
        cases left <;> simp at h <;> omega
      omega
end

def kC (t : Th) : Int := codeN t.num
def kR (t : Th) : Int := rkN t.num
def step (κ : Th → Int) (l : List Th) (n : Int) : List Th := insAt l (posOf κ l (κ (thOf n)) (lf n)) (thOf n)
def rowOf (κ : Th → Int) (ns : List Int) : List Th := ns.foldl (step κ) []
theorem rowOf_sorted (κ : Th → Int) (ns : List Int) : SortBy κ (rowOf κ ns) := by
  unfold rowOf
  have : ∀ (ns : List Int) (l : List Th), SortBy κ l → SortBy κ (ns.foldl (step κ) l) := by
    intro ns
    induction ns with
    | nil => intro l h; exact h
    | cons n ns ih => intro l h; exact ih _ (ins_sorted h)
  exact this ns [] List.Pairwise.nil
theorem rowOf_length (κ : Th → Int) (ns : List Int) : (rowOf κ ns).length = ns.length := by
  unfold rowOf
  have : ∀ (ns : List Int) (l : List Th), (ns.foldl (step κ) l).length = l.length + ns.length := by
    intro ns
    induction ns with
    | nil => intro l; rfl
    | cons n ns ih => intro l; rw [List.foldl_cons, ih]; unfold step; rw [insAt_length, List.length_cons]; omega
  simpa using this ns []
theorem rowOf_snoc (κ : Th → Int) (ns : List Int) (i : Nat) (n : Int) (h : ns[i]? = some n) : rowOf κ (ns.take (i + 1)) = step κ (rowOf κ (ns.take i)) n := by
  unfold rowOf
  rw [List.take_add_one, h]
  simp
end
/-! RowsA -/
section
def kP (t : Th) : Str := picN t.num
structure RowsJ (h₀ : Heap) (ns : List Int) (a1 a2 a3 a4 a5 cc : Addr) (m₀ : Str → Option Value) (i : Nat) (m : Str → Option Value) (news : Led) : Prop where
  ex : ∃ v1 c1 v2 c2 v3 c3 v4 c4 c5 a6 c6 oc u, news = [(a6, PySem.W.listOf (List.toArray v1) c6), (a5, PySem.W.listOf (List.toArray (List.replicate (4 * i) Value.none)) c5), (a4, PySem.W.listOf (List.toArray v4) c4), (a3, PySem.W.listOf (List.toArray v3) c3),
      (a2, PySem.W.listOf (List.toArray v2) c2), (a1, PySem.W.listOf (List.toArray v1) c1), (cc, oc)] ∧ oc.data = .cell u ∧ @LT.lt Nat _ a5 a6 ∧
    m (Str.ofString "counted") = some (.ref a6) ∧ (∀ z, z ≠ Str.ofString "counted" → [Str.ofString "n", Str.ofString "thing", Str.ofString "text", Str.ofString "ahead"].contains z = false → m z = m₀ z) ∧
    Are ThV v1 (rowOf kC (ns.take i)) ∧ Are ThV v2 (rowOf kR (ns.take i)) ∧ Are IntV v3 ((rowOf kC (ns.take i)).map kC) ∧ Are StrV v4 ((rowOf kR (ns.take i)).map kP)
theorem fr_norm {h₀ h : Heap} {L : Addr} {m₁ m₀ : Str → Option Value} {x y : Str} {v : Value} {ov : Option Value} {st : List Str} (h1 : m₁ x = some v) (h2 : ∀ z, z ≠ x → st.contains z = false → m₁ z = m₀ z) (F : Fr h₀ L h (fun z => if z = y then ov else m₁ z)) :
    Fr h₀ L h (fun z => if z = y then ov else if z = x then some v else if st.contains z then m₁ z else m₀ z) := by
  have e : (fun z => if z = y then ov else if z = x then some v else if st.contains z = true then m₁ z else m₀ z) = (fun z => if z = y then ov else m₁ z) := by
    funext z
    by_cases q1 : z = y
    · simp [q1]
    · simp only [if_neg q1]
      by_cases q2 : z = x
      · simp [q2, h1]
      · simp only [if_neg q2]
        cases q3 : st.contains z with
        | true => simp
        | false => simp only [Bool.false_eq_true, if_false]; exact (h2 z q2 q3).symm
  rw [e]; exact F

theorem pick_upto {vs : List Value} {y : Int} (h : 0 ≤ y) : (slicePick vs.toArray none (some y) none).toList = vs.take y.toNat := by
  have e : sliceBounds none (some y) none vs.toArray.size = (((0 : Nat) : Int), ((min y.toNat vs.toArray.size : Nat) : Int), 1) := by
    simp only [sliceBounds, Option.getD_none, show (1 : Int) > 0 by decide, if_true, if_neg (show ¬ (y < 0) by omega)]
    congr 1
    congr 1
    omega
  rw [kmk_pick_nat _ e]
  show (vs.drop 0).take (min y.toNat vs.toArray.size - 0) = _
  rw [List.drop_zero, Nat.sub_zero, List.size_toArray, kmk_take_min]
theorem pick_from {vs : List Value} {x : Int} (h : 0 ≤ x) : (slicePick vs.toArray (some x) none none).toList = vs.drop x.toNat := by
  have e : sliceBounds (some x) none none vs.toArray.size = (((min x.toNat vs.toArray.size : Nat) : Int), ((vs.toArray.size : Nat) : Int), 1) := by
    simp only [sliceBounds, Option.getD_none, show (1 : Int) > 0 by decide, if_true, if_neg (show ¬ (x < 0) by omega)]
    congr 1
    omega
  rw [kmk_pick_nat _ e]
  show (vs.drop (min x.toNat vs.toArray.size)).take (vs.toArray.size - min x.toNat vs.toArray.size) = _
  rw [List.size_toArray, kmk_drop_min]
  apply List.take_of_length_le
  rw [List.length_drop]; omega
theorem Are.take {α : Type} {R : Value → α → Prop} : ∀ {vs : List Value} {as : List α}, Are R vs as → ∀ k, Are R (vs.take k) (as.take k)
  | _, _, .nil, k => by simpa using Are.nil
  | _, _, .cons r h, 0 => .nil
  | _, _, .cons r h, k + 1 => .cons r (h.take k)
theorem Are.drop {α : Type} {R : Value → α → Prop} : ∀ {vs : List Value} {as : List α}, Are R vs as → ∀ k, Are R (vs.drop k) (as.drop k)
  | _, _, .nil, k => by simpa using Are.nil
  | _, _, .cons r h, 0 => .cons r h
  | _, _, .cons r h, k + 1 => h.drop k
theorem Are.append {α : Type} {R : Value → α → Prop} {ws : List Value} {bs : List α} (g : Are R ws bs) : ∀ {vs : List Value} {as : List α}, Are R vs as → Are R (vs ++ ws) (as ++ bs)
  | _, _, .nil => g
  | _, _, .cons r h => .cons r (Are.append g h)
theorem Are.insAt {α : Type} {R : Value → α → Prop} {vs : List Value} {as : List α} {v : Value} {a : α} (h : Are R vs as) (r : R v a) (k : Nat) : Are R (Mine.insAt vs k v) (Mine.insAt as k a) :=
  Are.append (.cons r (h.drop k)) (h.take k)
theorem map_insAt {α β : Type} (f : α → β) (l : List α) (k : Nat) (y : α) : (Mine.insAt l k y).map f = Mine.insAt (l.map f) k (f y) := by
  unfold Mine.insAt
  rw [List.map_append, List.map_cons, List.map_take, List.map_drop]
theorem fmod55 (x : Int) : (x.fmod 55296).toNat < 55296 := by rw [fmod_em _ (by decide)]; omega
theorem pos_ok (κ : Th → Int) (l : List Th) (k : Int) (b : Bool) : 0 ≤ (posOf κ l k b : Int) ∧ (posOf κ l k b : Int) ≤ (l.length : Int) := ⟨by omega, by have := posOf_le κ l k b; omega⟩
theorem pos_okm {β : Type} {f : Th → β} (κ : Th → Int) (l : List Th) (k : Int) (b : Bool) : 0 ≤ (posOf κ l k b : Int) ∧ (posOf κ l k b : Int) ≤ ((l.map f).length : Int) := by rw [List.length_map]; exact pos_ok κ l k b
theorem left_code {ns : List Int} {t : Th} (i : Nat) (a : Th) (h : (rowOf kC ns)[i]? = some a) : codeN a.num < codeN t.num ↔ (i : Int) < (posOf kC (rowOf kC ns) (kC t) true : Int) := by
  have := posOf_spec (k := kC t) (left := true) (rowOf_sorted kC ns) i a h
  simp only [below, if_true, decide_eq_true_eq] at this
  exact this.trans (by omega)
theorem right_code {ns : List Int} {t : Th} (i : Nat) (a : Th) (h : (rowOf kC ns)[i]? = some a) : codeN t.num < codeN a.num ↔ ¬ (i : Int) < (posOf kC (rowOf kC ns) (kC t) false : Int) := by
  have := posOf_spec (k := kC t) (left := false) (rowOf_sorted kC ns) i a h
  simp only [below, Bool.false_eq_true, if_false, decide_eq_true_eq] at this
  unfold kC at *
  omega
theorem left_pic {ns : List Int} {t : Th} (i : Nat) (a : Th) (h : (rowOf kR ns)[i]? = some a) : (picN a.num).cps.toList < (picN t.num).cps.toList ↔ (i : Int) < (posOf kR (rowOf kR ns) (kR t) true : Int) := by
  have := posOf_spec (k := kR t) (left := true) (rowOf_sorted kR ns) i a h
  simp only [below, if_true, decide_eq_true_eq] at this
  rw [pic_lt]
  exact this.trans (by omega)
theorem right_pic {ns : List Int} {t : Th} (i : Nat) (a : Th) (h : (rowOf kR ns)[i]? = some a) : (picN t.num).cps.toList < (picN a.num).cps.toList ↔ ¬ (i : Int) < (posOf kR (rowOf kR ns) (kR t) false : Int) := by
  have := posOf_spec (k := kR t) (left := false) (rowOf_sorted kR ns) i a h
  simp only [below, Bool.false_eq_true, if_false, decide_eq_true_eq] at this
  rw [pic_lt]
  unfold kR at *
  omega
theorem map_at {α β : Type} {f : α → β} {l : List α} {i : Nat} {b : β} (h : (l.map f)[i]? = some b) : ∃ a, l[i]? = some a ∧ b = f a := by
  rw [List.getElem?_map] at h
  cases e : l[i]? with
  | none => rw [e] at h; cases h
  | some a => rw [e] at h; cases h; exact ⟨a, rfl, rfl⟩
theorem left_ints {ns : List Int} {t : Th} (i : Nat) (a : Int) (h : ((rowOf kC ns).map kC)[i]? = some a) : a < codeN t.num ↔ (i : Int) < (posOf kC (rowOf kC ns) (kC t) true : Int) := by
  obtain ⟨b, hb, rfl⟩ := map_at h; exact left_code i b hb
theorem right_ints {ns : List Int} {t : Th} (i : Nat) (a : Int) (h : ((rowOf kC ns).map kC)[i]? = some a) : codeN t.num < a ↔ ¬ (i : Int) < (posOf kC (rowOf kC ns) (kC t) false : Int) := by
  obtain ⟨b, hb, rfl⟩ := map_at h; exact right_code i b hb
theorem left_strs {ns : List Int} {t : Th} (i : Nat) (a : Str) (h : ((rowOf kR ns).map kP)[i]? = some a) : a.cps.toList < (picN t.num).cps.toList ↔ (i : Int) < (posOf kR (rowOf kR ns) (kR t) true : Int) := by
  obtain ⟨b, hb, rfl⟩ := map_at h; exact left_pic i b hb
theorem right_strs {ns : List Int} {t : Th} (i : Nat) (a : Str) (h : ((rowOf kR ns).map kP)[i]? = some a) : (picN t.num).cps.toList < a.cps.toList ↔ ¬ (i : Int) < (posOf kR (rowOf kR ns) (kR t) false : Int) := by
  obtain ⟨b, hb, rfl⟩ := map_at h; exact right_pic i b hb

section
variable {prog : Program} {w : World} {A : Around} {E : Value → Shared → Prop} {s : Shared} {env : Env} {h₀ : Heap} {L : Addr} {m : Str → Option Value} {news : Led} {K : Frag} {p : Program} {loose : List Str} {mean : ExcName → Option Value} {mg mb : Str → Option Value}
theorem cntE (left : Bool) {elt iter : PySem.Expr} {x : Str} {px pos : Pos} {ifs : List PySem.Expr} {scope : Scope} {cl : List (Str × Addr)} {Q : Value → Shared → Prop} {as : List Th} {vs : List Value} {ax : Addr} {c6 : Nat} {o : Obj} {k : Int} {t : Tok}
    (F : Fr h₀ L s.heap m) (N : News h₀ L s.heap news) (X : K.In h₀) (T : Top p loose mean mg mb h₀)
    (hit : ∀ (Q : Value → Shared → Prop), Q (.ref ax) s → wpAny (model prog w) A (eval iter env) Q E s)
    (h6 : (ax, PySem.W.listOf (List.toArray vs) c6) ∈ news) (ha : Are ThV vs as) (hh : A.handled = none) (hsz : as.length < 2 ^ 20) (hk : o.data = .cell (some (.int k t)))
    (hclos : closureFor scope env = pure cl) (hcell : ∀ y ∈ scope.names, y.2 ≠ .cell) (hkind : scope.kind = .function)
    (hnames : ∀ y ∈ scope.names, y.2 = .local → scope.names.lookup y.1 = some .local) (hx : scope.names.lookup x = some .local) (hs : ∀ x, foldedSetIterable iter env x = pure x)
    (tests : ∀ C I D a v h tk m₂ oI oD rest E', s.heap.objs.size ≤ I → I < D → D < C → a ∈ as → ThV v a → m₂ x = some v → Fr s.heap C h m₂ → News s.heap C h ((I, oI) :: (D, oD) :: rest) → K.In s.heap → Top p loose mean mg mb s.heap →
      wpAny (model prog w) A (forIn ifs true fun e r => if r = true then do let ok ← isTrue e (compEnvC scope cl C env) (eval e (compEnvC scope cl C env)); pure (ForInStep.yield ok) else pure (ForInStep.yield r))
        (TestEnd s.heap C m₂ ((I, oI) :: (D, oD) :: rest) (below kC k left a) { s with heap := h, toks := tk }) E' { s with heap := h, toks := tk })
    (elts : ∀ C I D a v h tk m₂ oI oD rest E', s.heap.objs.size ≤ I → I < D → D < C → a ∈ as → below kC k left a = true → ThV v a → m₂ x = some v → Fr s.heap C h m₂ → News s.heap C h ((I, oI) :: (D, oD) :: rest) → K.In s.heap → Top p loose mean mg mb s.heap →
      wpAny (model prog w) A (eval elt (compEnvC scope cl C env)) (EltP s.heap C m₂ ((I, oI) :: (D, oD) :: rest) ThV a { s with heap := h, toks := tk }) E' { s with heap := h, toks := tk })
    (fin : ∀ D h' tk ys nD, (∀ p ∈ news, p.1 < D) → Fr h₀ L h' m → News h₀ L h' ((D, PySem.W.listOf (List.toArray ys) nD) :: news) → Are ThV ys (as.filter (below kC k left)) → (as.filter (below kC k left)).length < 2 ^ 20 → Q (.ref D) { s with heap := h', toks := tk }) :
    wpAny (model prog w) A (eval (.ListComp elt [⟨.Name x px, iter, ifs, 0⟩] scope pos) env) Q E s :=
  compNEL (below kC k left) (fun a => a) ThV F N X T (src_list hh (News.isList N h6) ha (by simp only [sizeLine]; omega)) hit hclos hcell hkind hnames hx hs tests elts
    fun D h' tk ys nD l F' N' r => fin D h' tk ys nD l F' N' (by simpa using r) (Nat.lt_of_le_of_lt (List.length_filter_le _ _) hsz)
end

section
variable {prog : Program} {w : World} {A : Around} {E : Value → Shared → Prop} {s : Shared} {env : Env} {h₀ : Heap} {x : Str} {body : List Stmt} {Q : Flow → Shared → Prop}
theorem for_rows {l : Addr} {vs : List Value} {ns : List Int} {m₀ : Str → Option Value} {news : Led} {px ppx pos : Pos} {itn : Str} (a1 a2 a3 a4 a5 cc : Addr)
    (hh : A.handled = none) (hl : h₀.IsList l vs.toArray) (hi : IntsAre vs ns) (F : Fr h₀ env.locals s.heap m₀) (N : News h₀ env.locals s.heap news) (hj : RowsJ h₀ ns a1 a2 a3 a4 a5 cc m₀ 0 m₀ news)
    (hx : env.kindOf x = some .local) (hp : (env.scope.kind == .class || (env.scope.kind == .module && env.locals != env.globals)) = false) (hs : ∀ v, foldedSetIterable (.Name itn ppx) env v = pure v)
    (hit : ∀ (Q : Value → Shared → Prop), Q (.ref l) s → wpAny (model prog w) A (eval (.Name itn ppx) env) Q E s)
    (turn : ∀ i n t m₁ news₁ I oI h tk, ns[i]? = some n → RowsJ h₀ ns a1 a2 a3 a4 a5 cc m₀ i m₁ news₁ → (∀ p ∈ news₁, p.1 ≠ I) → Fr h₀ env.locals h (fun y => if y = x then some (.int n t) else m₁ y) → News h₀ env.locals h ((I, oI) :: news₁) →
      wpAny (model prog w) A (execs body env) (ForEnd h₀ env.locals I oI (RowsJ h₀ ns a1 a2 a3 a4 a5 cc m₀ (i + 1)) { s with heap := h, toks := tk }) E { s with heap := h, toks := tk })
    (done : ∀ m₁ news₁ h tk, RowsJ h₀ ns a1 a2 a3 a4 a5 cc m₀ ns.length m₁ news₁ → Fr h₀ env.locals h m₁ → News h₀ env.locals h news₁ → Q .next { s with heap := h, toks := tk })
    (hE : PassesOwn (model prog w) A env E) :
    wpAny (model prog w) A (exec (.For (.Name x px) (.Name itn ppx) body [] pos) env) Q E s :=
  for_ints (RowsJ h₀ ns a1 a2 a3 a4 a5 cc m₀) hh hl hi F N hj hx hp hs hit turn done hE
end

theorem rows_close {h₀ h' : Heap} {L I cc D : Addr} {oI oc : Obj} {ns : List Int} {a1 a2 a3 a4 a5 : Addr} {m₀ m' : Str → Option Value} {i : Nat} {n : Int} {th : Th} {b : Bool} {v1 v2 v3 v4 : List Value} {c1 c2 c3 c4 c5 c6 : Nat} {v : Value} {t1 t2 : Tok} {X Y : Array Value} {led : Led} {s : Shared} {tk' : Nat}
    (F : Fr h₀ L h' m') (N : News h₀ L h' led) (hn : ns[i]? = some n)
    (e1 : (a1, PySem.W.listOf (List.toArray (insAt v1 ((posOf kC (rowOf kC (ns.take i)) (kC th) b : Nat) : Int).toNat v)) c1) ∈ led)
    (e2 : (a2, PySem.W.listOf (List.toArray (insAt v2 ((posOf kR (rowOf kR (ns.take i)) (kR th) b : Nat) : Int).toNat v)) c2) ∈ led)
    (e3 : (a3, PySem.W.listOf (List.toArray (insAt v3 ((posOf kC (rowOf kC (ns.take i)) (kC th) b : Nat) : Int).toNat (.int (codeN th.num) t1))) c3) ∈ led)
    (e4 : (a4, PySem.W.listOf (List.toArray (insAt v4 ((posOf kR (rowOf kR (ns.take i)) (kR th) b : Nat) : Int).toNat (.str (picN th.num) t2))) c4) ∈ led)
    (e5 : (a5, PySem.W.listOf Y c5) ∈ led) (eI : (I, oI) ∈ led) (ec : (cc, oc) ∈ led) (hoc : ∃ u, oc.data = .cell u)
    (hm1 : m' (Str.ofString "counted") = some (.ref D)) (e6 : (D, PySem.W.listOf X c6) ∈ led)
    (hth : thOf n = th) (hb : lf n = b) (hv : ThV v th)
    (hX : X = List.toArray (insAt v1 (posOf kC (rowOf kC (ns.take i)) (kC th) b) v)) (hY : Y = List.toArray (List.replicate (4 * i) Value.none ++ [Value.none] ++ [Value.none] ++ [Value.none] ++ [Value.none]))
    (r1 : Are ThV v1 (rowOf kC (ns.take i))) (r2 : Are ThV v2 (rowOf kR (ns.take i))) (r3 : Are IntV v3 ((rowOf kC (ns.take i)).map kC)) (r4 : Are StrV v4 ((rowOf kR (ns.take i)).map kP))
    (i6 : @Ne Nat D I) (i5 : @Ne Nat a5 I) (i4 : @Ne Nat a4 I) (i3 : @Ne Nat a3 I) (i2 : @Ne Nat a2 I) (i1 : @Ne Nat a1 I) (i0 : @Ne Nat cc I) (h56 : @LT.lt Nat _ a5 D)
    (hm2 : ∀ z, z ≠ Str.ofString "counted" → [Str.ofString "n", Str.ofString "thing", Str.ofString "text", Str.ofString "ahead"].contains z = false → m' z = m₀ z) :
    ForEnd h₀ L I oI (RowsJ h₀ ns a1 a2 a3 a4 a5 cc m₀ (i + 1)) s .next { s with heap := h', toks := tk' } := by
  subst hth hb hX hY
  obtain ⟨u, hu⟩ := hoc
  rw [Int.toNat_natCast] at e1 e2 e3 e4
  have eY : List.replicate (4 * i) Value.none ++ [Value.none] ++ [Value.none] ++ [Value.none] ++ [Value.none] = List.replicate (4 * (i + 1)) Value.none := by
    rw [show 4 * (i + 1) = 4 * i + 1 + 1 + 1 + 1 from by omega]
    simp only [List.replicate_succ']
  rw [eY] at e5
  refine ForEnd.intro [(D, _), (a5, _), (a4, _), (a3, _), (a2, _), (a1, _), (cc, oc)] F N ?_ ?_ ⟨⟨insAt v1 (posOf kC (rowOf kC (ns.take i)) (kC (thOf n)) (lf n)) v, c1, insAt v2 (posOf kR (rowOf kR (ns.take i)) (kR (thOf n)) (lf n)) v, c2, insAt v3 (posOf kC (rowOf kC (ns.take i)) (kC (thOf n)) (lf n)) (.int (codeN (thOf n).num) t1), c3, insAt v4 (posOf kR (rowOf kR (ns.take i)) (kR (thOf n)) (lf n)) (.str (picN (thOf n).num) t2), c4, c5, D, c6, oc, u, rfl, hu, h56, hm1, hm2, ?_, ?_, ?_, ?_⟩⟩
  · intro q hq
    rcases List.mem_cons.mp hq with rfl | hq
    · exact eI
    rcases List.mem_cons.mp hq with rfl | hq
    · exact e6
    rcases List.mem_cons.mp hq with rfl | hq
    · exact e5
    rcases List.mem_cons.mp hq with rfl | hq
    · exact e4
    rcases List.mem_cons.mp hq with rfl | hq
    · exact e3
    rcases List.mem_cons.mp hq with rfl | hq
    · exact e2
    rcases List.mem_cons.mp hq with rfl | hq
    · exact e1
    rcases List.mem_cons.mp hq with rfl | hq
    · exact ec
    cases hq
  · intro q hq
    rcases List.mem_cons.mp hq with rfl | hq
    · exact i6
    rcases List.mem_cons.mp hq with rfl | hq
    · exact i5
    rcases List.mem_cons.mp hq with rfl | hq
    · exact i4
    rcases List.mem_cons.mp hq with rfl | hq
    · exact i3
    rcases List.mem_cons.mp hq with rfl | hq
    · exact i2
    rcases List.mem_cons.mp hq with rfl | hq
    · exact i1
    rcases List.mem_cons.mp hq with rfl | hq
    · exact i0
    cases hq
  · rw [rowOf_snoc kC ns i n hn]; exact r1.insAt hv _
  · rw [rowOf_snoc kR ns i n hn]; exact r2.insAt hv _
  · rw [rowOf_snoc kC ns i n hn]; unfold step; rw [map_insAt]; exact r3.insAt ⟨t1, rfl⟩ _
  · rw [rowOf_snoc kR ns i n hn]; unfold step; rw [map_insAt]; exact r4.insAt ⟨t2, rfl⟩ _

/-- what the rows hand back -/
def RowsR (s : Shared) (ns : List Int) (v : Value) (h' : Heap) : Prop :=
  ∃ T a1 a2 a3 a4 a5 a6 v1 c1 v2 c2 v3 c3 v4 c4 c5 c6, v = .ref T ∧
    (∀ p ∈ ([(T, ({ cls := .type "tuple", data := .seq #[.ref a1, .ref a2, .ref a3, .ref a4, .ref a5, .ref a6] } : Obj)), (a6, PySem.W.listOf (List.toArray v1) c6), (a5, PySem.W.listOf (List.toArray (List.replicate (4 * ns.length) Value.none)) c5), (a4, PySem.W.listOf (List.toArray v4) c4), (a3, PySem.W.listOf (List.toArray v3) c3),
      (a2, PySem.W.listOf (List.toArray v2) c2), (a1, PySem.W.listOf (List.toArray v1) c1)] : Led), h'.get? p.1 = some p.2 ∧ s.heap.get? p.1 = none) ∧
    Are ThV v1 (rowOf kC ns) ∧ Are ThV v2 (rowOf kR ns) ∧ Are IntV v3 ((rowOf kC ns).map kC) ∧ Are StrV v4 ((rowOf kR ns).map kP)
theorem th_odd {n : Int} (h : n.fmod 2 = 1) : thOf n = .i (n.fdiv 2) := by
  rw [fmod_em _ (by decide)] at h
  rw [thOf, if_pos h, mid_eq]
theorem th_even {n : Int} (h : n.fmod 2 ≠ 1) : thOf n = .c ((n.fdiv 2).fmod 55296).toNat := by
  rw [fmod_em _ (by decide)] at h
  rw [thOf, if_neg h, mid_eq, fmod_em _ (by decide)]
theorem lf_yes {n : Int} (h : n.fmod 3 = 0) : lf n = true := by
  rw [fmod_em _ (by decide)] at h; exact decide_eq_true h
theorem lf_no {n : Int} (h : n.fmod 3 ≠ 0) : lf n = false := by
  rw [fmod_em _ (by decide)] at h; exact decide_eq_false h
end
/-! Rows1 -/
section
theorem fill5 (w : World) (h : Heap) : (hd.heap_39 w.params).In h → PySem.Challenge.rw_pk0064_01.prog = PySem.Challenge.rw_pk0064_01.prog := by
  k_fill
  intro _; rfl
-- my own words, under keys of my own
theorem lnRows10 : True := by
  k_with_none
  k_with "my X" => (refine' Frag.In.keeps ?zzx (Fr.keep ?zzf); (case zzf => assumption); (case zzx => assumption))
  k_with "my T" => (refine' Top.keeps ?zzx (Fr.keep ?zzf); (case zzf => assumption); (case zzx => assumption))
  k_with "my room" => ((try simp only [depth_deeper, depth_in1]); omega)
  k_with "my th" => first | assumption | exact ThV.i _ _ | exact ThV.c _ _ (fmod55 _)
  k_with "my after" => (intro t' h' tk' k' F' N'; (try clear k'); (try dsimp only); (try k_sweep))
  k_with "call ref" => (
      refine' Pure.framedI (code_spec ?zzv ?zzX ?zzT ?zzr) ?zzF ?zzN ?_; (case zzF => k_asm); (case zzN => k_asm); (case zzv => walk_at "my th"); (case zzX => walk_at "my X"); (case zzT => walk_at "my T"); (case zzr => walk_at "my room"); k_whole
      walk_at "my after")
  k_with "call ref" => (
      refine' Pure.framedS (unctrl_spec ?zzv ?zzX ?zzT ?zzr) ?zzF ?zzN ?_; (case zzF => k_asm); (case zzN => k_asm); (case zzv => walk_at "my th"); (case zzX => walk_at "my X"); (case zzT => walk_at "my T"); (case zzr => walk_at "my room"); k_whole
      walk_at "my after")
  k_with "my ins" => (intro h' tk' F' N'; (try dsimp only); (try k_sweep))
  k_with "my k0" => exact Fr.keep (by assumption)
  k_with "my h0l" => exact News.fresh (by assumption) (by k_mem)
  k_with "my hl" => exact News.get (by assumption) (by k_mem)
  k_with "call ref" => (
      refine' Mut1.framed (insL_code ?zzhl ?zzns ?zzz ?zzv ?zzn ?zzc ?zzX ?zzT ?zzk ?zzh ?zzr) ?zzF ?zzN ?zzU ?_; (case zzF => k_asm); (case zzN => k_asm); (case zzhl => walk_at "my hl"); (case zzns => assumption); (case zzz => assumption); (case zzv => walk_at "my th"); (case zzc => exact left_code); (case zzn => exact pos_ok _ _ _ _); (case zzX => assumption); (case zzT => assumption); (case zzk => walk_at "my k0"); (case zzh => walk_at "my h0l"); (case zzr => walk_at "my room"); (case zzU => k_upd); k_whole
      walk_at "my ins")
  k_with "call ref" => (
      refine' Mut1.framed (insL_pic ?zzhl ?zzns ?zzz ?zzv ?zzn ?zzc ?zzX ?zzT ?zzk ?zzh ?zzr) ?zzF ?zzN ?zzU ?_; (case zzF => k_asm); (case zzN => k_asm); (case zzhl => walk_at "my hl"); (case zzns => assumption); (case zzz => assumption); (case zzv => walk_at "my th"); (case zzc => exact left_pic); (case zzn => exact pos_ok _ _ _ _); (case zzX => assumption); (case zzT => assumption); (case zzk => walk_at "my k0"); (case zzh => walk_at "my h0l"); (case zzr => walk_at "my room"); (case zzU => k_upd); k_whole
      walk_at "my ins")
  k_with "call ref" => (
      refine' Mut1.framed (insL_ints ?zzhl ?zzns ?zzz ?zzn ?zzc ?zzX ?zzT ?zzk ?zzh ?zzr) ?zzF ?zzN ?zzU ?_; (case zzF => k_asm); (case zzN => k_asm); (case zzhl => walk_at "my hl"); (case zzns => assumption); (case zzz => assumption); (case zzc => exact left_ints); (case zzn => exact pos_okm _ _ _ _); (case zzX => assumption); (case zzT => assumption); (case zzk => walk_at "my k0"); (case zzh => walk_at "my h0l"); (case zzr => walk_at "my room"); (case zzU => k_upd); k_whole
      walk_at "my ins")
  k_with "call ref" => (
      refine' Mut1.framed (insL_strs ?zzhl ?zzns ?zzz ?zzn ?zzc ?zzX ?zzT ?zzk ?zzh ?zzr) ?zzF ?zzN ?zzU ?_; (case zzF => k_asm); (case zzN => k_asm); (case zzhl => walk_at "my hl"); (case zzns => assumption); (case zzz => assumption); (case zzc => exact left_strs); (case zzn => exact pos_okm _ _ _ _); (case zzX => assumption); (case zzT => assumption); (case zzk => walk_at "my k0"); (case zzh => walk_at "my h0l"); (case zzr => walk_at "my room"); (case zzU => k_upd); k_whole
      walk_at "my ins")
  k_with "call ref" => (
      refine' Mut1.framed (insR_code ?zzhl ?zzns ?zzz ?zzv ?zzn ?zzc ?zzX ?zzT ?zzk ?zzh ?zzr) ?zzF ?zzN ?zzU ?_; (case zzF => k_asm); (case zzN => k_asm); (case zzhl => walk_at "my hl"); (case zzns => assumption); (case zzz => assumption); (case zzv => walk_at "my th"); (case zzc => exact right_code); (case zzn => exact pos_ok _ _ _ _); (case zzX => assumption); (case zzT => assumption); (case zzk => walk_at "my k0"); (case zzh => walk_at "my h0l"); (case zzr => walk_at "my room"); (case zzU => k_upd); k_whole
      walk_at "my ins")
  k_with "call ref" => (
      refine' Mut1.framed (insR_pic ?zzhl ?zzns ?zzz ?zzv ?zzn ?zzc ?zzX ?zzT ?zzk ?zzh ?zzr) ?zzF ?zzN ?zzU ?_; (case zzF => k_asm); (case zzN => k_asm); (case zzhl => walk_at "my hl"); (case zzns => assumption); (case zzz => assumption); (case zzv => walk_at "my th"); (case zzc => exact right_pic); (case zzn => exact pos_ok _ _ _ _); (case zzX => assumption); (case zzT => assumption); (case zzk => walk_at "my k0"); (case zzh => walk_at "my h0l"); (case zzr => walk_at "my room"); (case zzU => k_upd); k_whole
      walk_at "my ins")
  k_with "call ref" => (
      refine' Mut1.framed (insR_ints ?zzhl ?zzns ?zzz ?zzn ?zzc ?zzX ?zzT ?zzk ?zzh ?zzr) ?zzF ?zzN ?zzU ?_; (case zzF => k_asm); (case zzN => k_asm); (case zzhl => walk_at "my hl"); (case zzns => assumption); (case zzz => assumption); (case zzc => exact right_ints); (case zzn => exact pos_okm _ _ _ _); (case zzX => assumption); (case zzT => assumption); (case zzk => walk_at "my k0"); (case zzh => walk_at "my h0l"); (case zzr => walk_at "my room"); (case zzU => k_upd); k_whole
      walk_at "my ins")
  k_with "call ref" => (
      refine' Mut1.framed (insR_strs ?zzhl ?zzns ?zzz ?zzn ?zzc ?zzX ?zzT ?zzk ?zzh ?zzr) ?zzF ?zzN ?zzU ?_; (case zzF => k_asm); (case zzN => k_asm); (case zzhl => walk_at "my hl"); (case zzns => assumption); (case zzz => assumption); (case zzc => exact right_strs); (case zzn => exact pos_okm _ _ _ _); (case zzX => assumption); (case zzT => assumption); (case zzk => walk_at "my k0"); (case zzh => walk_at "my h0l"); (case zzr => walk_at "my room"); (case zzU => k_upd); k_whole
      walk_at "my ins")
  k_with "call builtin:list.append" => (
      (with_unfolding_all refine' append_K ?zzF ?zzN ?zzU ?_ ?zzz); (case zzF => k_asm); (case zzN => k_asm); (case zzU => k_upd); (case zzz => (simp [sizeLine]; omega)); k_whole; intro h' F' N'; (try k_sweep))
  k_with "my compL" => (
      (with_reducible show wpAny _ _ (eval (PySem.Expr.ListComp _ [⟨_, _, [PySem.Expr.Compare _ [CmpOp.Lt] _ _], _⟩] _ _) _) _ _ _)
      refine' cntE true ?zzF ?zzN ?zzX ?zzT ?zzhit ?zzh6 ?zzha ?zzhh ?zzhsz ?zzhk ?zzclos ?zzcell ?zzkind ?zznames ?zzx ?zzs ?_ ?_ ?_
      (case zzF => k_asm); (case zzN => k_asm); (case zzX => assumption); (case zzT => assumption); (case zzhit => (intro Q9 h9; (k_dflt (refine' nameX_L ?zzF9 ?zzv9 ?_ ?zza9 ?zzb9; (case zzF9 => k_asm); (case zza9 => rfl); (case zzb9 => rfl); (case zzv9 => rfl))); exact h9)); (case zzh6 => k_mem); (case zzha => assumption); (case zzhh => rfl); (case zzhsz => assumption); (case zzhk => assumption)
      (case zzclos => (with_unfolding_all rfl)); (case zzcell => decide); (case zzkind => rfl); (case zznames => decide); (case zzx => rfl); (case zzs => exact fun _ => rfl)
      (intro C9 I9 D9 a9 v9 h9 tk9 m9 oI9 oD9 rest9 E9 i0 i1 i2 hm9 hr9 hv9 F9 N9 X9 T9; refine tests_one ?_)
      rotate_left 1
      (intro C9 I9 D9 a9 v9 h9 tk9 m9 oI9 oD9 rest9 E9 i0 i1 i2 hm9 hb9 hr9 hv9 F9 N9 X9 T9)
      rotate_left 1
      (intro D9 h9 tk9 ys9 nD9 l9 F9 N9 r9 z9; (replace l9 := neAll_lt l9); (simp only [List.map_cons, List.map_nil] at l9); (try k_sweep))
      rotate_left 1)
  k_with "my compR" => (
      (with_reducible show wpAny _ _ (eval (PySem.Expr.ListComp _ [⟨_, _, [PySem.Expr.Compare _ [CmpOp.LtE] _ _], _⟩] _ _) _) _ _ _)
      refine' cntE false ?zzF ?zzN ?zzX ?zzT ?zzhit ?zzh6 ?zzha ?zzhh ?zzhsz ?zzhk ?zzclos ?zzcell ?zzkind ?zznames ?zzx ?zzs ?_ ?_ ?_
      (case zzF => k_asm); (case zzN => k_asm); (case zzX => assumption); (case zzT => assumption); (case zzhit => (intro Q9 h9; (k_dflt (refine' nameX_L ?zzF9 ?zzv9 ?_ ?zza9 ?zzb9; (case zzF9 => k_asm); (case zza9 => rfl); (case zzb9 => rfl); (case zzv9 => rfl))); exact h9)); (case zzh6 => k_mem); (case zzha => assumption); (case zzhh => rfl); (case zzhsz => assumption); (case zzhk => assumption)
      (case zzclos => (with_unfolding_all rfl)); (case zzcell => decide); (case zzkind => rfl); (case zznames => decide); (case zzx => rfl); (case zzs => exact fun _ => rfl)
      (intro C9 I9 D9 a9 v9 h9 tk9 m9 oI9 oD9 rest9 E9 i0 i1 i2 hm9 hr9 hv9 F9 N9 X9 T9; refine tests_one ?_)
      rotate_left 1
      (intro C9 I9 D9 a9 v9 h9 tk9 m9 oI9 oD9 rest9 E9 i0 i1 i2 hm9 hb9 hr9 hv9 F9 N9 X9 T9)
      rotate_left 1
      (intro D9 h9 tk9 ys9 nD9 l9 F9 N9 r9 z9; (replace l9 := neAll_lt l9); (simp only [List.map_cons, List.map_nil] at l9); (try k_sweep))
      rotate_left 1)
  k_with "eval Name" => (k_dflt (first
      | (refine' nameY_L ?zzF ?zzv ?_ ?zza ?zzb ?zzc ?zzd; (case zzF => k_asm); (case zzv => assumption); (case zza => rfl); (case zzb => rfl); (case zzc => rfl); (case zzd => decide); k_whole)
      | (refine' nameY_C ?zzF ?zzN ?zzm ?zzd ?_ ?zzc ?zzb ?zzx ?zzn; (case zzF => k_asm); (case zzc => rfl); (case zzb => rfl); (case zzx => rfl); (case zzn => decide); (case zzN => k_asm); (case zzm => k_mem); (case zzd => assumption); k_whole)))
  k_with "TestEnd" => (refine' And.intro ?zze (TEnd.intro ?zzF ?zzN ?zzs); (case zzF => assumption); (case zzN => assumption); (case zzs => exact fun _ h => h); (case zze => rfl))
  k_with "EltP" => (refine' And.intro ?zze (TEnd.intro ?zzF ?zzN ?zzs); (case zzF => assumption); (case zzN => assumption); (case zzs => exact fun _ h => h); (case zze => assumption))
  k_with "call builtin:len" => (
      (with_unfolding_all refine' len_at ?zza ?zzl ?zzz ?_); (case zzl => exact News.isList (by assumption) (by k_mem)); (case zza => assumption); (case zzz => assumption); k_whole)
  k_with "subscriptTail Name Slice ref ref" => (
      k_dflt (refine' kmk_slice_lit ?zzF ?zzN ?zzl ?zzp ?zzq ?zze ?_ ?zzs ?zzt ?zzz; (case zzF => k_asm); (case zzN => k_asm); (case zzl => exact News.isList (by assumption) (by k_mem)); (case zzp => first | exact IsPart.none | exact IsPart.int _ _); (case zzq => first | exact IsPart.none | exact IsPart.int _ _); (case zze => first | exact pick_upto (by omega) | exact pick_from (by omega)); (case zzs => with_unfolding_all rfl); (case zzt => exact fun _ => rfl); (case zzz => (simp [sizeLine]; omega))); intro D' h' F' N' l1; (have y1 := neAll_lt l1); (simp only [List.map_cons, List.map_nil] at y1); (try k_sweep))
  k_with "binaryOp Add ref ref" => (
      k_dflt (refine' kmk_add_lit ?zzF ?zzN ?zza ?zzb ?zze ?_ ?zzz; (case zzF => k_asm); (case zzN => k_asm); (case zza => exact News.isList (by assumption) (by k_mem)); (case zzb => exact News.isList (by assumption) (by k_mem)); (case zze => rfl); (case zzz => (simp [sizeLine]; omega))); intro D' h' F' N' l1; (have y1 := neAll_lt l1); (simp only [List.map_cons, List.map_nil] at y1); (try k_sweep))
  k_with "eval ListComp" => (k_dflt (first | walk_at "my compL" | walk_at "my compR"))
  k_with "exec For Name Name cons nil" => (refine Stopped.go ?_)
  exact trivial

def NeAll (d : Nat) (as : List Nat) : Prop := ∀ a ∈ as, a ≠ d
theorem NeAll.get {d a : Nat} {as : List Nat} (h : NeAll d as) (m : a ∈ as) : a ≠ d := h a m
theorem NeAll.get' {d a : Nat} {as : List Nat} (h : NeAll d as) (m : a ∈ as) : d ≠ a := (h a m).symm
theorem neAll_lt {d : Addr} {l : Led} (h : ∀ p ∈ l, p.1 < d) : NeAll d (l.map (·.1)) := fun a ha => by
  obtain ⟨q, hq, rfl⟩ := List.mem_map.mp ha
  exact Nat.ne_of_lt (h q hq)
local macro_rules | `(tactic| k_ne) => `(tactic| (refine neN ?_; (try dsimp only); first | assumption | exact Ne.symm (by assumption) | exact Nat.ne_of_lt (by assumption) | exact Nat.ne_of_gt (by assumption) | exact NeAll.get (by assumption) (by k_mem) | exact NeAll.get' (by assumption) (by k_mem)))
theorem join_th {prog : Program} {w : World} {A : Around} {E : Value → Shared → Prop} {Q : Flow → Shared → Prop} {s : Shared} {h₀ : Heap} {L : Addr} {m : Str → Option Value} {led : Led} {th : Th} {t : Sem Flow}
    (F : Fr h₀ L s.heap m) (N : News h₀ L s.heap led)
    (h1 : ∀ Q' : Flow → Shared → Prop, (∀ v h' tk', ThV v th → Fr h₀ L h' (fun z => if z = Str.ofString "thing" then some v else m z) → News h₀ L h' led → Q' .next { s with heap := h', toks := tk' }) → wpAny (model prog w) A t Q' E s)
    (h2 : ∀ v h' tk', ThV v th → Fr h₀ L h' (fun z => if z = Str.ofString "thing" then some v else m z) → News h₀ L h' led → Q .next { s with heap := h', toks := tk' }) : wpAny (model prog w) A t Q E s := h1 Q h2
section
variable {w : World} {A : Around} {s : Shared} {p : Program} {loose : List Str} {mean : ExcName → Option Value} {mg mb : Str → Option Value}

theorem rows_spec {l : Addr} {its : List Value} {ns : List Int} (hl : s.heap.IsList l its.toArray) (hns : IntsAre its ns) (hlen : ns.length < 2 ^ 10)
    (X : (hd.heap_39 w.params).In s.heap) (T : Top p loose mean mg mb s.heap) (hroom : A.depth + 10 < recursionLimit) (hh : A.handled = none) :
    Pure w A s (call (.ref 104) [.ref l]) (RowsR s ns) := by
  intro Q E hret
  obtain ⟨hnd, dp, frs, gds, uns⟩ := A
  dsimp only at hh hroom
  subst hh
  refine' enterC (by assumption) (by assumption) ?zzk6 ?zzk7 ?zzk8 ?zzk9 ?zzkB ?zzkD ?_ ?zzc2 ?zzc3 ?zzc4; (case zzk6 => k_is); (case zzk7 => k_is); (case zzk8 => dsimp only; omega); (case zzk9 => exact BindsTo.of_eq rfl); (case zzkB => exact rfl); (case zzkD => decide +kernel); (case zzc2 => exact rfl); (case zzc3 => exact rfl); (case zzc4 => exact rfl)
  intro L' h' tk' cells' F' N' Y'
  k_cells Y'
  (try dsimp only)
  (try k_fold)
  k_steps
  rename_i oc d1 a1 _ b1 a2 _ b2 a3 _ b3 a4 _ b4 a5 _ b5 a6 _ b6 D _ b7 _ _ _ _ _ _ hF FF NN
  refine for_rows (h₀ := s.heap) (ns := ns) a1 a2 a3 a4 a5 (L' + 1) rfl hl hns FF (fun p hp => NN p (List.mem_cons_of_mem _ hp)) ?_ (by rfl) (by rfl) (fun _ => rfl) ?_ ?_ ?_ ?_
  · refine ⟨⟨[], 0, [], 0, [], 0, [], 0, 0, a6, 0, oc, _, rfl, d1, (by omega), rfl, fun _ _ _ => rfl, .nil, .nil, .nil, .nil⟩⟩
  · intro Q' h
    k_dflt (refine' nameX_L ?zzF9 ?zzv9 ?_ ?zza9 ?zzb9; (case zzF9 => assumption); (case zza9 => rfl); (case zzb9 => rfl); (case zzv9 => rfl))
    exact h
  · intro i n t m₁ news₁ I oI h tk hn hJ hI F N
    obtain ⟨v1, c1, v2, c2, v3, c3, v4, c4, c5, a6', c6, oc', u, rfl, hoc, h56, hm1, hm2, r1, r2, r3, r4⟩ := hJ.ex
    replace F := fr_norm hm1 hm2 F
    change Fr s.heap L' h _ at F
    change News s.heap L' h _ at N
    have i6 : @Ne Nat a6' I := hI _ (List.Mem.head _)
    have i5 : @Ne Nat a5 I := hI _ (.tail _ (List.Mem.head _))
    have i4 : @Ne Nat a4 I := hI _ (.tail _ (.tail _ (List.Mem.head _)))
    have i3 : @Ne Nat a3 I := hI _ (.tail _ (.tail _ (.tail _ (List.Mem.head _))))
    have i2 : @Ne Nat a2 I := hI _ (.tail _ (.tail _ (.tail _ (.tail _ (List.Mem.head _)))))
    have i1 : @Ne Nat a1 I := hI _ (.tail _ (.tail _ (.tail _ (.tail _ (.tail _ (List.Mem.head _))))))
    have i0 : @Ne Nat (L' + 1) I := hI _ (.tail _ (.tail _ (.tail _ (.tail _ (.tail _ (.tail _ (List.Mem.head _)))))))
    obtain ⟨b20, b21⟩ := b2
    obtain ⟨b30, b31, b32⟩ := b3
    obtain ⟨b40, b41, b42, b43⟩ := b4
    obtain ⟨b50, b51, b52, b53, b54⟩ := b5
    clear b6
    have h46 := Nat.lt_trans b50 h56
    have h36 := Nat.lt_trans b51 h56
    have h26 := Nat.lt_trans b52 h56
    have h16 := Nat.lt_trans b53 h56
    have h06 := Nat.lt_trans b54 h56
    have hin : i < ns.length := by
      rcases Nat.lt_or_ge i ns.length with q | q
      · exact q
      · rw [List.getElem?_eq_none q] at hn; cases hn
    have hv1 := r1.length
    rw [rowOf_length, List.length_take] at hv1
    clear hI hJ FF NN d1 b7
    have hlC : (rowOf kC (ns.take i)).length < 2 ^ 20 := by rw [rowOf_length, List.length_take]; omega
    have hlP : (rowOf kR (ns.take i)).length < 2 ^ 20 := by rw [rowOf_length, List.length_take]; omega
    have hlI : ((rowOf kC (ns.take i)).map kC).length < 2 ^ 20 := by rw [List.length_map]; exact hlC
    have hlS : ((rowOf kR (ns.take i)).map kP).length < 2 ^ 20 := by rw [List.length_map]; exact hlP
    (try dsimp only)
    (try k_fold)
    obtain ⟨th, hth⟩ : ∃ th, thOf n = th := ⟨_, rfl⟩
    refine wpAny_execs_cons ?_
    refine join_th (th := th) F N ?_ ?_
    · intro Q9 hQ9
      clear r1 r2 r3 r4 hv1 hlC hlP hlI hlS hm1 hm2 hn
      k_steps
      all_goals refine hQ9 _ _ _ ?_ (by assumption) (by assumption)
      all_goals rw [← hth]
      all_goals first | (rw [th_odd (by assumption)]; exact ThV.i _ _) | (rw [th_even (by assumption)]; exact ThV.c _ _ (fmod55 _))
    · clear F N
      intro v9 h9 tk9 hv9 F9 N9
      (try dsimp only)
      k_steps
      all_goals (
        refine rows_close (by assumption) (by assumption) hn (by k_mem) (by k_mem) (by k_mem) (by k_mem) (by k_mem) (by k_mem) (by k_mem) ⟨_, by assumption⟩ rfl (by k_mem) hth (by first | exact lf_yes (by assumption) | exact lf_no (by assumption)) hv9 ?_ ?_ r1 r2 r3 r4 (by k_ne) i5 i4 i3 i2 i1 i0 (l1 (a5, _) (by k_mem)) ?_
        · simp only [Int.toNat_natCast, insAt, posOf, List.append_assoc, List.singleton_append, List.cons_append, List.nil_append, kC]
        · rfl
        · intro z h2 h3
          have q1 : z ≠ Str.ofString "n" := by intro e; rw [e] at h3; exact absurd h3 (by decide)
          have q2 : z ≠ Str.ofString "thing" := by intro e; rw [e] at h3; exact absurd h3 (by decide)
          have q3 : z ≠ Str.ofString "text" := by intro e; rw [e] at h3; exact absurd h3 (by decide)
          have q4 : z ≠ Str.ofString "ahead" := by intro e; rw [e] at h3; exact absurd h3 (by decide)
          simp only [if_neg h2, if_neg q1, if_neg q2, if_neg q3, if_neg q4, h3, Bool.false_eq_true, if_false])
  · intro m₁ news₁ h tk hJ F N
    obtain ⟨v1, c1, v2, c2, v3, c3, v4, c4, c5, a6', c6, oc', u, rfl, hoc, h56, hm1, hm2, r1, r2, r3, r4⟩ := hJ.ex
    rw [List.take_length] at r1 r2 r3 r4
    replace F := fr_norm (y := Str.ofString "n") (ov := m₁ (Str.ofString "n")) hm1 hm2 (by
      have e : (fun z => if z = Str.ofString "n" then m₁ (Str.ofString "n") else m₁ z) = m₁ := by funext z; by_cases q : z = Str.ofString "n" <;> simp [q]
      rw [e]; exact F)
    change Fr s.heap L' h _ at F
    change News s.heap L' h _ at N
    clear hJ FF NN d1 b7
    (try dsimp only)
    (try k_fold)
    k_steps
    rename_i T _ _ FZ NZ
    refine hret _ _ _ ?_ (Fr.keep (by assumption))
    refine ⟨_, a1, a2, a3, a4, a5, a6', v1, c1, v2, c2, v3, c3, v4, c4, c5, c6, rfl, ?_, r1, r2, r3, r4⟩
    intro p hp
    have z := FZ p (List.mem_append_left [(L' + 1, oc')] hp)
    exact ⟨z.1, z.2.2⟩
  · with_unfolding_all passes_own
end
end
/-! Edges -/
section
theorem fill6 (w : World) (h : Heap) : (hd.heap_39 w.params).In h → PySem.Challenge.rw_pk0064_01.prog = PySem.Challenge.rw_pk0064_01.prog := by
  k_fill
  intro _; rfl
def marks : List Int := [64, 320, 256, 510, 446, 68, 254, 0, 255, 190]
def words : List Str := [⟨#[32]⟩, ⟨#[33, 32]⟩, ⟨#[33, 94, 64]⟩, ⟨#[33, 94, 159]⟩, ⟨#[33, 95]⟩, ⟨#[34]⟩, ⟨#[94, 63]⟩, ⟨#[94, 64]⟩, ⟨#[94, 159]⟩, ⟨#[95]⟩]
section
variable {w : World} {A : Around} {s : Shared} {p : Program} {loose : List Str} {mean : ExcName → Option Value} {mg mb : Str → Option Value}
def EdgesR (s : Shared) (v : Value) (h' : Heap) : Prop :=
  ∃ T a1 a2 v1 c1 v2 c2, v = .ref T ∧ (∀ p ∈ ([(T, ({ cls := .type "tuple", data := .seq #[.ref a1, .ref a2] } : Obj)), (a2, PySem.W.listOf (List.toArray v2) c2), (a1, PySem.W.listOf (List.toArray v1) c1)] : Led), h'.get? p.1 = some p.2 ∧ s.heap.get? p.1 = none) ∧
    Are IntV v1 marks ∧ Are StrV v2 words
theorem strv {x y : Str} {t : Tok} (h : x = y) : StrV (.str x t) y := ⟨t, by rw [h]⟩
theorem edges_spec (X : (hd.heap_39 w.params).In s.heap) (T : Top p loose mean mg mb s.heap) (hroom : A.depth + 1 < recursionLimit) :
    Pure w A s (call (.ref 99) []) (EdgesR s) := by
  intro Q E hret
  refine' enter (by assumption) (by assumption) ?k6 ?k7 ?k8 ?k9 ?kB ?_ ?c2 ?c3 ?c4 ?c5; (case k6 => k_is); (case k7 => k_is); (case k8 => omega); (case k9 => exact BindsTo.of_eq rfl); (case c5 => decide); (case kB => exact locs rfl); (case c2 => exact rfl); (case c3 => exact rfl); (case c4 => exact rfl)
  intro L' h' F' N'
  (try dsimp only)
  (try k_fold)
  k_steps
  rename_i FZ NZ _
  refine hret _ _ _ ?_ (Fr.keep (by assumption))
  refine ⟨_, _, _, _, _, _, _, rfl, fun p hp => ⟨(NZ p hp).1, (NZ p hp).2.2⟩, ?_, ?_⟩
  · unfold marks
    repeat' (first | exact Are.nil | refine Are.cons ⟨_, rfl⟩ ?_)
  · unfold words
    repeat' (first | exact Are.nil | refine Are.cons (strv (by decide +kernel)) ?_)
end
end
/-! Counts -/
section
theorem fill7 (w : World) (h : Heap) : (hd.heap_39 w.params).In h → PySem.Challenge.rw_pk0064_01.prog = PySem.Challenge.rw_pk0064_01.prog := by
  k_fill
  intro _; rfl

/-- a new list is handed back -/
def RList {β : Type} (s : Shared) (R' : Value → β → Prop) (bs : List β) (v : Value) (h' : Heap) : Prop :=
  ∃ D ys n, v = .ref D ∧ h'.get? D = some (PySem.W.listOf (List.toArray ys) n) ∧ s.heap.get? D = none ∧ Are R' ys bs

theorem lnCounts0 : True := by
  k_with_none
  k_with "my X" => (refine' Frag.In.keeps ?zzx (Fr.keep ?zzf); (case zzf => assumption); (case zzx => assumption))
  k_with "my T" => (refine' Top.keeps ?zzx (Fr.keep ?zzf); (case zzf => assumption); (case zzx => assumption))
  k_with "my room" => ((try simp only [depth_deeper, depth_in1]); omega)
  k_with "eval ListComp" => (refine Stopped.go ?_)
  k_with "eval Name" => (k_dflt (first
      | (refine' nameY_L ?zzF ?zzv ?_ ?zza ?zzb ?zzc ?zzd; (case zzF => k_asm); (case zzv => assumption); (case zza => rfl); (case zzb => rfl); (case zzc => rfl); (case zzd => decide); k_whole)
      | (refine' nameY_D ?zzN ?zzm ?zzd ?_ ?zzc ?zzb ?zzx ?zzn; (case zzc => rfl); (case zzb => rfl); (case zzx => rfl); (case zzn => decide); (case zzN => k_asm); (case zzm => k_mem); (case zzd => assumption); k_whole)
      | (refine' nameY_C ?zzF ?zzN ?zzm ?zzd ?_ ?zzc ?zzb ?zzx ?zzn; (case zzF => k_asm); (case zzc => rfl); (case zzb => rfl); (case zzx => rfl); (case zzn => decide); (case zzN => k_asm); (case zzm => k_mem); (case zzd => assumption); k_whole)))
  k_with "TestEnd" => (refine' And.intro ?zze (TEnd.intro ?zzF ?zzN ?zzs); (case zzF => assumption); (case zzN => assumption); (case zzs => exact fun _ h => h); (case zze => rfl))
  k_with "EltP" => (refine' And.intro ?zze (TEnd.intro ?zzF ?zzN ?zzs); (case zzF => assumption); (case zzN => assumption); (case zzs => exact fun _ h => h); (case zze => first | assumption | exact ⟨_, rfl⟩))
  k_with "call builtin:len" => (
      (with_unfolding_all refine' len_at ?zza ?zzl ?zzz ?_); (case zzl => exact News.isList (by assumption) (by k_mem)); (case zza => assumption); (case zzz => assumption); k_whole)
  exact trivial

section
variable {w : World} {A : Around} {s : Shared} {p : Program} {loose : List Str} {mean : ExcName → Option Value} {mg mb : Str → Option Value}
theorem counts_ints {r mk : Addr} {vs us : List Value} {row ms : List Int} {lo hi : Int} {tl th : Tok} (hl : s.heap.IsList r vs.toArray) (hr : Are IntV vs row) (hm : s.heap.IsList mk us.toArray) (hu : Are IntV us ms) (hz : row.length < 2 ^ 20) (hz2 : ms.length < 2 ^ 20)
    (X : (hd.heap_39 w.params).In s.heap) (T : Top p loose mean mg mb s.heap) (hroom : A.depth + 2 < recursionLimit) (hh : A.handled = none) :
    Pure w A s (call (.ref 109) [.ref r, .ref mk, .int lo tl, .int hi th]) (RList s IntV (ms.map fun x => max lo (min hi ((row.filter fun a => decide (a < x)).length : Int)))) := by
  intro Q E hret
  obtain ⟨hnd, dp, frs, gds, uns⟩ := A
  dsimp only at hh hroom
  subst hh
  refine' enterC (by assumption) (by assumption) ?zzk6 ?zzk7 ?zzk8 ?zzk9 ?zzkB ?zzkD ?_ ?zzc2 ?zzc3 ?zzc4; (case zzk6 => k_is); (case zzk7 => k_is); (case zzk8 => dsimp only; omega); (case zzk9 => exact BindsTo.of_eq rfl); (case zzkB => exact rfl); (case zzkD => decide +kernel); (case zzc2 => exact rfl); (case zzc3 => exact rfl); (case zzc4 => exact rfl)
  intro L' h' tk' cells' F' N' Y'
  k_cells Y'
  (try dsimp only)
  (try k_fold)
  k_steps
  unfold Stopped
  rename_i o1 o2 o3 d1 d2 d3
  change o1.data = .cell (some (.int hi th)) at d1
  change o2.data = .cell (some (.int lo tl)) at d2
  change o3.data = .cell (some (.ref r)) at d3
  have hl' : h'.IsList r vs.toArray := stays_list F'.keep hl
  have hm' : h'.IsList mk us.toArray := stays_list F'.keep hm
  refine compNEC (xv := .ref mk) (fun _ => true) (fun x => max lo (min hi ((row.filter fun a => decide (a < x)).length : Int))) IntV F' N' X T (src_list rfl hm' hu (by simp only [sizeLine]; omega)) ?zzhit (by with_unfolding_all rfl) (fun _ _ => rfl) (fun _ => rfl) rfl (by decide) rfl (fun _ => rfl) ?_ ?_ ?_
  case zzhit =>
    intro Q9 h9
    k_dflt (refine' nameX_L ?zzF9 ?zzv9 ?_ ?zza9 ?zzb9; (case zzF9 => assumption); (case zza9 => rfl); (case zzb9 => rfl); (case zzv9 => rfl))
    exact h9
  · intro C I D c a v h tk m₂ oc oI oD rest E' i0 i1 i2 i3 ha hv hoc F N X T
    exact tests_nil ⟨rfl, TEnd.intro F N fun _ h => h⟩
  · intro C I D c x v h tk m₂ oc oI oD rest E' i0 i1 i2 i3 ha _ hv hoc F N X T
    obtain ⟨t, rfl⟩ := hv
    have hlh : h.IsList r vs.toArray := stays_list F.keep hl'
    (try k_fold)
    k_steps
    unfold Stopped
    refine compNEL (xv := .ref r) (fun a => decide (a < x)) (fun a => a) IntV F N X T (src_list rfl hlh hr (by simp only [sizeLine]; omega)) ?zzhit (by with_unfolding_all rfl) (by decide) rfl (by decide) rfl (fun _ => rfl) ?_ ?_ ?_
    case zzhit =>
      intro Q9 h9
      walk_at "eval Name"
      exact h9
    · intro C I D a v h tk m₂ oI oD rest E' i0 i1 i2 ha hv hmx F N X T
      obtain ⟨t, rfl⟩ := hv
      refine tests_one ?_
      k_steps
    · intro C I D a v h tk m₂ oI oD rest E' i0 i1 i2 ha _ hv hmx F N X T
      k_steps
    · intro D h'' tk'' ys nD hlt F N hA
      rw [List.map_id'] at hA
      have hzz : (row.filter fun a => decide (a < x)).length < 2 ^ 20 := Nat.lt_of_le_of_lt (List.length_filter_le _ _) hz
      k_steps
      refine ⟨⟨_, congrArg (fun k => Value.int k _) ?_⟩, TEnd.intro (by assumption) (by assumption) (fun _ h => by repeat (first | exact h | apply List.Mem.tail))⟩
      generalize ((row.filter fun a => decide (a < x)).length : Int) = k
      (repeat' split) <;> omega
  · intro D h'' tk'' ys nD hlt F N hA
    k_steps
    refine hret _ _ _ ?_ (Fr.keep (by assumption))
    exact ⟨D, ys, nD, rfl, (N _ (.head _)).1, (N _ (.head _)).2.2, by rw [filter_allG] at hA; exact hA⟩
theorem counts_strs {r mk : Addr} {vs us : List Value} {row ms : List Str} {lo hi : Int} {tl th : Tok} (hl : s.heap.IsList r vs.toArray) (hr : Are StrV vs row) (hm : s.heap.IsList mk us.toArray) (hu : Are StrV us ms) (hz : row.length < 2 ^ 20) (hz2 : ms.length < 2 ^ 20)
    (X : (hd.heap_39 w.params).In s.heap) (T : Top p loose mean mg mb s.heap) (hroom : A.depth + 2 < recursionLimit) (hh : A.handled = none) :
    Pure w A s (call (.ref 109) [.ref r, .ref mk, .int lo tl, .int hi th]) (RList s IntV (ms.map fun x => max lo (min hi ((row.filter fun a => decide (a.cps.toList < x.cps.toList)).length : Int)))) := by
  intro Q E hret
  obtain ⟨hnd, dp, frs, gds, uns⟩ := A
  dsimp only at hh hroom
  subst hh
  refine' enterC (by assumption) (by assumption) ?zzk6 ?zzk7 ?zzk8 ?zzk9 ?zzkB ?zzkD ?_ ?zzc2 ?zzc3 ?zzc4; (case zzk6 => k_is); (case zzk7 => k_is); (case zzk8 => dsimp only; omega); (case zzk9 => exact BindsTo.of_eq rfl); (case zzkB => exact rfl); (case zzkD => decide +kernel); (case zzc2 => exact rfl); (case zzc3 => exact rfl); (case zzc4 => exact rfl)
  intro L' h' tk' cells' F' N' Y'
  k_cells Y'
  (try dsimp only)
  (try k_fold)
  k_steps
  unfold Stopped
  rename_i o1 o2 o3 d1 d2 d3
  change o1.data = .cell (some (.int hi th)) at d1
  change o2.data = .cell (some (.int lo tl)) at d2
  change o3.data = .cell (some (.ref r)) at d3
  have hl' : h'.IsList r vs.toArray := stays_list F'.keep hl
  have hm' : h'.IsList mk us.toArray := stays_list F'.keep hm
  refine compNEC (xv := .ref mk) (fun _ => true) (fun x => max lo (min hi ((row.filter fun a => decide (a.cps.toList < x.cps.toList)).length : Int))) IntV F' N' X T (src_list rfl hm' hu (by simp only [sizeLine]; omega)) ?zzhit (by with_unfolding_all rfl) (fun _ _ => rfl) (fun _ => rfl) rfl (by decide) rfl (fun _ => rfl) ?_ ?_ ?_
  case zzhit =>
    intro Q9 h9
    k_dflt (refine' nameX_L ?zzF9 ?zzv9 ?_ ?zza9 ?zzb9; (case zzF9 => assumption); (case zza9 => rfl); (case zzb9 => rfl); (case zzv9 => rfl))
    exact h9
  · intro C I D c a v h tk m₂ oc oI oD rest E' i0 i1 i2 i3 ha hv hoc F N X T
    exact tests_nil ⟨rfl, TEnd.intro F N fun _ h => h⟩
  · intro C I D c x v h tk m₂ oc oI oD rest E' i0 i1 i2 i3 ha _ hv hoc F N X T
    obtain ⟨t, rfl⟩ := hv
    have hlh : h.IsList r vs.toArray := stays_list F.keep hl'
    (try k_fold)
    k_steps
    unfold Stopped
    refine compNEL (xv := .ref r) (fun a => decide (a.cps.toList < x.cps.toList)) (fun a => a) StrV F N X T (src_list rfl hlh hr (by simp only [sizeLine]; omega)) ?zzhit (by with_unfolding_all rfl) (by decide) rfl (by decide) rfl (fun _ => rfl) ?_ ?_ ?_
    case zzhit =>
      intro Q9 h9
      walk_at "eval Name"
      exact h9
    · intro C I D a v h tk m₂ oI oD rest E' i0 i1 i2 ha hv hmx F N X T
      obtain ⟨t, rfl⟩ := hv
      refine tests_one ?_
      k_steps
    · intro C I D a v h tk m₂ oI oD rest E' i0 i1 i2 ha _ hv hmx F N X T
      k_steps
    · intro D h'' tk'' ys nD hlt F N hA
      rw [List.map_id'] at hA
      have hzz : (row.filter fun a => decide (a.cps.toList < x.cps.toList)).length < 2 ^ 20 := Nat.lt_of_le_of_lt (List.length_filter_le _ _) hz
      k_steps
      refine ⟨⟨_, congrArg (fun k => Value.int k _) ?_⟩, TEnd.intro (by assumption) (by assumption) (fun _ h => by repeat (first | exact h | apply List.Mem.tail))⟩
      generalize ((row.filter fun a => decide (a.cps.toList < x.cps.toList)).length : Int) = k
      (repeat' split) <;> omega
  · intro D h'' tk'' ys nD hlt F N hA
    k_steps
    refine hret _ _ _ ?_ (Fr.keep (by assumption))
    exact ⟨D, ys, nD, rfl, (N _ (.head _)).1, (N _ (.head _)).2.2, by rw [filter_allG] at hA; exact hA⟩
end
end
/-! Cut -/
section
theorem fill8 (w : World) (h : Heap) : (hd.heap_39 w.params).In h → PySem.Challenge.rw_pk0064_01.prog = PySem.Challenge.rw_pk0064_01.prog := by
  k_fill
  intro _; rfl

def NatV (v : Value) (k : Nat) : Prop := ∃ t, v = .int (k : Int) t
section
variable {prog : Program} {w : World} {A : Around} {E : Value → Shared → Prop} {s s₁ : Shared} {h₀ : Heap} {L : Addr} {m : Str → Option Value} {news : Led} {Q : Value → Shared → Prop}
theorem src_range {r : Addr} {n : Nat} {t u v : Tok} (hh : A.handled = none) (hr : IsRange s₁.heap r 0 (n : Int) 1 t u v) (hn : n < 2 ^ 20) : Src prog w A s₁ (.ref r) (List.range n) NatV := by
  refine ⟨by rw [List.length_range]; simp only [sizeLine]; omega, fun Q E h => ?_⟩
  rw [List.length_range] at h
  refine wpAny_pyIter_range hr (small_one (by omega) (by omega) (by omega) (by omega)) (h _ _ _ _ _ s₁.toks (LCg.range_walks (prog := prog) (w := w) hh 0 n) ?_ ?_ ?_ (Nat.le_refl _) ?_ ?_ ?_)
  · rintro i v ⟨t, rfl⟩ a ha
    have e : a = i := by
      rcases Nat.lt_or_ge i n with q | q
      · rw [List.getElem?_range q] at ha; exact (Option.some.inj ha).symm
      · rw [List.getElem?_eq_none (by simpa using q)] at ha; cases ha
    subst e
    exact ⟨t, by rw [Int.zero_add]⟩
  · intro i h st; exact ⟨_, st⟩
  · intro b hb hbI; exact absurd (List.mem_singleton.mp hb) hbI
  · rw [Heap.size_push]; exact Nat.lt_succ_self _
  · intro b o e; exact Heap.get?_push_of_some _ e
  · have e : Builtin.Range.rangeSize 0 (n : Int) 1 = (n : Int) := by rw [rangeSize_one]; split <;> omega
    show IsRangeIter _ _ _ _ _
    rw [e]
    simpa using Heap.get?_push_size _ rfl
theorem range_1 {n : Int} {t : Tok} (F : Fr h₀ L s.heap m) (N : News h₀ L s.heap news)
    (h : ∀ r h' tk t1 t2, Fr h₀ L h' m → News h₀ L h' ((r, ({ cls := .type "range", data := .fields #[.int 0 t1, .int n t, .int 1 t2] } : Obj)) :: news) → (∀ p ∈ news, p.1 < r) → Q (.ref r) { s with heap := h', toks := tk }) :
    wpAny (model prog w) A (call (.type "range") [.int n t]) Q E s :=
  call_range_1 (h _ _ _ _ _ (F.push _) (News.push F N _) fun p hp => Heap.lt_size (N p hp).1)
theorem pick_run' {vs : List Value} {x y : Int} (h : 0 ≤ x) (h2 : 0 ≤ y) : (slicePick vs.toArray (some x) (some y) none).toList = (vs.drop x.toNat).take (min y.toNat vs.length - x.toNat) := by
  have e : sliceBounds (some x) (some y) none vs.toArray.size = (((min x.toNat vs.toArray.size : Nat) : Int), ((min y.toNat vs.toArray.size : Nat) : Int), 1) := by
    simp only [sliceBounds, Option.getD_none, show (1 : Int) > 0 by decide, if_true, if_neg (show ¬ (x < 0) by omega), if_neg (show ¬ (y < 0) by omega)]
    congr 1
    · omega
    · congr 1; omega
  rw [kmk_pick_nat _ e]
  show (vs.drop (min x.toNat vs.toArray.size)).take (min y.toNat vs.toArray.size - min x.toNat vs.toArray.size) = _
  rw [List.size_toArray, kmk_drop_min]
  by_cases q : x.toNat ≤ vs.length
  · rw [Nat.min_eq_left q]
  · rw [List.drop_of_length_le (by omega)]; simp
end

theorem compELF {α β : Type} {env : Env} {elt iter : PySem.Expr} {x : Str} {px : Pos} {ifs : List PySem.Expr} {scope : Scope} {cl : List (Str × Addr)} {pos : Pos} {prog : Program} {w : World} {A : Around} {E : Value → Shared → Prop} {s : Shared} {h₀ : Heap} {L : Addr} {m : Str → Option Value} {Q : Value → Shared → Prop} (F₀ : Fr h₀ L s.heap m) (as : List α) (pz : α → Bool) (f : α → β) (Rv : Value → α → Prop) (G : Value → β → Led → Prop)
    (hclos : closureFor scope env = pure cl) (hcell : ∀ y ∈ scope.names, y.2 ≠ .cell) (hkind : scope.kind = .function)
    (hnames : ∀ y ∈ scope.names, y.2 = .local → scope.names.lookup y.1 = some .local) (hx : scope.names.lookup x = some .local) (hGm : ∀ y b l l', (∀ p ∈ l, p ∈ l') → G y b l → G y b l')
    (h : wpAny (model prog w) A (eval iter env) (CGoL prog w A h₀ L m env elt x ifs scope cl as pz f Rv G (fun _ h' D _ _ _ s' => Fr h₀ L h' m → Q (.ref D) s')) E s)
    (hs : ∀ x, foldedSetIterable iter env x = pure x) :
    wpAny (model prog w) A (eval (.ListComp elt [⟨.Name x px, iter, ifs, 0⟩] scope pos) env) Q E s := by
  have _ := F₀
  exact compEL as pz f Rv G hclos hcell hkind hnames hx hGm h hs

/-- a piece of a row -/
def cutAt {α : Type} (l : List α) (b e : Int) : List α := (l.drop b.toNat).take (min e.toNat l.length - b.toNat)
def GThs (y : Value) (b : List Th) (led : Led) : Prop := ∃ T items n, y = .ref T ∧ (T, PySem.W.listOf (List.toArray items) n) ∈ led ∧ Are ThV items b
theorem GThs.mono (y : Value) (b : List Th) (l l' : Led) (h : ∀ p ∈ l, p ∈ l') (g : GThs y b l) : GThs y b l' := by
  obtain ⟨T, items, n, rfl, hm, r⟩ := g; exact ⟨T, items, n, rfl, h _ hm, r⟩
def CutR (s : Shared) (bs : List (List Th)) (v : Value) (h' : Heap) : Prop :=
  ∃ D ys n rest, v = .ref D ∧ (∀ p ∈ (D, PySem.W.listOf (List.toArray ys) n) :: rest, h'.get? p.1 = some p.2 ∧ s.heap.get? p.1 = none) ∧ Ares GThs rest ys bs

theorem lnCut0 : True := by
  k_with_none
  k_with "eval ListComp" => (refine Stopped.go ?_)
  k_with "eval Name" => (k_dflt (first
      | (refine' nameY_L ?zzF ?zzv ?_ ?zza ?zzb ?zzc ?zzd; (case zzF => k_asm); (case zzv => assumption); (case zza => rfl); (case zzb => rfl); (case zzc => rfl); (case zzd => decide); k_whole)
      | (refine' nameY_D ?zzN ?zzm ?zzd ?_ ?zzc ?zzb ?zzx ?zzn; (case zzc => rfl); (case zzb => rfl); (case zzx => rfl); (case zzn => decide); (case zzN => k_asm); (case zzm => k_mem); (case zzd => assumption); k_whole)
      | (refine' nameY_C ?zzF ?zzN ?zzm ?zzd ?_ ?zzc ?zzb ?zzx ?zzn; (case zzF => k_asm); (case zzc => rfl); (case zzb => rfl); (case zzx => rfl); (case zzn => decide); (case zzN => k_asm); (case zzm => k_mem); (case zzd => assumption); k_whole)))
  k_with "my lst" => (refine' stays_list (Fr.keep ?zzf) ?zzx; (case zzf => assumption); (case zzx => assumption))
  k_with "call builtin:len" => (
      (with_unfolding_all refine' len_at ?zza ?zzl ?zzz ?_); (case zzl => walk_at "my lst"); (case zza => assumption); (case zzz => assumption); k_whole)
  k_with "call type:range" => (
      (with_unfolding_all refine' range_1 ?zzF ?zzN ?_); (case zzF => assumption); (case zzN => assumption); k_whole; intro r' h' tk' t1' t2' F' N' l1; (try k_lt l1); (try k_sweep))
  k_with "subscriptTail Name Name ref int" => (
      (with_unfolding_all refine' item_atI ?zza ?zzl ?zzk ?zzz ?_); (case zzl => walk_at "my lst"); (case zza => assumption); (case zzk => omega); (case zzz => assumption); k_whole; intro a' t' e')
  k_with "subscriptTail Name Slice ref ref" => (refine Stopped.go ?_)
  exact trivial

section
variable {w : World} {A : Around} {s : Shared} {p : Program} {loose : List Str} {mean : ExcName → Option Value} {mg mb : Str → Option Value}
theorem cut_spec {r bg en : Addr} {vs us xs : List Value} {row : List Th} {bs es : List Int} (hl : s.heap.IsList r vs.toArray) (hr : Are ThV vs row) (hb : s.heap.IsList bg us.toArray) (hbs : Are IntV us bs) (he : s.heap.IsList en xs.toArray) (hes : Are IntV xs es)
    (hz : row.length < 2 ^ 20) (hz1 : bs.length < 2 ^ 20) (hz2 : es.length < 2 ^ 20) (hle : es.length = bs.length) (hb0 : ∀ b ∈ bs, 0 ≤ b) (he0 : ∀ b ∈ es, 0 ≤ b)
    (X : (hd.heap_39 w.params).In s.heap) (T : Top p loose mean mg mb s.heap) (hroom : A.depth + 2 < recursionLimit) (hh : A.handled = none) :
    Pure w A s (call (.ref 114) [.ref r, .ref bg, .ref en]) (CutR s ((List.range bs.length).map fun k => cutAt row (bs.getD k 0) (es.getD k 0))) := by
  intro Q E hret
  obtain ⟨hnd, dp, frs, gds, uns⟩ := A
  dsimp only at hh hroom
  subst hh
  refine' enterC (by assumption) (by assumption) ?zzk6 ?zzk7 ?zzk8 ?zzk9 ?zzkB ?zzkD ?_ ?zzc2 ?zzc3 ?zzc4; (case zzk6 => k_is); (case zzk7 => k_is); (case zzk8 => dsimp only; omega); (case zzk9 => exact BindsTo.of_eq rfl); (case zzkB => exact rfl); (case zzkD => decide +kernel); (case zzc2 => exact rfl); (case zzc3 => exact rfl); (case zzc4 => exact rfl)
  intro L' h' tk' cells' F' N' Y'
  k_cells Y'
  (try dsimp only)
  (try k_fold)
  k_steps
  unfold Stopped
  rename_i o1 o2 o3 d1 d2 d3
  change o1.data = .cell (some (.ref en)) at d1
  change o2.data = .cell (some (.ref bg)) at d2
  change o3.data = .cell (some (.ref r)) at d3
  refine compELF F' (List.range bs.length) (fun _ => true) (fun k => cutAt row (bs.getD k 0) (es.getD k 0)) NatV GThs (by with_unfolding_all rfl) (by decide) rfl (by decide) rfl GThs.mono ?_ (fun _ => rfl)
  k_steps
  have hlZ := stays_list F'.keep hl
  have hbZ := stays_list F'.keep hb
  have heZ := stays_list F'.keep he
  refine ⟨_, F', N', src_range rfl (N' _ (.head _)).1 hz1, ?_, ?_, ?_⟩
  · intro C I D a v h tk m₂ oI oD rest E' i0 i1 i2 ha hv hmx F N
    exact tests_nil ⟨rfl, TEnd.intro F N fun _ h => h⟩
  · intro C I D k v h tk m₂ oI oD rest E' i0 i1 i2 ha _ hv hmx F N
    obtain ⟨t, rfl⟩ := hv
    have hk : k < bs.length := List.mem_range.mp ha
    dsimp only at F N
    (try dsimp only)
    (try k_fold)
    k_steps
    unfold Stopped
    rename_i x _ hx
    have x0 := hb0 x (List.mem_of_getElem? hx)
    have y0 := he0 a' (List.mem_of_getElem? e')
    refine kmk_slice_lit F N (stays_list F.keep hlZ) (IsPart.int _ _) (IsPart.int _ _) (pick_run' x0 y0) ?_ (by with_unfolding_all rfl) (fun _ => rfl) (by simp only [List.size_toArray, sizeLine]; rw [hr.length]; omega)
    intro D2 h2 F2 N2 l2
    refine ⟨[(D2, PySem.W.listOf (List.toArray ((vs.drop x.toNat).take (min a'.toNat vs.length - x.toNat))) 0)], ⟨D2, (vs.drop x.toNat).take (min a'.toNat vs.length - x.toNat), 0, rfl, .head _, ?_⟩, ?_, TEnd.intro F2 N2 ?_⟩
    · rw [Int.toNat_natCast] at hx e'
      have ex : bs.getD k 0 = x := by rw [List.getD_eq_getElem?_getD, hx]; rfl
      have ey : es.getD k 0 = a' := by rw [List.getD_eq_getElem?_getD, e']; rfl
      rw [ex, ey]
      unfold cutAt
      rw [← hr.length]
      exact (hr.drop _).take _
    · intro q hq
      rw [List.mem_singleton.mp hq]
      refine ⟨fun e => ?_, fun e => ?_, fun q hq e => ?_⟩
      · exact absurd (l2 _ (.head _)) (by rw [← e]; exact Nat.lt_irrefl _)
      · exact absurd (l2 _ (.tail _ (.head _))) (by rw [← e]; exact Nat.lt_irrefl _)
      · exact absurd (l2 _ (List.mem_append_left _ hq)) (by rw [← e]; exact Nat.lt_irrefl _)
    · intro q hq
      simp only [List.mem_append, List.mem_cons, List.not_mem_nil, or_false] at hq ⊢
      rcases hq with ((h1 | h1) | h1) | h1
      · exact .inr (.inl (.inl h1))
      · exact .inr (.inl (.inr h1))
      · exact .inl h1
      · exact .inr (.inr h1)
  · intro D h2 tk2 ys nD rest hD hlt N2 hA F2
    k_steps
    refine hret _ _ _ ?_ (Fr.keep (by assumption))
    refine ⟨D, ys, nD, rest, rfl, fun q hq => ?_, by rw [filter_allG] at hA; exact hA⟩
    have z := N2 q (by
      rcases List.mem_cons.mp hq with rfl | hq
      · exact .head _
      · exact .tail _ (List.mem_append_left _ hq))
    exact ⟨z.1, z.2.2⟩
end
end
/-! Eqs -/
section
/-- a value that reads as a datum of small depth -/
structure DatAt (h : Heap) (v : Value) (d : PyData) (k : Nat) : Prop where
  r : ∃ as, Reads h v d as
  c : d.canLay0 = true
  dp : d.depth ≤ k
theorem DatAt.mono {h h' : Heap} {v : Value} {d : PyData} {k : Nat} (x : DatAt h v d k) (st : ∀ b o, h.get? b = some o → h'.get? b = some o) : DatAt h' v d k :=
  ⟨let ⟨as, r⟩ := x.r; ⟨as, Reads.keeps st r⟩, x.c, x.dp⟩
theorem dat_int {h : Heap} {v : Value} {i : Int} (x : IntV v i) : DatAt h v (.int i) 0 := by
  obtain ⟨t, rfl⟩ := x
  exact ⟨⟨_, .int i t⟩, rfl, Nat.le_refl _⟩
theorem dat_none {h : Heap} : DatAt h .none .none 0 := ⟨⟨_, .none⟩, rfl, Nat.le_refl _⟩
def OkS (x : Str) : Prop := PyData.canLay0 (.str x) = true
theorem okS_of {x : Str} (h : ∀ c ∈ x.cps.toList, c < 1114112) : OkS x := by
  show x.cps.all (fun c => decide (c < 0x110000)) = true
  rw [Array.all_eq_true']
  intro c hc
  exact decide_eq_true (h c (by simpa using hc))
theorem dat_str {h : Heap} {v : Value} {x : Str} (y : StrV v x) (ok : OkS x) : DatAt h v (.str x) 0 := by
  obtain ⟨t, rfl⟩ := y
  exact ⟨⟨_, .str x t⟩, ok, Nat.le_refl _⟩
def thD : Th → PyData
  | .i n => .int n
  | .c n => .str ⟨#[n]⟩
theorem dat_th {h : Heap} {v : Value} {t : Th} (x : ThV v t) : DatAt h v (thD t) 0 := by
  cases x with
  | i n t => exact dat_int ⟨t, rfl⟩
  | c n t hn => exact dat_str ⟨t, rfl⟩ (okS_of (by intro c hc; simp at hc; omega))
theorem dat_all {β : Type} {h : Heap} {R : Value → β → Prop} {g : β → PyData} {k : Nat} : ∀ {vs : List Value} {bs : List β}, Are R vs bs → (∀ v b, b ∈ bs → R v b → DatAt h v (g b) k) →
    (∃ as, ReadsAll h vs (bs.map g) as) ∧ PyData.canLayAll0 (bs.map g) = true ∧ PyData.depthAll (bs.map g) ≤ k
  | _, _, .nil, _ => ⟨⟨_, .nil⟩, rfl, Nat.zero_le _⟩
  | _, _, .cons (a := b) r x, hR => by
    obtain ⟨⟨as, h1⟩, h2, h3⟩ := dat_all x fun v b hb => hR v b (.tail _ hb)
    obtain ⟨⟨as', g1⟩, g2, g3⟩ := hR _ _ (.head _) r
    refine ⟨⟨_, .cons g1 h1⟩, ?_, ?_⟩
    · simp only [List.map_cons, PyData.canLayAll0, g2, h2, Bool.and_self]
    · simp only [List.map_cons, PyData.depthAll]; omega
theorem dat_list {β : Type} {h : Heap} {l : Addr} {n : Nat} {R : Value → β → Prop} {g : β → PyData} {k : Nat} {vs : List Value} {bs : List β} (hl : h.get? l = some (PySem.W.listOf (List.toArray vs) n)) (ha : Are R vs bs) (hR : ∀ v b, b ∈ bs → R v b → DatAt h v (g b) k) :
    DatAt h (.ref l) (.list (bs.map g)) (k + 1) := by
  obtain ⟨⟨as, h1⟩, h2, h3⟩ := dat_all ha hR
  refine ⟨⟨_, .list hl rfl rfl h1⟩, h2, ?_⟩
  simp only [PyData.depth]; omega
theorem dat_ares {β : Type} {h : Heap} {G : Value → β → Led → Prop} {led : Led} {g : β → PyData} {k : Nat} : ∀ {vs : List Value} {bs : List β}, Ares G led vs bs → (∀ v b, b ∈ bs → G v b led → DatAt h v (g b) k) →
    (∃ as, ReadsAll h vs (bs.map g) as) ∧ PyData.canLayAll0 (bs.map g) = true ∧ PyData.depthAll (bs.map g) ≤ k
  | _, _, .nil, _ => ⟨⟨_, .nil⟩, rfl, Nat.zero_le _⟩
  | _, _, .cons (b := b) r x, hR => by
    obtain ⟨⟨as, h1⟩, h2, h3⟩ := dat_ares x fun v b hb => hR v b (.tail _ hb)
    obtain ⟨⟨as', g1⟩, g2, g3⟩ := hR _ _ (.head _) r
    refine ⟨⟨_, .cons g1 h1⟩, ?_, ?_⟩
    · simp only [List.map_cons, PyData.canLayAll0, g2, h2, Bool.and_self]
    · simp only [List.map_cons, PyData.depthAll]; omega
theorem dat_pieces {h : Heap} {l : Addr} {n : Nat} {ys : List Value} {bs : List (List Th)} {led : Led} (hl : h.get? l = some (PySem.W.listOf (List.toArray ys) n)) (hled : ∀ p ∈ led, h.get? p.1 = some p.2) (ha : Ares GThs led ys bs) :
    DatAt h (.ref l) (.list (bs.map fun b => .list (b.map thD))) 2 := by
  obtain ⟨⟨as, h1⟩, h2, h3⟩ := dat_ares (h := h) (g := fun b : List Th => PyData.list (b.map thD)) (k := 1) ha (by
    rintro v b _ ⟨T, items, m, rfl, hm, r⟩
    exact dat_list (hled _ hm) r fun v b _ x => dat_th x)
  refine ⟨⟨_, .list hl rfl rfl h1⟩, h2, ?_⟩
  simp only [PyData.depth]; omega
theorem dat_two {h : Heap} {l : Addr} {n : Nat} {a b : Value} {da db : PyData} {k : Nat} (hl : h.get? l = some (PySem.W.listOf #[a, b] n)) (xa : DatAt h a da k) (xb : DatAt h b db k) : DatAt h (.ref l) (.list [da, db]) (k + 1) := by
  obtain ⟨⟨as, h1⟩, h2, h3⟩ := xa
  obtain ⟨⟨as', g1⟩, g2, g3⟩ := xb
  refine ⟨⟨_, .list hl rfl rfl (.cons h1 (.cons g1 .nil))⟩, ?_, ?_⟩
  · simp only [PyData.canLay0, PyData.canLayAll0, h2, g2, Bool.and_self]
  · simp only [PyData.depth, PyData.depthAll]; omega

section
variable {prog : Program} {w : World} {A : Around} {E : Value → Shared → Prop} {s : Shared} {Q : Value → Shared → Prop} {a b : Value} {d : PyData} {k : Nat}
theorem ne_same (xa : DatAt s.heap a d k) (xb : DatAt s.heap b d k) (hu : A.units + k < cLine) (h : Q (.bool false) s) : wpAny (model prog w) A (compareOp .NotEq a b) Q E s := by
  obtain ⟨as, ra⟩ := xa.r
  obtain ⟨bs, rb⟩ := xb.r
  refine SeqAt.compareNe_reads ra rb xa.c xb.c (by have := xa.dp; have := Nat.min_le_left d.depth d.depth; omega) ?_
  rw [SeqAt.eqv_refl d xa.c]; exact h
theorem eq_same (xa : DatAt s.heap a d k) (xb : DatAt s.heap b d k) (hu : A.units + k < cLine) (h : Q (.bool true) s) : wpAny (model prog w) A (compareOp .Eq a b) Q E s := by
  obtain ⟨as, ra⟩ := xa.r
  obtain ⟨bs, rb⟩ := xb.r
  refine SeqAt.compareEq_reads ra rb xa.c xb.c (by have := xa.dp; have := Nat.min_le_left d.depth d.depth; omega) ?_
  rw [SeqAt.eqv_refl d xa.c]; exact h
end

/-- a plain predicate for omega: an address off a ledger -/
def AllNe (d : Nat) : Led → Prop
  | [] => True
  | p :: r => @Ne Nat p.1 d ∧ AllNe d r
theorem allNe_of {d : Addr} : ∀ {l : Led}, (∀ p ∈ l, p.1 ≠ d) → AllNe d l
  | [], _ => trivial
  | p :: _, h => ⟨h p (.head _), allNe_of fun q hq => h q (.tail _ hq)⟩
theorem fresh_ne {h₀ h : Heap} {L a : Addr} {news : Led} (N : News h₀ L h news) (hf : h.get? a = none) : AllNe a news :=
  allNe_of fun p hp e => by have := (N p hp).1; rw [e, hf] at this; cases this
theorem news_add {s : Shared} {h₀ h' : Heap} {L : Addr} {m : Str → Option Value} {news : Led} (F : Fr h₀ L s.heap m) (N : News h₀ L s.heap news) (st : Stays s h') : ∀ {l : Led}, (∀ p ∈ l, h'.get? p.1 = some p.2 ∧ s.heap.get? p.1 = none) → News h₀ L h' (l ++ news) := fun {l} hl q hq => by
  rcases List.mem_append.mp hq with hq | hq
  · refine ⟨(hl q hq).1, fun e => ?_, ?_⟩
    · have := (hl q hq).2
      obtain ⟨o, _, _, ho, _⟩ := F.ns
      rw [e, ho] at this; cases this
    · cases e : h₀.get? q.1 with
      | none => rfl
      | some o => have := (hl q hq).2; rw [F.keep _ _ e] at this; cases this
  · exact ⟨st _ _ (N q hq).1, (N q hq).2⟩
end
/-! Law1 -/
section
theorem fold_rep (v : Value) : ∀ (k : Nat) (acc : Array Value), List.foldl (fun x1 x2 => x1 ++ x2) acc (List.replicate k #[v]) = acc ++ (List.replicate k v).toArray
  | 0, acc => by simp
  | k + 1, acc => by
    rw [List.replicate_succ, List.foldl_cons, fold_rep v k, List.replicate_succ]
    apply Array.toList_inj.mp
    simp
section
variable {prog : Program} {w : World} {A : Around} {E : Value → Shared → Prop} {s : Shared} {Q : Value → Shared → Prop} {h₀ : Heap} {L l : Addr} {m : Str → Option Value} {news : Led}
theorem none_mul {k c : Nat} {u : Tok} (F : Fr h₀ L s.heap m) (N : News h₀ L s.heap news) (hl : s.heap.get? l = some (PySem.W.listOf #[.none] c)) (hk : k < 2 ^ 20)
    (h : ∀ D h', Fr h₀ L h' m → News h₀ L h' ((D, PySem.W.listOf (List.toArray (List.replicate k Value.none)) 0) :: news) → (∀ p ∈ news, p.1 < D) → Q (.ref D) { s with heap := h' }) :
    wpAny (model prog w) A (binaryOp .Mult (.ref l) (.int (k : Int) u)) Q E s := by
  refine mul_list F N hl (by omega) (by omega) (by simp; omega) fun h' F' N' => ?_
  have e : List.foldl (fun x1 x2 => x1 ++ x2) #[] (List.replicate (if (#[Value.none] : Array Value).isEmpty = true then 0 else ((k : Int)).toNat) #[Value.none]) = (List.replicate k Value.none).toArray := by
    rw [if_neg (by simp), Int.toNat_natCast, fold_rep]; simp
  rw [e] at N'
  exact h _ h' F' N' fun p hp => Heap.lt_size (N p hp).1
theorem len_rep {k : Nat} (hl : s.heap.IsList l (List.toArray (List.replicate k Value.none))) (hk : k < 2 ^ 20) (h : Q (.int (k : Int) (s.toks + 1)) { s with toks := s.toks + 1 + 1 }) : wpAny (model prog w) A (call (.builtin "len") [.ref l]) Q E s := by
  have e : (List.toArray (List.replicate k Value.none)).size = k := by simp
  refine Calls.call_len_list hl (by omega) ?_
  rw [e]; exact h
theorem are_rep : ∀ k : Nat, Are (fun v (_ : Unit) => v = Value.none) (List.replicate k Value.none) (List.replicate k ())
  | 0 => .nil
  | k + 1 => .cons rfl (are_rep k)
theorem dat_rep {h : Heap} {k c : Nat} (hl : h.get? l = some (PySem.W.listOf (List.toArray (List.replicate k Value.none)) c)) : DatAt h (.ref l) (.list ((List.replicate k ()).map fun _ => PyData.none)) 1 :=
  dat_list (g := fun _ => PyData.none) hl (are_rep k) fun v _ _ e => by subst e; exact dat_none
end
section
variable {w : World} {A : Around} {s : Shared} {p : Program} {loose : List Str} {mean : ExcName → Option Value} {mg mb : Str → Option Value}
  {E : Value → Shared → Prop} {Q : Value → Shared → Prop} {h₀ : Heap} {L : Addr} {m : Str → Option Value} {news : Led}
theorem rows_framed {l : Addr} {its : List Value} {ns : List Int} (hl : s.heap.IsList l its.toArray) (hns : IntsAre its ns) (hlen : ns.length < 2 ^ 10)
    (X : (hd.heap_39 w.params).In s.heap) (T : Top p loose mean mg mb s.heap) (hroom : A.depth + 10 < recursionLimit) (hh : A.handled = none)
    (F : Fr h₀ L s.heap m) (N : News h₀ L s.heap news)
    (h : ∀ T a1 a2 a3 a4 a5 a6 v1 c1 v2 c2 v3 c3 v4 c4 c5 c6 h' tk', Fr h₀ L h' m →
      News h₀ L h' ((T, ({ cls := .type "tuple", data := .seq #[.ref a1, .ref a2, .ref a3, .ref a4, .ref a5, .ref a6] } : Obj)) :: (a6, PySem.W.listOf (List.toArray v1) c6) :: (a5, PySem.W.listOf (List.toArray (List.replicate (4 * ns.length) Value.none)) c5) :: (a4, PySem.W.listOf (List.toArray v4) c4) :: (a3, PySem.W.listOf (List.toArray v3) c3) ::
        (a2, PySem.W.listOf (List.toArray v2) c2) :: (a1, PySem.W.listOf (List.toArray v1) c1) :: news) →
      AllNe T news → AllNe a1 news → AllNe a2 news → AllNe a3 news → AllNe a4 news → AllNe a5 news → AllNe a6 news →
      Are ThV v1 (rowOf kC ns) → Are ThV v2 (rowOf kR ns) → Are IntV v3 ((rowOf kC ns).map kC) → Are StrV v4 ((rowOf kR ns).map kP) → Q (.ref T) { s with heap := h', toks := tk' }) :
    wpAny (model PySem.Challenge.rw_pk0064_01.prog w) A (call (.ref 104) [.ref l]) Q E s := by
  refine rows_spec hl hns hlen X T hroom hh Q E fun v h' tk' r k => ?_
  obtain ⟨T', a1, a2, a3, a4, a5, a6, v1, c1, v2, c2, v3, c3, v4, c4, c5, c6, rfl, hp, r1, r2, r3, r4⟩ := r
  refine h T' a1 a2 a3 a4 a5 a6 v1 c1 v2 c2 v3 c3 v4 c4 c5 c6 h' tk' (fr_stays F k) (news_add F N k hp) ?_ ?_ ?_ ?_ ?_ ?_ ?_ r1 r2 r3 r4
  · exact fresh_ne N (hp _ (.head _)).2
  · exact fresh_ne N (hp _ (.tail _ (.tail _ (.tail _ (.tail _ (.tail _ (.tail _ (.head _)))))))).2
  · exact fresh_ne N (hp _ (.tail _ (.tail _ (.tail _ (.tail _ (.tail _ (.head _))))))).2
  · exact fresh_ne N (hp _ (.tail _ (.tail _ (.tail _ (.tail _ (.head _)))))).2
  · exact fresh_ne N (hp _ (.tail _ (.tail _ (.tail _ (.head _))))).2
  · exact fresh_ne N (hp _ (.tail _ (.tail _ (.head _)))).2
  · exact fresh_ne N (hp _ (.tail _ (.head _))).2
theorem edges_framed (X : (hd.heap_39 w.params).In s.heap) (T : Top p loose mean mg mb s.heap) (hroom : A.depth + 1 < recursionLimit)
    (F : Fr h₀ L s.heap m) (N : News h₀ L s.heap news)
    (h : ∀ T a1 a2 v1 c1 v2 c2 h' tk', Fr h₀ L h' m →
      News h₀ L h' ((T, ({ cls := .type "tuple", data := .seq #[.ref a1, .ref a2] } : Obj)) :: (a2, PySem.W.listOf (List.toArray v2) c2) :: (a1, PySem.W.listOf (List.toArray v1) c1) :: news) →
      AllNe T news → AllNe a1 news → AllNe a2 news → Are IntV v1 marks → Are StrV v2 words → Q (.ref T) { s with heap := h', toks := tk' }) :
    wpAny (model PySem.Challenge.rw_pk0064_01.prog w) A (call (.ref 99) []) Q E s := by
  refine edges_spec X T hroom Q E fun v h' tk' r k => ?_
  obtain ⟨T', a1, a2, v1, c1, v2, c2, rfl, hp, r1, r2⟩ := r
  refine h T' a1 a2 v1 c1 v2 c2 h' tk' (fr_stays F k) (news_add F N k hp) ?_ ?_ ?_ r1 r2
  · exact fresh_ne N (hp _ (.head _)).2
  · exact fresh_ne N (hp _ (.tail _ (.tail _ (.head _)))).2
  · exact fresh_ne N (hp _ (.tail _ (.head _))).2
theorem Pure.framedL {β : Type} {t : Sem Value} {R' : Value → β → Prop} {bs : List β} (P : Pure w A s t (RList s R' bs)) (F : Fr h₀ L s.heap m) (N : News h₀ L s.heap news)
    (h : ∀ D ys n h' tk', Fr h₀ L h' m → News h₀ L h' ((D, PySem.W.listOf (List.toArray ys) n) :: news) → AllNe D news → Are R' ys bs → Q (.ref D) { s with heap := h', toks := tk' }) :
    wpAny (model PySem.Challenge.rw_pk0064_01.prog w) A t Q E s := by
  refine P Q E fun v h' tk' r k => ?_
  obtain ⟨D, ys, n, rfl, hp, hf, r⟩ := r
  exact h D ys n h' tk' (fr_stays F k) (news_add (l := [(D, _)]) F N k fun q hq => by rw [List.mem_singleton.mp hq]; exact ⟨hp, hf⟩) (fresh_ne N hf) r
theorem Pure.framedC {t : Sem Value} {bs : List (List Th)} (P : Pure w A s t (CutR s bs)) (F : Fr h₀ L s.heap m) (N : News h₀ L s.heap news)
    (h : ∀ D d h' tk', Fr h₀ L h' m → News h₀ L h' ((D, d) :: news) → AllNe D news → (∀ h'' , (∀ b o, h'.get? b = some o → h''.get? b = some o) → DatAt h'' (.ref D) (.list (bs.map fun b => .list (b.map thD))) 2) → Q (.ref D) { s with heap := h', toks := tk' }) :
    wpAny (model PySem.Challenge.rw_pk0064_01.prog w) A t Q E s := by
  refine P Q E fun v h' tk' r k => ?_
  obtain ⟨D, ys, n, rest, rfl, hp, r⟩ := r
  refine h D _ h' tk' (fr_stays F k) (news_add (l := [(D, PySem.W.listOf (List.toArray ys) n)]) F N k fun q hq => hp q (by rw [List.mem_singleton.mp hq]; exact .head _)) (fresh_ne N (hp _ (.head _)).2) fun h'' st => ?_
  exact dat_pieces (st _ _ (hp _ (.head _)).1) (fun q hq => st _ _ (hp q (.tail _ hq)).1) r
end
end
/-! Law2 -/
section
section
variable {prog : Program} {w : World} {A : Around} {E : Value → Shared → Prop} {s : Shared} {env : Env} {h₀ : Heap} {L : Addr} {m : Str → Option Value} {news : Led} {K : Frag} {p : Program} {loose : List Str} {mean : ExcName → Option Value} {mg mb : Str → Option Value}
theorem mapE {α β : Type} {Rv : Value → α → Prop} (f : α → β) (R' : Value → β → Prop) {elt iter : PySem.Expr} {x : Str} {px pos : Pos} {scope : Scope} {cl : List (Str × Addr)} {Q : Value → Shared → Prop} {as : List α} {vs : List Value} {ax : Addr} {c6 : Nat}
    (F : Fr h₀ L s.heap m) (N : News h₀ L s.heap news) (X : K.In h₀) (T : Top p loose mean mg mb h₀)
    (hit : ∀ (Q : Value → Shared → Prop), Q (.ref ax) s → wpAny (model prog w) A (eval iter env) Q E s)
    (h6 : (ax, PySem.W.listOf (List.toArray vs) c6) ∈ news) (ha : Are Rv vs as) (hh : A.handled = none) (hsz : as.length < 2 ^ 20)
    (hclos : closureFor scope env = pure cl) (hcell : ∀ y ∈ scope.names, y.2 ≠ .cell) (hkind : scope.kind = .function)
    (hnames : ∀ y ∈ scope.names, y.2 = .local → scope.names.lookup y.1 = some .local) (hx : scope.names.lookup x = some .local) (hs : ∀ x, foldedSetIterable iter env x = pure x)
    (elts : ∀ C I D a v h tk m₂ oI oD rest E', s.heap.objs.size ≤ I → I < D → D < C → a ∈ as → Rv v a → m₂ x = some v → Fr s.heap C h m₂ → News s.heap C h ((I, oI) :: (D, oD) :: rest) → K.In s.heap → Top p loose mean mg mb s.heap →
      wpAny (model prog w) A (eval elt (compEnvC scope cl C env)) (EltP s.heap C m₂ ((I, oI) :: (D, oD) :: rest) R' (f a) { s with heap := h, toks := tk }) E' { s with heap := h, toks := tk })
    (fin : ∀ D h' tk ys nD, (∀ p ∈ news, p.1 < D) → Fr h₀ L h' m → News h₀ L h' ((D, PySem.W.listOf (List.toArray ys) nD) :: news) → Are R' ys (as.map f) → Q (.ref D) { s with heap := h', toks := tk }) :
    wpAny (model prog w) A (eval (.ListComp elt [⟨.Name x px, iter, [], 0⟩] scope pos) env) Q E s :=
  compNEL (fun _ => true) f R' F N X T (src_list hh (News.isList N h6) ha (by simp only [sizeLine]; omega)) hit hclos hcell hkind hnames hx hs
    (fun C I D a v h tk m₂ oI oD rest E' _ _ _ _ _ _ F N _ _ => tests_nil ⟨rfl, TEnd.intro F N fun _ h => h⟩)
    (fun C I D a v h tk m₂ oI oD rest E' i0 i1 i2 ha _ hr hv F N X T => elts C I D a v h tk m₂ oI oD rest E' i0 i1 i2 ha hr hv F N X T)
    fun D h' tk ys nD l F' N' r => fin D h' tk ys nD l F' N' (by rw [filter_allG] at r; exact r)
theorem mapA {α β : Type} {Rv : Value → α → Prop} (f : α → β) (R' : Value → β → Prop) {elt iter : PySem.Expr} {x yv : Str} {px py pos spos : Pos} {scope : Scope} {cl : List (Str × Addr)} {Q : Flow → Shared → Prop} {as : List α} {vs : List Value} {ax : Addr} {c6 : Nat}
    (F : Fr h₀ L s.heap m) (N : News h₀ L s.heap news) (X : K.In h₀) (T : Top p loose mean mg mb h₀)
    (hit : ∀ (Q : Value → Shared → Prop), Q (.ref ax) s → wpAny (model prog w) A (eval iter env) Q E s)
    (h6 : (ax, PySem.W.listOf (List.toArray vs) c6) ∈ news) (ha : Are Rv vs as) (hh : A.handled = none) (hsz : as.length < 2 ^ 20)
    (hL : env.locals = L) (hsw : swapsWith (.ListComp elt [⟨.Name x px, iter, [], 0⟩] scope pos) (some (.Name yv py)) spos.line env = pure true)
    (hy : env.kindOf yv = some .local) (hp : (env.scope.kind == .class || (env.scope.kind == .module && env.locals != env.globals)) = false)
    (hclos : closureFor scope env = pure cl) (hcell : ∀ y ∈ scope.names, y.2 ≠ .cell) (hkind : scope.kind = .function)
    (hnames : ∀ y ∈ scope.names, y.2 = .local → scope.names.lookup y.1 = some .local) (hx : scope.names.lookup x = some .local) (hs : ∀ x, foldedSetIterable iter env x = pure x)
    (elts : ∀ C I D a v h tk m₂ oI oD rest E', s.heap.objs.size ≤ I → I < D → D < C → a ∈ as → Rv v a → m₂ x = some v → Fr s.heap C h m₂ → News s.heap C h ((I, oI) :: (D, oD) :: rest) → K.In s.heap → Top p loose mean mg mb s.heap →
      wpAny (model prog w) A (eval elt (compEnvC scope cl C env)) (EltP s.heap C m₂ ((I, oI) :: (D, oD) :: rest) R' (f a) { s with heap := h, toks := tk }) E' { s with heap := h, toks := tk })
    (fin : ∀ D h' tk ys nD, (∀ p ∈ news, p.1 < D) → Fr h₀ L h' (fun z => if z = yv then some (.ref D) else m z) → News h₀ L h' ((D, PySem.W.listOf (List.toArray ys) nD) :: news) → Are R' ys (as.map f) → Q .next { s with heap := h', toks := tk }) :
    wpAny (model prog w) A (exec (.Assign [.Name yv py] (.ListComp elt [⟨.Name x px, iter, [], 0⟩] scope pos) spos) env) Q E s :=
  compNAL (fun _ => true) f R' F N X T (src_list hh (News.isList N h6) ha (by simp only [sizeLine]; omega)) hit hL hsw hy hp hclos hcell hkind hnames hx hs
    (fun C I D a v h tk m₂ oI oD rest E' _ _ _ _ _ _ F N _ _ => tests_nil ⟨rfl, TEnd.intro F N fun _ h => h⟩)
    (fun C I D a v h tk m₂ oI oD rest E' i0 i1 i2 ha _ hr hv F N X T => elts C I D a v h tk m₂ oI oD rest E' i0 i1 i2 ha hr hv F N X T)
    fun D h' tk ys nD l F' N' r => fin D h' tk ys nD l F' N' (by rw [filter_allG] at r; exact r)
end
theorem okS_pic (x : Int) : OkS (picN x) := okS_of fun c hc => by
  have h := pic_short x
  generalize (picN x).cps.toList = l at h hc
  cases h with
  | one h1 => simp at hc; omega
  | two h1 h2 => simp at hc; omega
  | three h1 h2 h3 => simp at hc; omega
theorem okS_kP {ts : List Th} {x : Str} (h : x ∈ ts.map kP) : OkS x := by
  obtain ⟨t, _, rfl⟩ := List.mem_map.mp h; exact okS_pic _
end
/-! AgrA -/
section
theorem fill10 (w : World) (h : Heap) : (hd.heap_39 w.params).In h → PySem.Challenge.rw_pk0064_01.prog = PySem.Challenge.rw_pk0064_01.prog := by
  k_fill
  intro _; rfl
theorem neAll_of : ∀ {d : Nat} {l : Led}, AllNe d l → NeAll d (l.map (·.1))
  | _, [], _, _, h => nomatch h
  | _, _ :: _, h, _, .head _ => h.1
  | _, _ :: _, h, a, .tail _ m => neAll_of h.2 a m
def cC (R : List Th) (x : Int) : Int := (posOf kC R x true : Int)
def cP (R : List Th) (wd : Str) : Int := (posOf kR R (enc wd.cps.toList) true : Int)
theorem cC_range (R : List Th) (x : Int) : 0 ≤ cC R x ∧ cC R x ≤ (R.length : Int) := pos_ok kC R x true
theorem cP_range (R : List Th) (x : Str) : 0 ≤ cP R x ∧ cP R x ≤ (R.length : Int) := pos_ok kR R _ true
theorem sC {R : List Th} (hs : SortBy kC R) {x : Int} (i : Nat) (a : Th) (h : R[i]? = some a) : codeN a.num < x ↔ (i : Int) < cC R x := by
  have := posOf_spec (k := x) (left := true) hs i a h
  simp only [below, if_true, decide_eq_true_eq] at this
  exact this.trans (by unfold cC; omega)
theorem sP {R : List Th} (hs : SortBy kR R) {x : Str} (hx : Short x.cps.toList) (i : Nat) (a : Th) (h : R[i]? = some a) : (picN a.num).cps.toList < x.cps.toList ↔ (i : Int) < cP R x := by
  have := posOf_spec (k := enc x.cps.toList) (left := true) hs i a h
  simp only [below, if_true, decide_eq_true_eq] at this
  rw [enc_lt (pic_short a.num) hx]
  exact this.trans (by unfold cP; omega)
theorem sCm {R : List Th} (hs : SortBy kC R) {x : Int} (i : Nat) (a : Int) (h : (R.map kC)[i]? = some a) : a < x ↔ (i : Int) < cC R x := by
  obtain ⟨b, hb, rfl⟩ := map_at h; exact sC hs i b hb
theorem sPm {R : List Th} (hs : SortBy kR R) {x : Str} (hx : Short x.cps.toList) (i : Nat) (a : Str) (h : (R.map kP)[i]? = some a) : a.cps.toList < x.cps.toList ↔ (i : Int) < cP R x := by
  obtain ⟨b, hb, rfl⟩ := map_at h; exact sP hs hx i b hb
theorem bis_all {n len : Int} (h : 0 ≤ n ∧ n ≤ len) : BisD n len n 0 len := ⟨by omega, by omega, by omega⟩
theorem bis_lohi {n len lo hi : Int} (h0 : 0 ≤ lo) (h1 : hi ≤ len) : BisD n len (max lo (min hi n)) lo hi := ⟨h0, h1, rfl⟩
section
variable {w : World} {A : Around} {s : Shared} {p : Program} {loose : List Str} {mean : ExcName → Option Value} {mg mb : Str → Option Value} {l : Addr} {vs : List Value} {R : List Th} {x : Int} {wd : Str} {t tl th : Tok} {lo hi : Int}
theorem s_code (hs : SortBy kC R) (hl : s.heap.IsList l vs.toArray) (ha : Are ThV vs R) (hz : R.length < 2 ^ 20) (X : (hd.heap_39 w.params).In s.heap) (T : Top p loose mean mg mb s.heap) (hroom : A.depth + 5 < recursionLimit) :
    Pure w A s (call (.ref 50) [.ref l, .int x t] [(Str.ofString "key", .ref 85)]) (RInt (cC R x)) :=
  bl_code (th := 0) hl ha hz (bis_all (cC_range R x)) (sC hs) (.inr ⟨rfl, rfl⟩) (sh50_4 X) X T hroom
theorem s_pic (hs : SortBy kR R) (hx : Short wd.cps.toList) (hl : s.heap.IsList l vs.toArray) (ha : Are ThV vs R) (hz : R.length < 2 ^ 20) (X : (hd.heap_39 w.params).In s.heap) (T : Top p loose mean mg mb s.heap) (hroom : A.depth + 5 < recursionLimit) :
    Pure w A s (call (.ref 50) [.ref l, .str wd t] [(Str.ofString "key", .ref 71)]) (RInt (cP R wd)) :=
  bl_pic (th := 0) hl ha hz (bis_all (cP_range R wd)) (sP hs hx) (.inr ⟨rfl, rfl⟩) (sh50_4 X) X T hroom
theorem s_ints (hs : SortBy kC R) (hl : s.heap.IsList l vs.toArray) (ha : Are IntV vs (R.map kC)) (hz : R.length < 2 ^ 20) (X : (hd.heap_39 w.params).In s.heap) (T : Top p loose mean mg mb s.heap) (hroom : A.depth + 5 < recursionLimit) :
    Pure w A s (call (.ref 50) [.ref l, .int x t]) (RInt (cC R x)) :=
  bl_ints (th := 0) hl ha (by rw [List.length_map]; exact hz) (bis_all (by rw [List.length_map]; exact cC_range R x)) (sCm hs) (.inr ⟨rfl, rfl⟩) (sh50_1 X) X T hroom
theorem s_strs (hs : SortBy kR R) (hx : Short wd.cps.toList) (hl : s.heap.IsList l vs.toArray) (ha : Are StrV vs (R.map kP)) (hz : R.length < 2 ^ 20) (X : (hd.heap_39 w.params).In s.heap) (T : Top p loose mean mg mb s.heap) (hroom : A.depth + 5 < recursionLimit) :
    Pure w A s (call (.ref 50) [.ref l, .str wd t]) (RInt (cP R wd)) :=
  bl_strs (th := 0) hl ha (by rw [List.length_map]; exact hz) (bis_all (by rw [List.length_map]; exact cP_range R wd)) (sPm hs hx) (.inr ⟨rfl, rfl⟩) (sh50_1 X) X T hroom
theorem s_pic2 (hs : SortBy kR R) (hx : Short wd.cps.toList) (hl : s.heap.IsList l vs.toArray) (ha : Are ThV vs R) (hz : R.length < 2 ^ 20) (h0 : 0 ≤ lo) (h1 : hi ≤ R.length) (X : (hd.heap_39 w.params).In s.heap) (T : Top p loose mean mg mb s.heap) (hroom : A.depth + 5 < recursionLimit) :
    Pure w A s (call (.ref 50) [.ref l, .str wd t, .int lo tl, .int hi th] [(Str.ofString "key", .ref 71)]) (RInt (max lo (min hi (cP R wd)))) :=
  bl_pic hl ha hz (bis_lohi h0 h1) (sP hs hx) (.inl rfl) (sh50_3 X) X T hroom
theorem s_ints2 (hs : SortBy kC R) (hl : s.heap.IsList l vs.toArray) (ha : Are IntV vs (R.map kC)) (hz : R.length < 2 ^ 20) (h0 : 0 ≤ lo) (h1 : hi ≤ R.length) (X : (hd.heap_39 w.params).In s.heap) (T : Top p loose mean mg mb s.heap) (hroom : A.depth + 5 < recursionLimit) :
    Pure w A s (call (.ref 50) [.ref l, .int x t, .int lo tl, .int hi th]) (RInt (max lo (min hi (cC R x)))) :=
  bl_ints hl ha (by rw [List.length_map]; exact hz) (bis_lohi h0 (by rw [List.length_map]; exact h1)) (sCm hs) (.inl rfl) (sh50_2 X) X T hroom
end
theorem words_short {wd : Str} (h : wd ∈ words) : Short wd.cps.toList := by
  unfold words at h
  simp only [List.mem_cons, List.not_mem_nil, or_false] at h
  rcases h with rfl | rfl | rfl | rfl | rfl | rfl | rfl | rfl | rfl | rfl
  · exact .one (by decide)
  · exact .two (by decide) (by decide)
  · exact .three (by decide) (by decide) (by decide)
  · exact .three (by decide) (by decide) (by decide)
  · exact .two (by decide) (by decide)
  · exact .one (by decide)
  · exact .two (by decide) (by decide)
  · exact .two (by decide) (by decide)
  · exact .two (by decide) (by decide)
  · exact .one (by decide)
end
/-! AgrB -/
section
section
variable {prog : Program} {w : World} {A : Around} {E : Value → Shared → Prop} {s : Shared} {Q : Value → Shared → Prop} {a b : Value} {d d' : PyData} {k k' : Nat}
theorem ne_same' (xa : DatAt s.heap a d k) (xb : DatAt s.heap b d' k') (e : d = d') (hu : A.units + k < cLine) (h : Q (.bool false) s) : wpAny (model prog w) A (compareOp .NotEq a b) Q E s := by
  subst e
  exact ne_same xa ⟨xb.r, xb.c, xa.dp⟩ hu h
theorem eq_same' (xa : DatAt s.heap a d k) (xb : DatAt s.heap b d' k') (e : d = d') (hu : A.units + k < cLine) (h : Q (.bool true) s) : wpAny (model prog w) A (compareOp .Eq a b) Q E s := by
  subst e
  exact eq_same xa ⟨xb.r, xb.c, xa.dp⟩ hu h
end
theorem dat_ints {h : Heap} {l : Addr} {n : Nat} {vs : List Value} {bs : List Int} (hl : h.get? l = some (PySem.W.listOf (List.toArray vs) n)) (ha : Are IntV vs bs) : DatAt h (.ref l) (.list (bs.map .int)) 1 :=
  dat_list hl ha fun _ _ _ x => dat_int x
theorem cnt_int (R : List Th) (x : Int) : ((((R.map kC).filter fun a => decide (a < x)).length : Nat) : Int) = cC R x := by
  unfold cC posOf
  rw [List.filter_map, List.length_map]
  congr 2
theorem cnt_str (R : List Th) {x : Str} (hx : Short x.cps.toList) : ((((R.map kP).filter fun a => decide (a.cps.toList < x.cps.toList)).length : Nat) : Int) = cP R x := by
  unfold cP posOf
  rw [List.filter_map, List.length_map]
  congr 2
  apply List.filter_congr
  intro a _
  exact decide_eq_decide.mpr (enc_lt (pic_short _) hx)
theorem pl_C (R : List Th) (ms : List Int) : (ms.map fun x => max 0 (min (((R.map kC).length : Nat) : Int) ((((R.map kC).filter fun a => decide (a < x)).length : Nat) : Int))) = ms.map (cC R) := by
  refine List.map_congr_left fun x _ => ?_
  rw [cnt_int]
  have := cC_range R x
  rw [List.length_map]
  omega
theorem pl_C2 (R : List Th) (ms : List Int) (lo hi : Int) : (ms.map fun x => max lo (min hi ((((R.map kC).filter fun a => decide (a < x)).length : Nat) : Int))) = ms.map (fun x => max lo (min hi (cC R x))) :=
  List.map_congr_left fun x _ => by rw [cnt_int]
theorem pl_P2 (R : List Th) (lo hi : Int) : (words.map fun x => max lo (min hi ((((R.map kP).filter fun a => decide (a.cps.toList < x.cps.toList)).length : Nat) : Int))) = words.map (fun x => max lo (min hi (cP R x))) :=
  List.map_congr_left fun x hx => by rw [cnt_str R (words_short hx)]
theorem e_1 (R : List Th) (ms es : List Int) : PyData.list [.list ((ms.map (cC R)).map .int), .list ((es.map (cC R)).map .int)] =
    PyData.list [.list ((ms.map fun x => max 0 (min (((R.map kC).length : Nat) : Int) ((((R.map kC).filter fun a => decide (a < x)).length : Nat) : Int))).map .int), .list ((es.map fun x => max 0 (min (((R.map kC).length : Nat) : Int) ((((R.map kC).filter fun a => decide (a < x)).length : Nat) : Int))).map .int)] := by
  rw [pl_C, pl_C]
theorem e_6 (R R2 : List Th) (ms : List Int) (lo hi : Int) : PyData.list [.list ((words.map (fun x => max lo (min hi (cP R2 x)))).map .int), .list ((ms.map (fun x => max lo (min hi (cC R x)))).map .int)] =
    PyData.list [.list ((words.map fun x => max lo (min hi ((((R2.map kP).filter fun a => decide (a.cps.toList < x.cps.toList)).length : Nat) : Int))).map .int), .list ((ms.map fun x => max lo (min hi ((((R.map kC).filter fun a => decide (a < x)).length : Nat) : Int))).map .int)] := by
  rw [pl_P2, pl_C2]
theorem nnC (R : List Th) (ms : List Int) : ∀ b ∈ ms.map (cC R), 0 ≤ b := fun b hb => by
  obtain ⟨x, _, rfl⟩ := List.mem_map.mp hb; exact (cC_range R x).1
theorem nnP (R : List Th) (ms : List Str) : ∀ b ∈ ms.map (cP R), 0 ≤ b := fun b hb => by
  obtain ⟨x, _, rfl⟩ := List.mem_map.mp hb; exact (cP_range R x).1
theorem nnD (R : List Th) (ms : List Str) (k n : Nat) : ∀ b ∈ (ms.map (cP R)).drop k ++ [(n : Int)], 0 ≤ b := fun b hb => by
  rcases List.mem_append.mp hb with hb | hb
  · exact nnP R ms b (List.mem_of_mem_drop hb)
  · rw [List.mem_singleton.mp hb]; omega
def StH (h h' : Heap) : Prop := ∀ b o, h.get? b = some o → h'.get? b = some o
def CutAt (h' : Heap) (D : Addr) (bs : List (List Th)) : Prop := ∀ h'', StH h' h'' → DatAt h'' (.ref D) (.list (bs.map fun b => .list (b.map thD))) 2
theorem CutAt.here {h : Heap} {D : Addr} {bs : List (List Th)} (x : CutAt h D bs) : DatAt h (.ref D) (.list (bs.map fun b => .list (b.map thD))) 2 := x h fun _ _ e => e
theorem CutAt.there {h h' : Heap} {D : Addr} {bs : List (List Th)} (x : CutAt h D bs) (y : StH h h') : DatAt h' (.ref D) (.list (bs.map fun b => .list (b.map thD))) 2 := x h' y
section
variable {w : World} {A : Around} {s : Shared} {E : Value → Shared → Prop} {Q : Value → Shared → Prop} {h₀ : Heap} {L : Addr} {m : Str → Option Value} {news : Led}
theorem Pure.framedC' {t : Sem Value} {bs : List (List Th)} (P : Pure w A s t (CutR s bs)) (F : Fr h₀ L s.heap m) (N : News h₀ L s.heap news)
    (h : ∀ D d h' tk', Fr h₀ L h' m → News h₀ L h' ((D, d) :: news) → AllNe D news → StH s.heap h' → CutAt h' D bs → Q (.ref D) { s with heap := h', toks := tk' }) :
    wpAny (model PySem.Challenge.rw_pk0064_01.prog w) A t Q E s := by
  refine P Q E fun v h' tk' r k => ?_
  obtain ⟨D, ys, n, rest, rfl, hp, r⟩ := r
  refine h D _ h' tk' (fr_stays F k) (news_add (l := [(D, PySem.W.listOf (List.toArray ys) n)]) F N k fun q hq => hp q (by rw [List.mem_singleton.mp hq]; exact .head _)) (fresh_ne N (hp _ (.head _)).2) k fun h'' st => ?_
  exact dat_pieces (st _ _ (hp _ (.head _)).1) (fun q hq => st _ _ (hp q (.tail _ hq)).1) r
end
end
/-! Pieces -/
section
def endOf (b : Int) : Int := if b < 0 then 0 else if b < 64 then 64 else if b < 68 then 68 else if b < 190 then 190 else if b < 254 then 254 else if b < 255 then 255 else if b < 256 then 256 else if b < 320 then 320 else if b < 446 then 446 else if b < 510 then 510 else 512
def rkC (c : Int) : Int :=
  if c = 254 then 95064000 else if c = 255 then 95160000 else if c = 510 then 34095160
  else if 320 ≤ c then 34000000 + (c / 2 - 127) * 1000 else if 256 ≤ c then 34095000 + (c / 2 - 63)
  else if 64 ≤ c then (c / 2 + 1) * 1000000 else 95000000 + (c / 2 + 65) * 1000
theorem kC_ok (t : Th) : 0 ≤ kC t ∧ kC t ≤ 510 ∧ (kC t % 2 = 0 ∨ kC t = 255) := by
  unfold kC codeN
  split <;> omega
def picB (y : Nat) (b : Bool) : List Nat :=
  if 127 < y then 33 :: (if y % 128 = 127 then (if b = true then [94, 63] else [94, 159]) else if 31 < y % 128 then [y % 128] else [94, y % 128 + 64])
  else (if y % 128 = 127 then (if b = true then [94, 63] else [94, 159]) else if 31 < y % 128 then [y % 128] else [94, y % 128 + 64])
theorem pic_B (x : Int) : (picN x).cps.toList = picB (x % 256).toNat (decide (x = 127)) := by
  have e1 : (x % 256).toNat % 128 = (x % 128).toNat := by omega
  have e2 : (127 < (x % 256).toNat) = (127 < x % 256) := propext (by omega)
  have e3 : ((x % 128).toNat = 127) = (x % 128 = 127) := propext (by omega)
  have e4 : (31 < (x % 128).toNat) = (31 < x % 128) := propext (by omega)
  unfold picN lowPic picB
  simp only [e1, e2, e3, e4, decide_eq_true_eq]
  split <;> split <;> (try split) <;> rfl
theorem rk_all : ∀ y : Fin 256, ∀ b : Bool, (b = true → y.val = 127) → enc (picB y.val b) = rkC (2 * (y.val : Int) + (if y.val = 127 ∧ b = false then 1 else 0)) := by decide +kernel
theorem kR_eq (t : Th) : kR t = rkC (kC t) := by
  unfold kR kC rkN
  rw [pic_B]
  generalize t.num = x
  have h := rk_all ⟨(x % 256).toNat, by omega⟩ (decide (x = 127)) (fun e => by have := of_decide_eq_true e; subst this; rfl)
  dsimp only at h
  rw [h]
  congr 1
  unfold codeN
  have e1 : (((x % 256).toNat : Nat) : Int) = x % 256 := by omega
  have e2 : ((x % 256).toNat = 127 ∧ decide (x = 127) = false) = (x % 256 = 127 ∧ x ≠ 127) := propext (by simp only [decide_eq_false_iff_not]; omega)
  simp only [e1, e2]

section
variable {α : Type} {κ : α → Int}
theorem split_lt (k : Int) : ∀ {l : List α}, SortBy κ l → l = l.filter (below κ k true) ++ l.filter fun a => !below κ k true a
  | [], _ => rfl
  | b :: l, hs => by
    obtain ⟨h1, h2⟩ := List.pairwise_cons.mp hs
    cases hb : below κ k true b with
    | true =>
      rw [List.filter_cons_of_pos hb, List.filter_cons_of_neg (by simp [hb]), List.cons_append, ← split_lt k h2]
    | false =>
      have hn : ∀ c ∈ l, below κ k true c = false := fun c hc => by
        cases q : below κ k true c with
        | false => rfl
        | true => rw [below_down (h1 c hc) q] at hb; cases hb
      rw [filter_none (l := b :: l) (q := below κ k true) fun c hc => by
        rcases List.mem_cons.mp hc with rfl | hc
        · exact hb
        · exact hn c hc]
      rw [List.nil_append, List.filter_eq_self.mpr]
      intro c hc
      rcases List.mem_cons.mp hc with rfl | hc
      · simp [hb]
      · simp [hn c hc]
theorem drop_pos {k : Int} {l : List α} (hs : SortBy κ l) : l.drop (posOf κ l k true) = l.filter fun a => !below κ k true a := by
  conv => lhs; arg 2; rw [split_lt k hs]
  unfold posOf
  rw [List.drop_left]
theorem take_pos {k : Int} {l : List α} (hs : SortBy κ l) : l.take (posOf κ l k true) = l.filter (below κ k true) := by
  conv => lhs; arg 2; rw [split_lt k hs]
  unfold posOf
  rw [List.take_left]
theorem sort_filter {l : List α} (hs : SortBy κ l) (q : α → Bool) : SortBy κ (l.filter q) := hs.sublist List.filter_sublist
theorem cut_range {lo hi : Int} {l : List α} (hs : SortBy κ l) (h : lo ≤ hi) : cutAt l (posOf κ l lo true : Int) (posOf κ l hi true : Int) = l.filter fun a => decide (lo ≤ κ a ∧ κ a < hi) := by
  have e : posOf κ l hi true = posOf κ l lo true + posOf κ (l.filter fun a => !below κ lo true a) hi true := by
    unfold posOf
    conv => lhs; arg 1; arg 2; rw [split_lt lo hs]
    rw [List.filter_append, List.length_append]
    congr 2
    rw [List.filter_eq_self]
    intro a ha
    have := (List.mem_filter.mp ha).2
    simp only [below, if_true, decide_eq_true_eq] at this ⊢
    omega
  have hm := sort_filter hs fun a => !below κ lo true a
  unfold cutAt
  rw [Int.toNat_natCast, Int.toNat_natCast, Nat.min_eq_left (posOf_le _ _ _ _), drop_pos hs, e, Nat.add_sub_cancel_left, take_pos hm, List.filter_filter]
  refine List.filter_congr fun a _ => ?_
  simp only [below, if_true]
  by_cases h1 : κ a < lo <;> by_cases h2 : κ a < hi <;> simp [h1, h2] <;> omega
theorem cut_upto {lo : Int} {l : List α} (hs : SortBy κ l) (n : Nat) (hn : n = l.length) : cutAt l (posOf κ l lo true : Int) (n : Int) = l.filter fun a => decide (lo ≤ κ a) := by
  subst hn
  unfold cutAt
  rw [Int.toNat_natCast, Int.toNat_natCast, Nat.min_self, drop_pos hs]
  rw [List.take_of_length_le]
  · refine List.filter_congr fun a _ => ?_
    simp only [below, if_true]
    by_cases h1 : κ a < lo <;> simp [h1] <;> omega
  · rw [← drop_pos hs, List.length_drop]; exact Nat.le_refl _
theorem sort_eq : ∀ {l1 l2 : List α}, SortBy κ l1 → SortBy κ l2 → (∀ c, l1.filter (fun a => decide (κ a = c)) = l2.filter (fun a => decide (κ a = c))) → l1 = l2
  | [], [], _, _, _ => rfl
  | [], b :: _, _, _, h => by
    have := h (κ b)
    rw [List.filter_cons_of_pos (by simp)] at this; cases this
  | a :: _, [], _, _, h => by
    have := h (κ a)
    rw [List.filter_cons_of_pos (by simp)] at this; cases this
  | a :: t1, b :: t2, h1, h2, h => by
    obtain ⟨p1, q1⟩ := List.pairwise_cons.mp h1
    obtain ⟨p2, q2⟩ := List.pairwise_cons.mp h2
    have e1 : κ a ≤ κ b := by
      have m : b ∈ (a :: t1).filter (fun x => decide (κ x = κ b)) := by rw [h (κ b)]; exact List.mem_filter.mpr ⟨.head _, by simp⟩
      rcases List.mem_cons.mp (List.mem_filter.mp m).1 with e | m
      · rw [e]; exact Int.le_refl _
      · exact p1 _ m
    have e2 : κ b ≤ κ a := by
      have m : a ∈ (b :: t2).filter (fun x => decide (κ x = κ a)) := by rw [← h (κ a)]; exact List.mem_filter.mpr ⟨.head _, by simp⟩
      rcases List.mem_cons.mp (List.mem_filter.mp m).1 with e | m
      · rw [e]; exact Int.le_refl _
      · exact p2 _ m
    have e : κ a = κ b := by omega
    have hh := h (κ a)
    rw [List.filter_cons_of_pos (by simp), List.filter_cons_of_pos (by simp [e])] at hh
    injection hh with ha ht
    subst ha
    have := sort_eq q1 q2 fun c => by
      by_cases hc : κ a = c
      · subst hc; exact ht
      · have := h c
        rwa [List.filter_cons_of_neg (by simp [hc]), List.filter_cons_of_neg (by simp [hc])] at this
    rw [this]
end
theorem step_filter {κ : Th → Int} (hκ : ∀ a b, kC a = kC b → κ a = κ b) {l : List Th} (hs : SortBy κ l) (n : Int) (c : Int) :
    (step κ l n).filter (fun a => decide (kC a = c)) = if kC (thOf n) = c then (if lf n then thOf n :: l.filter (fun a => decide (kC a = c)) else l.filter (fun a => decide (kC a = c)) ++ [thOf n]) else l.filter (fun a => decide (kC a = c)) := by
  have td := List.take_append_drop (posOf κ l (κ (thOf n)) (lf n)) l
  have sp := posOf_spec (k := κ (thOf n)) (left := lf n) hs
  unfold step insAt
  rw [List.filter_append]
  by_cases hc : kC (thOf n) = c
  · rw [if_pos hc, List.filter_cons_of_pos (by simp [hc])]
    cases hl : lf n with
    | true =>
      rw [hl] at sp td
      have z : (l.take (posOf κ l (κ (thOf n)) true)).filter (fun a => decide (kC a = c)) = [] := filter_none fun a ha => by
        obtain ⟨i, hi⟩ := List.getElem?_of_mem ha
        have hik : i < posOf κ l (κ (thOf n)) true := by
          rcases Nat.lt_or_ge i (posOf κ l (κ (thOf n)) true) with q | q
          · exact q
          · rw [List.getElem?_eq_none (by rw [List.length_take]; omega)] at hi; cases hi
        rw [List.getElem?_take_of_lt hik] at hi
        have h := (sp _ a hi).mpr hik
        simp only [below, if_true, decide_eq_true_eq] at h
        refine decide_eq_false fun e => ?_
        have := hκ a (thOf n) (e.trans hc.symm)
        omega
      rw [z, if_pos rfl, List.nil_append]
      conv => rhs; arg 2; arg 2; rw [← td]
      rw [List.filter_append, z, List.nil_append]
    | false =>
      rw [hl] at sp td
      have z : (l.drop (posOf κ l (κ (thOf n)) false)).filter (fun a => decide (kC a = c)) = [] := filter_none fun a ha => by
        obtain ⟨j, hj⟩ := List.getElem?_of_mem ha
        rw [List.getElem?_drop] at hj
        have h := mt (sp _ a hj).mp (by omega)
        simp only [below, Bool.false_eq_true, if_false, decide_eq_true_eq] at h
        refine decide_eq_false fun e => ?_
        have := hκ a (thOf n) (e.trans hc.symm)
        omega
      rw [z, if_neg (by decide)]
      conv => rhs; arg 1; arg 2; rw [← td]
      rw [List.filter_append, z, List.append_nil]
  · rw [if_neg hc, List.filter_cons_of_neg (by simp [hc]), ← List.filter_append, td]
theorem fold_filter {κ κ' : Th → Int} (hκ : ∀ a b, kC a = kC b → κ a = κ b) (hκ' : ∀ a b, kC a = kC b → κ' a = κ' b) (c : Int) : ∀ (ns : List Int) {l l' : List Th}, SortBy κ l → SortBy κ' l' → l.filter (fun a => decide (kC a = c)) = l'.filter (fun a => decide (kC a = c)) →
    (ns.foldl (step κ) l).filter (fun a => decide (kC a = c)) = (ns.foldl (step κ') l').filter (fun a => decide (kC a = c))
  | [], _, _, _, _, h => h
  | n :: ns, l, l', h1, h2, h => by
    rw [List.foldl_cons, List.foldl_cons]
    refine fold_filter hκ hκ' c ns (ins_sorted h1) (ins_sorted h2) ?_
    rw [step_filter hκ h1, step_filter hκ' h2, h]
theorem rows_filter (ns : List Int) (c : Int) : (rowOf kC ns).filter (fun a => decide (kC a = c)) = (rowOf kR ns).filter (fun a => decide (kC a = c)) :=
  fold_filter (fun _ _ h => h) (fun a b h => by rw [kR_eq, kR_eq, h]) c ns .nil .nil rfl
theorem piece_eq (ns : List Int) (p1 p2 : Th → Bool) (hp : ∀ t, p2 t = p1 t) (mono : ∀ a b, p1 a = true → p1 b = true → kR a ≤ kR b → kC a ≤ kC b) :
    (rowOf kR ns).filter p2 = (rowOf kC ns).filter p1 := by
  rw [show p2 = p1 from funext hp]
  refine sort_eq (κ := kC) ?_ (sort_filter (rowOf_sorted kC ns) _) fun c => ?_
  · refine (sort_filter (rowOf_sorted kR ns) p1).imp_of_mem fun {a b} ha hb h => ?_
    exact mono a b (List.mem_filter.mp ha).2 (List.mem_filter.mp hb).2 h
  · rw [List.filter_filter, List.filter_filter]
    have := congrArg (List.filter p1) (rows_filter ns c)
    rw [List.filter_filter, List.filter_filter] at this
    simp only [Bool.and_comm] at this ⊢
    exact this.symm
theorem at_c {P : Int → Prop} (h : ∀ c : Fin 511, (c.val % 2 = 0 ∨ c.val = 255) → P c.val) (t : Th) : P (kC t) := by
  obtain ⟨h1, h2, h3⟩ := kC_ok t
  have e : (((kC t).toNat : Nat) : Int) = kC t := Int.toNat_of_nonneg h1
  have := h ⟨(kC t).toNat, by omega⟩ (by show (kC t).toNat % 2 = 0 ∨ (kC t).toNat = 255; omega)
  dsimp only at this
  rwa [e] at this
theorem mono_c {a b p q : Int} (hq : 0 < q) (hs : b ≤ 255 ∨ 256 ≤ a ∨ b ≤ a + 1) {t u : Th} (ht : a ≤ kC t → kC t < b → rkC (kC t) = p + q * (kC t / 2)) (hu : a ≤ kC u → kC u < b → rkC (kC u) = p + q * (kC u / 2))
    (t1 : a ≤ kC t) (t2 : kC t < b) (u1 : a ≤ kC u) (u2 : kC u < b) (h : rkC (kC t) ≤ rkC (kC u)) : kC t ≤ kC u := by
  rw [ht t1 t2, hu u1 u2] at h
  have h' : kC t / 2 ≤ kC u / 2 := Int.le_of_mul_le_mul_left (Int.le_of_add_le_add_left h) hq
  obtain ⟨_, _, h3⟩ := kC_ok t
  obtain ⟨_, _, g3⟩ := kC_ok u
  clear ht hu h hq
  omega
theorem cell_p (ns : List Int) {a b x y : Int} (p q : Int) (hab : a ≤ b) (hxy : x ≤ y) (hq : 0 < q) (hs : b ≤ 255 ∨ 256 ≤ a ∨ b ≤ a + 1)
    (hp : ∀ c : Fin 511, (c.val % 2 = 0 ∨ c.val = 255) → ((x ≤ rkC c.val ∧ rkC c.val < y) ↔ (a ≤ c.val ∧ (c.val : Int) < b)) ∧ (a ≤ c.val → (c.val : Int) < b → rkC c.val = p + q * ((c.val : Int) / 2))) :
    cutAt (rowOf kR ns) (posOf kR (rowOf kR ns) x true : Int) (posOf kR (rowOf kR ns) y true : Int) = cutAt (rowOf kC ns) (posOf kC (rowOf kC ns) a true : Int) (posOf kC (rowOf kC ns) b true : Int) := by
  have H := at_c (P := fun c => ((x ≤ rkC c ∧ rkC c < y) ↔ (a ≤ c ∧ c < b)) ∧ (a ≤ c → c < b → rkC c = p + q * (c / 2))) hp
  rw [cut_range (rowOf_sorted kR ns) hxy, cut_range (rowOf_sorted kC ns) hab]
  refine piece_eq ns _ _ (fun t => ?_) fun t u ht hu h => ?_
  · rw [kR_eq]; exact decide_eq_decide.mpr (H t).1
  · rw [kR_eq, kR_eq] at h
    have ht := of_decide_eq_true ht
    have hu := of_decide_eq_true hu
    exact mono_c hq hs (H t).2 (H u).2 ht.1 ht.2 hu.1 hu.2 h
theorem cell_e (ns : List Int) {a b x : Int} (p q : Int) (hab : a ≤ b) (n : Nat) (hn : n = (rowOf kR ns).length) (hq : 0 < q) (hs : b ≤ 255 ∨ 256 ≤ a ∨ b ≤ a + 1)
    (hp : ∀ c : Fin 511, (c.val % 2 = 0 ∨ c.val = 255) → ((x ≤ rkC c.val) ↔ (a ≤ c.val ∧ (c.val : Int) < b)) ∧ (a ≤ c.val → (c.val : Int) < b → rkC c.val = p + q * ((c.val : Int) / 2))) :
    cutAt (rowOf kR ns) (posOf kR (rowOf kR ns) x true : Int) (n : Int) = cutAt (rowOf kC ns) (posOf kC (rowOf kC ns) a true : Int) (posOf kC (rowOf kC ns) b true : Int) := by
  have H := at_c (P := fun c => ((x ≤ rkC c) ↔ (a ≤ c ∧ c < b)) ∧ (a ≤ c → c < b → rkC c = p + q * (c / 2))) hp
  rw [cut_upto (rowOf_sorted kR ns) n hn, cut_range (rowOf_sorted kC ns) hab]
  refine piece_eq ns _ _ (fun t => ?_) fun t u ht hu h => ?_
  · rw [kR_eq]; exact decide_eq_decide.mpr (H t).1
  · rw [kR_eq, kR_eq] at h
    have ht := of_decide_eq_true ht
    have hu := of_decide_eq_true hu
    exact mono_c hq hs (H t).2 (H u).2 ht.1 ht.2 hu.1 hu.2 h
theorem pieces_all (ns : List Int) (n : Nat) (hn : n = (rowOf kR ns).length) :
    ((List.range (words.map (cP (rowOf kR ns))).length).map fun k => cutAt (rowOf kR ns) ((words.map (cP (rowOf kR ns))).getD k 0) (((words.map (cP (rowOf kR ns))).drop 1 ++ [(n : Int)]).getD k 0)) =
    ((List.range (marks.map (cC (rowOf kC ns))).length).map fun k => cutAt (rowOf kC ns) ((marks.map (cC (rowOf kC ns))).getD k 0) (((marks.map endOf).map (cC (rowOf kC ns))).getD k 0)) := by
  show [cutAt _ _ _, cutAt _ _ _, cutAt _ _ _, cutAt _ _ _, cutAt _ _ _, cutAt _ _ _, cutAt _ _ _, cutAt _ _ _, cutAt _ _ _, cutAt _ _ _] = [cutAt _ _ _, cutAt _ _ _, cutAt _ _ _, cutAt _ _ _, cutAt _ _ _, cutAt _ _ _, cutAt _ _ _, cutAt _ _ _, cutAt _ _ _, cutAt _ _ _]
  congr 1
  · exact cell_p ns (a := 64) (b := 68) (x := 33000000) (y := 34033000) (1000000) 1000000 (by decide) (by decide) (by decide) (by decide) (by decide +kernel)
  congr 1
  · exact cell_p ns (a := 320) (b := 446) (x := 34033000) (y := 34095065) (33873000) 1000 (by decide) (by decide) (by decide) (by decide) (by decide +kernel)
  congr 1
  · exact cell_p ns (a := 256) (b := 320) (x := 34095065) (y := 34095160) (34094937) 1 (by decide) (by decide) (by decide) (by decide) (by decide +kernel)
  congr 1
  · exact cell_p ns (a := 510) (b := 512) (x := 34095160) (y := 34096000) (34094905) 1 (by decide) (by decide) (by decide) (by decide) (by decide +kernel)
  congr 1
  · exact cell_p ns (a := 446) (b := 510) (x := 34096000) (y := 35000000) (33873000) 1000 (by decide) (by decide) (by decide) (by decide) (by decide +kernel)
  congr 1
  · exact cell_p ns (a := 68) (b := 190) (x := 35000000) (y := 95064000) (1000000) 1000000 (by decide) (by decide) (by decide) (by decide) (by decide +kernel)
  congr 1
  · exact cell_p ns (a := 254) (b := 255) (x := 95064000) (y := 95065000) (95063873) 1 (by decide) (by decide) (by decide) (by decide) (by decide +kernel)
  congr 1
  · exact cell_p ns (a := 0) (b := 64) (x := 95065000) (y := 95160000) (95065000) 1000 (by decide) (by decide) (by decide) (by decide) (by decide +kernel)
  congr 1
  · exact cell_p ns (a := 255) (b := 256) (x := 95160000) (y := 96000000) (95159873) 1 (by decide) (by decide) (by decide) (by decide) (by decide +kernel)
  congr 1
  · exact cell_e ns (a := 190) (b := 254) (x := 96000000) 1000000 1000000 (by decide) n hn (by decide) (by decide) (by decide +kernel)
theorem e_10 (ns : List Int) : PyData.list ((((List.range (words.map (cP (rowOf kR ns))).length).map fun k => cutAt (rowOf kR ns) ((words.map (cP (rowOf kR ns))).getD k 0) (((words.map (cP (rowOf kR ns))).drop 1 ++ [((((rowOf kC ns).map kC).length : Nat) : Int)]).getD k 0))).map fun b => .list (b.map thD)) =
    PyData.list ((((List.range (marks.map (cC (rowOf kC ns))).length).map fun k => cutAt (rowOf kC ns) ((marks.map (cC (rowOf kC ns))).getD k 0) (((marks.map endOf).map (cC (rowOf kC ns))).getD k 0))).map fun b => .list (b.map thD)) := by
  rw [pieces_all ns _ (by rw [List.length_map, rowOf_length, rowOf_length])]
theorem shown_zero (ns : List Int) : cP (rowOf kR ns) ⟨#[32]⟩ = 0 := by
  unfold cP posOf
  rw [filter_none]
  · rfl
  · intro t _
    show below kR 33000000 true t = false
    have e : 33000000 ≤ kR t := by
      rw [kR_eq]
      exact at_c (P := fun c => 33000000 ≤ rkC c) (by decide +kernel) t
    simp only [below, if_true]
    exact decide_eq_false (by omega)
end
/-! Refu -/
section
section
variable {s : Shared} {A₀ : Around} {base h₀ g g' h h₁ : Heap} {L L' : Addr} {m m' : Str → Option Value} {news news' cells : Led} {outer : List Env} {env : Env}
theorem reground (N : News h₀ L s.heap news) (F' : Fr s.heap L' h₁ m') (N' : News s.heap L' h₁ cells) :
    Fr (hideAll s.heap (news.map (·.1))) L' h₁ m' ∧ News (hideAll s.heap (news.map (·.1))) L' h₁ (cells ++ news) := by
  refine ⟨⟨F'.ns, fun b o e => F'.keep b o (of_hideAll _ e), by rw [hideAll_size]; exact F'.above⟩, fun q hq => ?_⟩
  rcases List.mem_append.mp hq with hq | hq
  · refine ⟨(N' q hq).1, (N' q hq).2.1, ?_⟩
    cases e : (hideAll s.heap (news.map (·.1))).get? q.1 with
    | none => rfl
    | some o => have := of_hideAll _ e; rw [(N' q hq).2.2] at this; cases this
  · exact ⟨F'.keep _ _ (N q hq).1, Nat.ne_of_lt (Nat.lt_of_lt_of_le (Heap.lt_size (N q hq).1) F'.above), hideAll_none _ (List.mem_map_of_mem hq)⟩
theorem frame_mem {b : Addr} (hf : env.frame = some L) (hm : b ∈ (env :: outer).filterMap (·.frame)) : b = L ∨ b ∈ outer.filterMap (·.frame) := by
  rw [List.filterMap_cons, hf] at hm
  exact List.mem_cons.mp hm
/-- a turned ground below gives a turned ground here -/
theorem turn_back (B : Below A₀ base outer h₀) (FG : Fr h₀ L g m) (hf : env.frame = some L) (T' : KtsTurn ((env :: outer).filterMap (·.frame)) g g') (F' : Fr g' L' h m') (N' : News g' L' h news') :
    ∃ h₀', KtsTurn (outer.filterMap (·.frame)) h₀ h₀' ∧ Fr h₀' L h m ∧ News h₀' L h news' ∧ Below A₀ base outer h₀' := by
  have nL : h₀.get? L = none := kts_self FG
  obtain ⟨oL, es, ep, hL, hLd, hLk, hLf⟩ := FG.ns
  obtain ⟨sl, hs⟩ := T'.up hL
  obtain ⟨T₁, S₁⟩ := kts_turn_at (h := h) (fs := outer.filterMap (·.frame)) (g := h₀)
    (fun b hb => let ⟨_, o, ho, _⟩ := B.frames.mem hb; ⟨o, ho⟩)
    (fun b o e nm => F'.keep b o (T'.other b o (FG.keep b o e) fun q => by
      rcases frame_mem hf q with z | z
      · rw [z, nL] at e; cases e
      · exact nm z))
    (fun b o e _ => let ⟨sl', hs'⟩ := T'.up (FG.keep b o e); ⟨sl', F'.keep _ _ hs'⟩)
  refine ⟨_, T₁, ⟨⟨_, es, ep, F'.keep _ _ hs, hLd, hLk, hLf⟩, S₁, by rw [T₁.size]; exact FG.above⟩, fun q hq => ⟨(N' q hq).1, fun e => ?_, T₁.none_ _ ?_⟩, ⟨B.stack, fun b o e => T₁.other b o (B.stays b o e) fun hm => ?_, B.frames.of_keeps fun b o e _ => ?_⟩⟩
  · have := (N' q hq).2.2; rw [e, hs] at this; cases this
  · cases e : h₀.get? q.1 with
    | none => rfl
    | some o => obtain ⟨sl', hs'⟩ := T'.up (FG.keep _ _ e); have := (N' q hq).2.2; rw [hs'] at this; cases this
  · rw [(B.frames.mem hm).1] at e; cases e
  · obtain ⟨sl', hs'⟩ := T₁.up e; exact ⟨_, hs', rfl⟩
theorem dicts_push (D : KtsDicts (outer.filterMap (·.frame)) h₀) (FG : Fr h₀ L g m) (hf : env.frame = some L) : KtsDicts ((env :: outer).filterMap (·.frame)) g := fun b hb => by
  rcases frame_mem hf hb with rfl | hb
  · obtain ⟨oL, es, ep, hL, hLd, _⟩ := FG.ns
    exact ⟨oL, es, ep, hL, hLd⟩
  · obtain ⟨o, es, n, ho, hd⟩ := D b hb
    exact ⟨o, es, n, FG.keep b o ho, hd⟩
end
section
variable {M : Model} {A : Around} {E : Value → Shared → Prop} {s' : Shared} {base g g₂ h : Heap} {outer : List Env} {L a e : Addr} {m : Str → Option Value} {name : Str} {scope : Scope} {cd : Value} {Q : Unit → Shared → Prop} {news : Led} {cl : List (Str × Addr)}
theorem leave_onSX {cls : Value} (K : Below A base outer g) (F : Fr g L g₂ m) (R : RaisedSN base g₂ (envX name scope L a cd cl :: outer) e cls news s'.heap) (hsm : g₂.UpToSlots s'.heap)
    (hQ : ∀ h', RaisedSN base g outer e cls news h' → RaisedN base outer e cls news h' → g.UpToSlots h' → Q () { s' with heap := h' }) :
    wpAny M (A.deeper (envX name scope L a cd cl)) (leaving (envX name scope L a cd cl) (.ref e)) Q E s' := by
  obtain ⟨B, a0, hB, hG, hl, hfl⟩ := R
  refine wpAny_leaves_onW (Around.frames_deeper K.stack) rfl hfl fun h' x1 x2 => ?_
  have R' : RaisedSN base g outer e cls news h' := by
    refine ⟨B, a0, hB, fun b o q nm => hG b o (F.keep b o q) fun hm => ?_, fun q hq => ⟨(hl q hq).1, kts_none F.keep (hl q hq).2.1, (hl q hq).2.2⟩, x1⟩
    rcases frame_mem (L := L) rfl hm with z | z
    · rw [z, kts_self F] at q; cases q
    · exact nm z
  exact hQ h' R' R'.toN ((Heap.UpToSlots.of_keeps F.keep).trans (hsm.trans x2))
end
section
variable {prog : Program} {w : World} {A₀ A : Around} {s : Shared} {base h₀ g₀ : Heap} {outer : List Env} {env : Env} {L : Addr} {m : Str → Option Value} {news : Led} {K : Frag} {p : Program} {loose : List Str} {mean : ExcName → Option Value} {mg mb : Str → Option Value}
    {R : Result → Shared → Prop} {name qual : Str} {params : Arguments} {body : List Stmt} {scope : Scope} {dV kV doc pm cdv ct oc : Value} {an od : Option Addr} {osl : Array (Option Value)} {f : Addr} {args : Args} {binds : List (Str × Value)}
theorem enterSX (B : Below A₀ base outer h₀) (F : Fr h₀ L s.heap m) (X₀ : K.In h₀) (N : News h₀ L s.heap news) (T : Top p loose mean mg mb h₀) (XB : K.In base) (TB : Top p loose mean mg mb base) (D : KtsDicts (outer.filterMap (·.frame)) h₀)
    (T0 : KtsTurn (outer.filterMap (·.frame)) g₀ h₀) (hA : A.frames = some (env :: outer)) (hf : env.frame = some L) (hke : env.scope.kind = .function)
    (ho : K.lookup f = some ⟨oc, od, .func (fnOf name qual params body scope dV kV doc pm an cdv ct), osl⟩) (hcd : codeIn K cdv qual = true) (hroom : A.depth < recursionLimit)
    (hbind : BindsTo s (fnOf name qual params body scope dV kV doc pm an cdv ct) args binds) (hloc : ∀ y ∈ binds, scope.names.lookup y.1 = some .local)
    (h : ∀ g L' h₁, Fr h₀ L g m → Fr g L' h₁ (fun y => binds.reverse.lookup y) → News g L' h₁ news → Below A base (env :: outer) g → K.In g → Top p loose mean mg mb g → KtsDicts ((env :: outer).filterMap (·.frame)) g →
      wpAny (model prog w) (A.deeper (envOf qual scope L' f cdv)) (execs body (envOf qual scope L' f cdv))
        (fun fl s' => LeaveS ((env :: outer).filterMap (·.frame)) A₀ base outer K p loose mean mg mb g₀ h₀ L m g R (match fl with | .ret v => v | _ => .none) s')
        (fun e s' => wpAny (model prog w) (A.deeper (envOf qual scope L' f cdv)) (leaving (envOf qual scope L' f cdv) e) (fun _ s'' => R (.error e) s'') (fun e' s'' => R (.error e') s'') s')
        { s with heap := h₁, toks := s.toks + binds.length })
    (hco : scope.isCoroutine = false) (hgen : scope.isGenerator = false) (hk : scope.kind = .function)
    (hcell : ∀ x ∈ scope.names, x.2 ≠ .cell) : codeAny (model prog w) A (.call (.ref f) args) R s := by
  have X := X₀.keeps F.keep
  obtain ⟨FG, BG, st, _⟩ := groundX (R := R) B F N hA hf hke
  refine codeAny_call_def (fd := fnOf name qual params body scope dV kV doc pm an cdv ct) (body := body) (binds := binds) hroom (X _ _ ho) rfl (T.nolimit.keeps F.keep) (codeRec_of X hcd) rfl hbind hcell hloc (fun h₁ hns hk₁ => ?_) hco hgen hk
  obtain ⟨F', N'⟩ := reground N (⟨hns, hk₁, Nat.le_refl _⟩ : Fr s.heap s.heap.objs.size h₁ _) News.nil
  refine wpAny_mono (h _ s.heap.objs.size h₁ FG F' N' BG (X₀.keeps st) (T.keeps st) (dicts_push D FG hf)) (fun fl s' hl => ?_) fun _ _ y => y
  rcases hl with ⟨L', m', news', F', N', k⟩ | ⟨g', L', m', news', T', F', N', k⟩
  · obtain ⟨oL, es, ep, hL, hLd, hLk, hLf⟩ := FG.ns
    refine k ⟨⟨oL, es, ep, F'.keep _ _ hL, hLd, hLk, hLf⟩, fun b o e => F'.keep b o (st b o e), F.above⟩ fun q hq => ⟨(N' q hq).1, fun e => ?_, kts_none st (N' q hq).2.2⟩
    have := (N' q hq).2.2; rw [e, hL] at this; cases this
  · obtain ⟨h₀', T₁, F₁, N₁, B₁⟩ := turn_back B FG hf T' F' N'
    exact k h₀' (T0.trans T₁) F₁ N₁ B₁ (XB.keeps B₁.stays) (TB.keeps B₁.stays) (D.turn T₁)
/-- the entry of a def with cells whose ground may be turned -/
theorem enterSC {pos : List Value} {kw : List (Str × Value)} {Q E : Value → Shared → Prop} (B : Below A₀ base [] h₀) (F : Fr h₀ L s.heap m) (X₀ : K.In h₀) (N : News h₀ L s.heap news) (T : Top p loose mean mg mb h₀) (hA : A.frames = some [env]) (hf : env.frame = some L) (hke : env.scope.kind = .function)
    (ho : K.lookup f = some ⟨oc, od, .func (fnOf name qual params body scope dV kV doc pm an cdv ct), osl⟩) (hcd : codeIn K cdv qual = true) (hroom : A.depth < recursionLimit)
    (hbind : BindsTo s (fnOf name qual params body scope dV kV doc pm an cdv ct) ⟨pos, kw⟩ binds) (hkind : (binds.all fun y => scope.names.lookup y.1 == some .local || scope.names.lookup y.1 == some .cell) = true)
    (hnd : ((cellsFrom 0 scope.names []).map (·.1)).Nodup)
    (h : ∀ g L' h₁ tk cells, Fr h₀ L g m → Fr g L' h₁ (bindL (envOfC qual scope L' f cdv).kindOf binds fun _ => none) → News g L' h₁ (cells ++ news) →
      CellsAre (bindC (envOfC qual scope L' f cdv).kindOf binds fun _ => none) (cellsFrom (L' + 1) scope.names []) cells → Below A base [env] g → K.In g → Top p loose mean mg mb g → KtsDicts ([env].filterMap (·.frame)) g → (∀ p ∈ news, p.1 < L') →
      wpAny (model prog w) (A.deeper (envOfC qual scope L' f cdv)) (execs body (envOfC qual scope L' f cdv))
        (fun fl s' => LeaveS0 ([env].filterMap (·.frame)) h₀ L m g (fun r s' => match r with | .ok (.ret v) => Q v s' | .ok _ => False | .error e => E e s') (match fl with | .ret v => v | _ => .none) s')
        (fun e s' => wpAny (model prog w) (A.deeper (envOfC qual scope L' f cdv)) (leaving (envOfC qual scope L' f cdv) e) (fun _ s'' => E e s'') (fun e' s'' => E e' s'') s')
        { s with heap := h₁, toks := tk })
    (hco : scope.isCoroutine = false) (hgen : scope.isGenerator = false) (hk : scope.kind = .function) : wpAny (model prog w) A (call (.ref f) pos kw) Q E s := by
  obtain ⟨FG, BG, st, _⟩ := groundX (R := fun _ _ => True) B F N hA hf hke
  refine enterC (X₀.keeps F.keep) (T.keeps F.keep) ho hcd hroom hbind hkind hnd (fun L' h₁ tk cells F' N' Y => ?_) hco hgen hk
  have l1 : s.heap.objs.size ≤ L' := F'.above
  obtain ⟨F'', N''⟩ := reground N F' N'
  refine wpAny_mono (h _ L' h₁ tk cells FG F'' N'' Y BG (X₀.keeps st) (T.keeps st) (dicts_push (outer := []) (fun _ h => nomatch h) FG hf) fun q hq => Nat.lt_of_lt_of_le (Heap.lt_size (N q hq).1) l1) (fun fl s' hl => ?_) fun _ _ y => y
  obtain ⟨g', L₂, m₂, news₂, T', F₂, N₂, k⟩ := hl
  obtain ⟨h₀', T₁, F₁, N₁, B₁⟩ := turn_back B FG hf T' F₂ N₂
  exact k ⟨F₁.ns, fun b o e => F₁.keep b o (T₁.other b o e (fun hm => nomatch hm)), F.above⟩ fun q hq => ⟨(N₁ q hq).1, (N₁ q hq).2.1, by
    cases e : h₀.get? q.1 with
    | none => rfl
    | some o => have := (N₁ q hq).2.2; rw [T₁.other _ o e (fun hm => nomatch hm)] at this; cases this⟩
end
end
/-! Idx -/
section
theorem enc_inj {l l' : List Nat} (h : Short l) (h' : Short l') (e : enc l = enc l') : l = l' := by
  cases h <;> cases h' <;> simp only [enc] at e <;> simp <;> omega
theorem are_strs : ∀ {vs : List Value} {ns : List Str}, Are StrV vs ns → StrsAre vs ns
  | _, _, .nil => .nil
  | _, _, .cons ⟨t, e⟩ h => by subst e; exact .cons _ t (are_strs h)
theorem isStr_at (k : Str) : ∀ {vs : List Value} {ns : List Str}, Are StrV vs ns → ∀ (j : Nat) (h1 : j < vs.length) (h2 : j < ns.length), isStrOf k vs[j] = (ns[j] == k)
  | _, _, .cons ⟨t, e⟩ _, 0, _, _ => by subst e; rfl
  | _, _, .cons _ r, j + 1, h1, h2 => isStr_at k r j (Nat.lt_of_succ_lt_succ h1) (Nat.lt_of_succ_lt_succ h2)
theorem str_ext {x y : Str} (h : x.cps.toList = y.cps.toList) : x = y := by
  obtain ⟨⟨a⟩⟩ := x; obtain ⟨⟨b⟩⟩ := y
  simp at h; rw [h]
theorem idx_facts {R : List Th} (hs : SortBy kR R) {x : Str} (hx : x ∈ R.map kP) :
    ∃ hj : posOf kR R (enc x.cps.toList) true < (R.map kP).length, (R.map kP)[posOf kR R (enc x.cps.toList) true] = x ∧ ∀ m (hm : m < (R.map kP).length), m < posOf kR R (enc x.cps.toList) true → (R.map kP)[m] ≠ x := by
  obtain ⟨t, ht, rfl⟩ := List.mem_map.mp hx
  have sp := posOf_spec (k := kR t) (left := true) hs
  change ∃ hj : posOf kR R (kR t) true < (R.map kP).length, (R.map kP)[posOf kR R (kR t) true] = kP t ∧ ∀ m (hm : m < (R.map kP).length), m < posOf kR R (kR t) true → (R.map kP)[m] ≠ kP t
  obtain ⟨i, hi⟩ := List.getElem?_of_mem ht
  have hij : posOf kR R (kR t) true ≤ i := Nat.le_of_not_lt fun q => by
    have := (sp i t hi).mpr q
    simp [below] at this
  have hil : i < R.length := by
    rcases Nat.lt_or_ge i R.length with q | q
    · exact q
    · rw [List.getElem?_eq_none q] at hi; cases hi
  generalize hjd : posOf kR R (kR t) true = j at *
  have hjl : j < R.length := by omega
  refine ⟨by rw [List.length_map]; exact hjl, ?_, fun m hm hmj e => ?_⟩
  · rw [List.getElem_map]
    have h1 := mt (sp j R[j] (List.getElem?_eq_getElem hjl)).mp (by omega)
    simp only [below, if_true, decide_eq_true_eq] at h1
    have h2 : kR R[j] ≤ kR t := by
      rcases Nat.lt_or_ge j i with q | q
      · have := List.pairwise_iff_getElem.mp hs j i hjl hil q
        rw [List.getElem?_eq_getElem hil] at hi
        injection hi with hi
        rw [hi] at this; exact this
      · have : j = i := by omega
        subst this
        rw [List.getElem?_eq_getElem hil] at hi
        injection hi with hi
        rw [hi]; exact Int.le_refl _
    exact str_ext (enc_inj (pic_short _) (pic_short _) (show kR R[j] = kR t by omega))
  · rw [List.length_map] at hm
    rw [List.getElem_map] at e
    have h1 := (sp m R[m] (List.getElem?_eq_getElem hm)).mpr hmj
    simp only [below, if_true, decide_eq_true_eq] at h1
    have : kR R[m] = kR t := congrArg (fun z : Str => enc z.cps.toList) e
    omega
section
variable {prog : Program} {w : World} {A : Around} {E : Value → Shared → Prop} {s : Shared} {Q : Value → Shared → Prop} {l : Addr} {vs : List Value} {R : List Th} {x : Str} {t : Tok}
theorem index_pics (hs : SortBy kR R) (hl : s.heap.IsList l vs.toArray) (ha : Are StrV vs (R.map kP)) (hz : R.length < 2 ^ 20) (hx : x ∈ R.map kP) (h : ∀ u tk, Q (.int (cP R x) u) { s with toks := tk }) :
    wpAny (model prog w) A (call (.builtin "list.index") [.ref l, .str x t]) Q E s := by
  obtain ⟨hj, hit, hno⟩ := idx_facts hs hx
  obtain ⟨⟨cls, dd, data, sl⟩, ho, hc, n, hd⟩ := id hl
  simp only at hc hd
  subst hc hd
  have hlen := ha.length
  rw [List.length_map] at hlen hj
  refine call_meets PySem.F.slot_list_index ⟨_, ho, rfl⟩ PySem.F.entry_list_index (PySem.F.args_list_index_2 _ _)
    (PySem.SeqAt.list_indexAt l vs.toArray n dd sl (.str x t) (isStrOf x) (posOf kR R (enc x.cps.toList) true) (by simpa [hlen] using hj) (by omega) ?_ ?_) ⟨ho, fun y hy => (eq_isStrOf x t (are_strs ha) y (by simpa using hy)).at _ _, h _ _⟩
  · have hjv : posOf kR R (enc x.cps.toList) true < vs.length := by omega
    show isStrOf x (vs[posOf kR R (enc x.cps.toList) true]'hjv) = true
    rw [isStr_at x ha _ (by omega) (by rw [List.length_map]; exact hj), hit]
    simp
  · intro j hjs hlt
    have hjs' : j < vs.length := by simpa using hjs
    show isStrOf x vs[j] = false
    rw [isStr_at x ha j hjs' (by rw [List.length_map]; omega)]
    exact beq_eq_false_iff_ne.mpr (hno j (by rw [List.length_map]; omega) hlt)
end
end
/-! Agr -/
section
theorem fill11 (w : World) (h : Heap) : (hd.heap_39 w.params).In h → PySem.Challenge.rw_pk0064_01.prog = PySem.Challenge.rw_pk0064_01.prog := by
  k_fill
  intro _; rfl
theorem are_ints : ∀ {vs : List Value} {ns : List Int}, Are IntV vs ns → IntsAre vs ns
  | _, _, .nil => .nil
  | _, _, .cons ⟨t, e⟩ h => by subst e; exact .cons _ t (are_ints h)
theorem ends_in : ∀ x ∈ marks, endOf x ∈ (marks ++ [512]).filter fun a => decide (x < a) := by decide
theorem ends_le : ∀ x ∈ marks, ∀ M ∈ marks ++ [512], x < M → endOf x ≤ M := by decide
theorem ends_ne {x : Int} (h : x ∈ marks) : 0 < ((marks ++ [512]).filter fun a => decide (x < a)).length := List.length_pos_of_mem (ends_in x h)
theorem ends_min {x M : Int} (h : x ∈ marks) (hM : M ∈ (marks ++ [512]).filter fun a => decide (x < a)) (hmin : ∀ a, a ∈ ((marks ++ [512]).filter fun a => decide (x < a)) → M ≤ a) : M = endOf x := by
  have h1 := hmin _ (ends_in x h)
  obtain ⟨h2, h3⟩ := List.mem_filter.mp hM
  have h4 := ends_le x h M h2 (of_decide_eq_true h3)
  omega
abbrev fC {R : List Th} (_ : SortBy kC R) : Int → Int := cC R
abbrev fP {R : List Th} (_ : SortBy kR R) : Str → Int := cP R
theorem kP_short {ts : List Th} {x : Str} (h : x ∈ ts.map kP) : Short x.cps.toList := by
  obtain ⟨t, _, rfl⟩ := List.mem_map.mp h; exact pic_short _
theorem lo_ok (x : Int) (n : Nat) : 0 ≤ x.fmod ((n : Int) + 1) := by rw [fmod_em _ (by omega)]; exact Int.emod_nonneg _ (by omega)
theorem hi_okR {κ : Th → Int} {ns : List Int} (y : Int) : y.fmod ((((rowOf kC ns).map kC).length : Int) + 1) ≤ ((rowOf κ ns).length : Int) := by
  rw [fmod_em _ (by omega), List.length_map, rowOf_length, rowOf_length]
  have := Int.emod_lt_of_pos y (show (0 : Int) < (ns.length : Int) + 1 by omega)
  omega
theorem caller_u : callerA.units = 4 := rfl
local macro_rules | `(tactic| k_ne) => `(tactic| (refine neN ?_; (try dsimp only); first | exact NeAll.get (by assumption) (by k_mem) | exact NeAll.get' (by assumption) (by k_mem) | exact Ne.symm (by assumption) | focus (refine Nat.ne_of_lt ?_; (repeat (first | assumption | exact Nat.lt_succ_self _ | refine Nat.lt_succ_of_lt ?_)); done) | focus (refine Nat.ne_of_gt ?_; (repeat (first | assumption | exact Nat.lt_succ_self _ | refine Nat.lt_succ_of_lt ?_)); done)))
theorem lnAgr0 : True := by
  k_with_none
  k_with "newList" => (k_dflt (refine' newList_K ?zzF ?zzN ?_; (case zzF => k_asm); (case zzN => k_asm); k_whole); intro l' h' F' N' l1; (replace l1 := neAll_lt l1); (simp only [List.map_cons, List.map_nil] at l1); (try k_sweep))
  k_with "call ref" => ((first | (with_reducible show wpAny _ _ (call (.ref 114) _ _) _ _ _) | (with_reducible show wpAny _ _ (call (.ref 109) _ _) _ _ _)); refine Stopped.go ?_)
  k_with "my X" => (refine' Frag.In.keeps ?zzx (Fr.keep ?zzf); (case zzf => assumption); (case zzx => assumption))
  k_with "my T" => (refine' Top.keeps ?zzx (Fr.keep ?zzf); (case zzf => assumption); (case zzx => assumption))
  k_with "my room" => ((try simp only [depth_deeper, depth_in1, depth_caller]); decide)
  k_with "my units" => (simp only [Around.deeper_units, caller_u]; decide)
  k_with "my get" => exact News.get (by assumption) (by k_mem)
  k_with "my lst" => exact stays_list (Fr.keep (by assumption)) (News.isList (by assumption) (by k_mem))
  k_with "my after" => (intro t' h' tk' k' F' N'; (try clear k'); (try dsimp only); (try k_sweep))
  k_with "eval Name" => (k_dflt (first
      | (refine' nameY_L ?zzF ?zzv ?_ ?zza ?zzb ?zzc ?zzd; (case zzF => k_asm); (case zzv => assumption); (case zza => rfl); (case zzb => rfl); (case zzc => rfl); (case zzd => decide); k_whole)
      | (refine' nameY_C ?zzF ?zzN ?zzm ?zzd ?_ ?zzc ?zzb ?zzx ?zzn; (case zzF => k_asm); (case zzc => rfl); (case zzb => rfl); (case zzx => rfl); (case zzn => decide); (case zzN => k_asm); (case zzm => k_mem); (case zzd => assumption); k_whole)))
  k_with "EltP" => (refine' And.intro ?zze (TEnd.intro ?zzF ?zzN ?zzs); (case zzF => assumption); (case zzN => assumption); (case zzs => exact fun _ h => h); (case zze => first | assumption | exact ⟨_, rfl⟩))
  k_with "eval ListComp" => (refine Stopped.go ?_)
  k_with "exec Assign cons ListComp" => ((with_reducible show wpAny _ _ (exec (Stmt.Assign [PySem.Expr.Name (Str.ofString "ends") _] _ _) _) _ _ _); refine Stopped.go ?_)
  k_with "binaryOp Add ref ref" => (
      k_dflt (refine' kmk_add_lit ?zzF ?zzN ?zza ?zzb ?zze ?_ ?zzz; (case zzF => k_asm); (case zzN => k_asm); (case zza => first | exact News.isList (by assumption) (by k_mem) | walk_at "my lst"); (case zzb => exact News.isList (by assumption) (by k_mem)); (case zze => rfl); (case zzz => walk_at "my size")); intro D' h' F' N' l1; (replace l1 := neAll_lt l1); (simp only [List.map_cons, List.map_nil] at l1); (try k_sweep))
  k_with "my size" => ((try simp only [Are.length (by assumption : Are IntV _ marks)]); simp [marks, sizeLine])
  k_with "call builtin:len" => (k_dflt (
      refine' len_at ?zza ?zzl ?zzz ?_; (case zzl => exact News.isList (by assumption) (by k_mem)); (case zza => assumption); (case zzz => assumption); k_whole))
  k_with "call ref" => (k_dflt (
      refine' edges_framed ?zzX ?zzT ?zzr ?zzF ?zzN ?_; (case zzF => k_asm); (case zzN => k_asm); (case zzX => walk_at "my X"); (case zzT => walk_at "my T"); (case zzr => walk_at "my room"); k_whole
      intro T9 mk wd vm cm vw cw h9 tk9 F9 N9 e0 e1 e2 qm qw
      replace e0 := neAll_of e0; replace e1 := neAll_of e1; replace e2 := neAll_of e2
      simp only [List.map_cons, List.map_nil] at e0 e1 e2
      (try dsimp only); (try k_sweep)))
  k_with "my name" => (intro Q9 h9; (k_dflt (first
      | (refine' nameX_L ?zzF9 ?zzv9 ?_ ?zza9 ?zzb9; (case zzF9 => k_asm); (case zza9 => rfl); (case zzb9 => rfl); (case zzv9 => rfl))
      | (refine' nameX_C ?zzN9 ?zzc9 ?zzm9 ?zzd9 ?_ ?zza9 ?zzb9; (case zza9 => rfl); (case zzb9 => rfl); (case zzN9 => k_asm); (case zzc9 => rfl); (case zzm9 => k_mem); (case zzd9 => assumption)))); exact h9)
  k_with "my restA" => (
      (case zzF => k_asm); (case zzN => k_asm); (case zzX => assumption); (case zzT => assumption); (case zzhit => walk_at "my name"); (case zzh6 => k_mem); (case zzha => assumption); (case zzhh => rfl); (case zzhsz => first | assumption | ((try simp only [List.length_map]); decide))
      (case zzhL => rfl); (case zzhsw => (with_unfolding_all rfl)); (case zzhy => rfl); (case zzhp => rfl)
      (case zzclos => (with_unfolding_all rfl)); (case zzcell => decide); (case zzkind => rfl); (case zznames => decide); (case zzx => rfl); (case zzs => exact fun _ => rfl)
      (intro C9 I9 D9 a9 v9 h9 tk9 m9 oI9 oD9 rest9 E9 i0 i1 i2 hm9 hr9 hv9 F9 N9 X9 T9; (obtain ⟨t9, e9⟩ := hr9); subst e9)
      rotate_left 1
      (intro D9 h9 tk9 ys9 nD9 l9 F9 N9 r9; (replace l9 := neAll_lt l9); (simp only [List.map_cons, List.map_nil] at l9); (try k_sweep))
      rotate_left 1)
  k_with "exec Assign cons ListComp" => (k_dflt (first
      | ((with_reducible show wpAny _ _ (exec (Stmt.Assign [PySem.Expr.Name (Str.ofString "begins") _] _ _) _) _ _ _); refine' mapA (fC (by assumption)) IntV ?zzF ?zzN ?zzX ?zzT ?zzhit ?zzh6 ?zzha ?zzhh ?zzhsz ?zzhL ?zzhsw ?zzhy ?zzhp ?zzclos ?zzcell ?zzkind ?zznames ?zzx ?zzs ?_ ?_; walk_at "my restA")
      | ((with_reducible show wpAny _ _ (exec (Stmt.Assign [PySem.Expr.Name (Str.ofString "closes") _] _ _) _) _ _ _); refine' mapA (fC (by assumption)) IntV ?zzF ?zzN ?zzX ?zzT ?zzhit ?zzh6 ?zzha ?zzhh ?zzhsz ?zzhL ?zzhsw ?zzhy ?zzhp ?zzclos ?zzcell ?zzkind ?zznames ?zzx ?zzs ?_ ?_; walk_at "my restA")
      | ((with_reducible show wpAny _ _ (exec (Stmt.Assign [PySem.Expr.Name (Str.ofString "shown") _] _ _) _) _ _ _); refine' mapA (fP (by assumption)) IntV ?zzF ?zzN ?zzX ?zzT ?zzhit ?zzh6 ?zzha ?zzhh ?zzhsz ?zzhL ?zzhsw ?zzhy ?zzhp ?zzclos ?zzcell ?zzkind ?zznames ?zzx ?zzs ?_ ?_; walk_at "my restA")))
  k_with "my short" => first | exact words_short (by assumption) | exact kP_short (by assumption)
  k_with "call ref" => (k_dflt (
      refine' Pure.framedI (s_code ?zzs ?zzl ?zza ?zzz ?zzX ?zzT ?zzr) ?zzF ?zzN ?_; (case zzF => k_asm); (case zzN => k_asm); (case zzs => assumption); (case zzl => walk_at "my lst"); (case zza => assumption); (case zzz => assumption); (case zzX => walk_at "my X"); (case zzT => walk_at "my T"); (case zzr => walk_at "my room"); k_whole
      walk_at "my after"))
  k_with "call ref" => (k_dflt (
      refine' Pure.framedI (s_pic ?zzs ?zzh ?zzl ?zza ?zzz ?zzX ?zzT ?zzr) ?zzF ?zzN ?_; (case zzF => k_asm); (case zzN => k_asm); (case zzs => assumption); (case zzh => walk_at "my short"); (case zzl => walk_at "my lst"); (case zza => assumption); (case zzz => assumption); (case zzX => walk_at "my X"); (case zzT => walk_at "my T"); (case zzr => walk_at "my room"); k_whole
      walk_at "my after"))
  k_with "call ref" => (k_dflt (
      refine' Pure.framedI (s_ints ?zzs ?zzl ?zza ?zzz ?zzX ?zzT ?zzr) ?zzF ?zzN ?_; (case zzF => k_asm); (case zzN => k_asm); (case zzs => assumption); (case zzl => walk_at "my lst"); (case zza => assumption); (case zzz => assumption); (case zzX => walk_at "my X"); (case zzT => walk_at "my T"); (case zzr => walk_at "my room"); k_whole
      walk_at "my after"))
  k_with "call ref" => (k_dflt (
      refine' Pure.framedI (s_strs ?zzs ?zzh ?zzl ?zza ?zzz ?zzX ?zzT ?zzr) ?zzF ?zzN ?_; (case zzF => k_asm); (case zzN => k_asm); (case zzs => assumption); (case zzh => walk_at "my short"); (case zzl => walk_at "my lst"); (case zza => assumption); (case zzz => assumption); (case zzX => walk_at "my X"); (case zzT => walk_at "my T"); (case zzr => walk_at "my room"); k_whole
      walk_at "my after"))
  k_with "call ref" => (k_dflt (
      refine' Pure.framedI (s_pic2 ?zzs ?zzh ?zzl ?zza ?zzz ?zzh0 ?zzh1 ?zzX ?zzT ?zzr) ?zzF ?zzN ?_; (case zzF => k_asm); (case zzN => k_asm); (case zzs => assumption); (case zzh => walk_at "my short"); (case zzl => walk_at "my lst"); (case zza => assumption); (case zzz => assumption); (case zzh0 => exact lo_ok _ _); (case zzh1 => exact hi_okR _); (case zzX => walk_at "my X"); (case zzT => walk_at "my T"); (case zzr => walk_at "my room"); k_whole
      walk_at "my after"))
  k_with "call ref" => (k_dflt (
      refine' Pure.framedI (s_ints2 ?zzs ?zzl ?zza ?zzz ?zzh0 ?zzh1 ?zzX ?zzT ?zzr) ?zzF ?zzN ?_; (case zzF => k_asm); (case zzN => k_asm); (case zzs => assumption); (case zzl => walk_at "my lst"); (case zza => assumption); (case zzz => assumption); (case zzh0 => exact lo_ok _ _); (case zzh1 => exact hi_okR _); (case zzX => walk_at "my X"); (case zzT => walk_at "my T"); (case zzr => walk_at "my room"); k_whole
      walk_at "my after"))
  k_with "my len" => first | assumption | ((try simp only [List.length_map, List.length_append, List.length_drop]); decide)
  k_with "my afterL" => (intro D9 ys9 n9 h9 tk9 F9 N9 e9 r9; (replace e9 := neAll_of e9); (simp only [List.map_cons, List.map_nil] at e9); (try dsimp only); (try k_sweep))
  k_with "my top" => exact News.isList (by assumption) (by k_mem)
  k_with "call ref" => (k_dflt (
      refine' Pure.framedL (counts_strs ?zzl ?zza ?zzl2 ?zza2 ?zzz ?zzz2 ?zzX ?zzT ?zzr ?zzh) ?zzF ?zzN ?_; (case zzF => k_asm); (case zzN => k_asm); (case zzl => walk_at "my top"); (case zza => assumption); (case zzl2 => walk_at "my top"); (case zza2 => assumption); (case zzz => assumption); (case zzz2 => walk_at "my len"); (case zzX => walk_at "my X"); (case zzT => walk_at "my T"); (case zzr => walk_at "my room"); (case zzh => rfl); k_whole
      walk_at "my afterL"))
  k_with "call ref" => (k_dflt (
      refine' Pure.framedL (counts_ints ?zzl ?zza ?zzl2 ?zza2 ?zzz ?zzz2 ?zzX ?zzT ?zzr ?zzh) ?zzF ?zzN ?_; (case zzF => k_asm); (case zzN => k_asm); (case zzl => walk_at "my top"); (case zza => assumption); (case zzl2 => walk_at "my top"); (case zza2 => assumption); (case zzz => assumption); (case zzz2 => walk_at "my len"); (case zzX => walk_at "my X"); (case zzT => walk_at "my T"); (case zzr => walk_at "my room"); (case zzh => rfl); k_whole
      walk_at "my afterL"))
  exact trivial
theorem sz_arr {α : Type} {R : Value → α → Prop} {vs : List Value} {as : List α} (h : Are R vs as) (z : as.length ≤ 2 ^ 20) : vs.toArray.size ≤ sizeLine := by
  have := h.length
  simp only [List.size_toArray, sizeLine]; omega
theorem sz_add {α : Type} {R : Value → α → Prop} {vs : List Value} {as : List α} {k : Nat} {v : Value} (h : Are R vs as) (z : as.length ≤ 2 ^ 20) : (vs.drop k).toArray.toList.length + (#[v] : Array Value).toList.length ≤ sizeLine := by
  have := h.length
  simp [sizeLine]; omega
theorem shown0_at {prog : Program} {w : World} {A : Around} {E Q : Value → Shared → Prop} {s : Shared} {l : Addr} {vs : List Value} {ns : List Int} {u : Tok} {value slice : PySem.Expr} (ha : Are IntV vs (words.map (cP (rowOf kR ns)))) (hl : s.heap.IsList l vs.toArray) (h : ∀ t, Q (.int 0 t) s)
    (hs : subscripted slice false (.ref l) (.int 0 u) = operate [.ref l, .int 0 u] (getItem (.ref l) (.int 0 u)) := by with_unfolding_all rfl) :
    wpAny (model prog w) A (subscriptTail value slice (.ref l) (.int 0 u)) Q E s := by
  refine item_atI ha hl (by rw [List.length_map]; decide) (by rw [List.length_map]; decide) (fun a t e => ?_) hs
  have e' : some (cP (rowOf kR ns) ⟨#[32]⟩) = some a := e
  rw [shown_zero] at e'
  injection e' with e'
  rw [← e']; exact h t
theorem lnAgr31 : True := by
  k_with "subscriptTail Name Constant ref int" => (k_dflt (
      refine' shown0_at ?zza ?zzl ?_ ?zzs; (case zzl => walk_at "my top"); (case zza => assumption); (case zzs => with_unfolding_all rfl); k_whole; intro t9; (try dsimp only)))
  k_with "subscriptTail Name Slice ref ref" => (
      k_dflt (refine' kmk_slice_lit ?zzF ?zzN ?zzl ?zzp ?zzq ?zze ?_ ?zzs ?zzt ?zzz; (case zzF => k_asm); (case zzN => k_asm); (case zzl => walk_at "my top"); (case zzp => first | exact IsPart.none | exact IsPart.int _ _); (case zzq => first | exact IsPart.none | exact IsPart.int _ _); (case zze => first | exact pick_upto (by decide) | exact pick_from (by decide)); (case zzs => with_unfolding_all rfl); (case zzt => exact fun _ => rfl); (case zzz => exact sz_arr (by assumption) (Nat.le_of_ble_eq_true rfl))); intro D' h' F' N' l1; (replace l1 := neAll_lt l1); (simp only [List.map_cons, List.map_nil] at l1); (try k_sweep))
  k_with "my size" => first | ((try simp only [Are.length (by assumption : Are IntV _ marks)]); (simp [marks, sizeLine]; done)) | exact sz_add (by assumption) (Nat.le_of_ble_eq_true rfl)
  k_with "call ref" => (k_dflt (
      refine' Pure.framedC' (cut_spec ?zzl ?zza ?zzl2 ?zza2 ?zzl3 ?zza3 ?zzz ?zzz1 ?zzz2 ?zzle ?zzn1 ?zzn2 ?zzX ?zzT ?zzr ?zzh) ?zzF ?zzN ?_; (case zzF => k_asm); (case zzN => k_asm); (case zzl => walk_at "my top"); (case zza => assumption); (case zzl2 => walk_at "my top"); (case zza2 => assumption); (case zzl3 => walk_at "my top")
      (case zza3 => first | assumption | exact Are.append (.cons ⟨_, rfl⟩ .nil) (Are.drop (by assumption) _)); (case zzz => assumption); (case zzz1 => exact Nat.le_of_ble_eq_true rfl); (case zzz2 => exact Nat.le_of_ble_eq_true rfl); (case zzle => rfl)
      (case zzn1 => first | exact nnC _ _ | exact nnP _ _); (case zzn2 => first | exact nnC _ _ | exact nnD _ _ _ _); (case zzX => walk_at "my X"); (case zzT => walk_at "my T"); (case zzr => walk_at "my room"); (case zzh => rfl); k_whole
      (intro D9 d9 h9 tk9 F9 N9 e9 k9 r9; (replace e9 := neAll_of e9); (simp only [List.map_cons, List.map_nil] at e9); (try dsimp only); (try k_sweep))))
  k_with "my dat1" => exact dat_ints (News.get (by assumption) (by k_mem)) (by assumption)
  k_with "my dat" => first
      | exact CutAt.there (by assumption) (by assumption)
      | exact CutAt.here (by assumption)
      | (refine' dat_two ?zzg ?zzx ?zzy; (case zzg => exact News.get (by assumption) (by k_mem)); (case zzx => walk_at "my dat1"); (case zzy => walk_at "my dat1"))
      | walk_at "my dat1"
  k_with "my plain" => first | exact rfl | exact e_1 _ _ _ | exact e_6 _ _ _ _ _ | exact e_10 _
  k_with "compareOp NotEq ref ref" => (k_dflt (first
      | (refine' ne_same' ?zzxa ?zzxb ?zze ?zzu ?_; (case zzxa => walk_at "my dat"); (case zzxb => walk_at "my dat"); (case zze => walk_at "my plain"); (case zzu => walk_at "my units"); k_whole)
      | refine Stopped.go ?_))
  k_with "exec Assign cons ListComp" => ((with_reducible show wpAny _ _ (exec (Stmt.Assign [PySem.Expr.Name (Str.ofString "held") _] _ _) _) _ _ _); refine Stopped.go ?_)
  k_with "my restE" => (
      (case zzF => k_asm); (case zzN => k_asm); (case zzX => assumption); (case zzT => assumption); (case zzhit => walk_at "my name"); (case zzh6 => k_mem); (case zzha => assumption); (case zzhh => rfl); (case zzhsz => first | assumption | ((try simp only [List.length_map]); decide))
      (case zzclos => (with_unfolding_all rfl)); (case zzcell => decide); (case zzkind => rfl); (case zznames => decide); (case zzx => rfl); (case zzs => exact fun _ => rfl)
      (intro C9 I9 D9 a9 v9 h9 tk9 m9 oI9 oD9 rest9 E9 i0 i1 i2 hm9 hr9 hv9 F9 N9 X9 T9; (obtain ⟨t9, e9⟩ := hr9); subst e9)
      rotate_left 1
      (intro D9 h9 tk9 ys9 nD9 l9 F9 N9 r9; (replace l9 := neAll_lt l9); (simp only [List.map_cons, List.map_nil] at l9); (try k_sweep))
      rotate_left 1)
  k_with "call ref" => ((with_reducible show wpAny _ _ (call (.ref 121) _ _) _ _ _); k_dflt (refine wpAny_call ?_; refine' enterSX ?zzk1 ?zzk2 ?zzk3 ?zzk4 ?zzk5 ?zzXB ?zzTB ?zzD ?zzT0 ?zzkA ?zzkf ?zzkk ?zzk6 ?zzk7 ?zzk8 ?zzk9 ?zzkB ?_ ?zzc2 ?zzc3 ?zzc4 ?zzc5; (case zzkA => exact rfl); (case zzk2 => k_asm); (case zzk1 => k_asm); (case zzXB => assumption); (case zzTB => assumption); (case zzD => assumption); (case zzT0 => first | assumption | exact KtsTurn.refl); (case zzk3 => k_asm); (case zzk4 => k_asm); (case zzk5 => k_asm); (case zzkf => rfl); (case zzkk => rfl); (case zzk6 => k_is); (case zzk7 => k_is); (case zzk8 => k_room); (case zzk9 => exact BindsTo.of_eq rfl); (case zzkB => exact locs rfl); (case zzc2 => exact rfl); (case zzc3 => exact rfl); (case zzc4 => exact rfl); (case zzc5 => decide); k_whole); intro g' L' h' FG' F' N' B' X' T' D'; (try dsimp only); (try k_lift B'); (try k_fold))
  k_with "leaving ref" => (k_here; k_dflt (refine' leave_onSX ?zzk1 ?zzk2 ?zzk3 ?zzk4 ?_; (case zzk3 => assumption); (case zzk2 => assumption); (case zzk1 => assumption); (case zzk4 => assumption); k_whole); intro h' S' R' U'; (try dsimp only at S' R' U' ⊢))
  k_with "LeaveS" => (k_dflt (refine' leaveS_r ?zzF ?zzN ?zzT ?_; (case zzF => k_asm); (case zzN => k_asm); (case zzT => first | assumption | exact KtsTurn.refl); k_whole); intro kg kT kF kN kB kX₀ kP kD; (have kC : CodeHd kg 125 123 := by (k_dflt (refine' CodeHd.keeps ?zzc (Below.stays kB); (case zzc => assumption)))); (have kX := kFor kF kX₀); (try k_lift kB); kts_tail)
  k_with "LeaveS0" => (refine Stopped.go ?_)
  k_with "call builtin:list.index" => (k_dflt (
      refine' index_pics ?zzs ?zzl ?zza ?zzz ?zzx ?_; (case zzl => walk_at "my lst"); (case zzs => assumption); (case zza => assumption); (case zzz => assumption); (case zzx => assumption); k_whole; intro u9 tk9; (try dsimp only)))
  k_with "compareOp Eq ref ref" => (k_dflt (
      refine' eq_same' ?zzxa ?zzxb ?zze ?zzu ?_; (case zzxa => walk_at "my dat"); (case zzxb => walk_at "my dat"); (case zze => walk_at "my plain"); (case zzu => walk_at "my units"); k_whole))
  exact trivial
theorem getm_index {prog : Program} {w : World} {A : Around} {E : Value → Shared → Prop} {s : Shared} {pl : Sem Bool} {Q : Value × List Value → Shared → Prop} {l : Addr} {its : Array Value} {n : Nat} (hg : s.heap.get? l = some (PySem.W.listOf its n)) (h : Q (.builtin "list.index", [.ref l]) s) :
    wpAny (model prog w) A (getMethod (.ref l) (PySem.Str.ofString "index") pl) Q E s :=
  getMethod_builtin ⟨_, hg, rfl⟩ PySem.F.plainAttrs_list PySem.F.slot_list_index PySem.F.type_list_index (fun a e => by cases e; exact ⟨_, hg, rfl⟩) h
theorem lnAgr47 : True := by
  k_with "getMethod ref" => (k_dflt (refine' getm_index ?zzg ?_; (case zzg => first | exact Fr.keep (by assumption) _ _ (News.get (by assumption) (by k_mem)) | exact News.get (by assumption) (by k_mem)); k_whole))
  exact trivial
theorem News.sing {h₀ h : Heap} {L : Addr} {big : Led} {q : Addr × Obj} (N : News h₀ L h big) (hq : q ∈ big) : News h₀ L h [q] := fun x hx => by
  rw [List.mem_singleton.mp hx]; exact N q hq
theorem lnAgr48 : True := by
  k_with "my mapP" => (refine' mapE (fP (by assumption)) IntV ?zzF ?zzN ?zzX ?zzT ?zzhit ?zzh6 ?zzha ?zzhh ?zzhsz ?zzclos ?zzcell ?zzkind ?zznames ?zzx ?zzs ?_ ?_; walk_at "my restE")
  exact trivial
section
variable {w : World} {s : Shared} {p : Program} {loose : List Str} {mean : ExcName → Option Value} {mg mb : Str → Option Value} {Q E : Value → Shared → Prop}
theorem agrees_spec {base h₀ : Heap} {cn : Str} {cs : Scope} {L a : Addr} {ccd : Value} {m : Str → Option Value} {a1 a2 a3 a4 : Addr} {v1 v2 v3 v4 : List Value} {c1 c2 c3 c4 : Nat} {ns : List Int} {total : Int} {tt : Tok}
    (B : Below callerA base [] h₀) (F : Fr h₀ L s.heap m) (XB : (hd.heap_39 w.params).In base) (TB : Top p loose mean mg mb base) (CB : CodeHd base 125 123)
    (N : News h₀ L s.heap [(a4, PySem.W.listOf (List.toArray v4) c4), (a3, PySem.W.listOf (List.toArray v3) c3), (a2, PySem.W.listOf (List.toArray v2) c2), (a1, PySem.W.listOf (List.toArray v1) c1), (123, tabObj #[])])
    (hck : cs.kind = .function) (n1 : @Ne Nat 123 a1) (n2 : @Ne Nat 123 a2) (n3 : @Ne Nat 123 a3) (n4 : @Ne Nat 123 a4)
    (r1 : Are ThV v1 (rowOf kC ns)) (r2 : Are ThV v2 (rowOf kR ns)) (r3 : Are IntV v3 ((rowOf kC ns).map kC)) (r4 : Are StrV v4 ((rowOf kR ns).map kP)) (hlen : ns.length < 2 ^ 10)
    (hret : ∀ h' tk' ps, Fr h₀ L h' m → News h₀ L h' [(123, tabObj ps)] → Q (.bool true) { s with heap := h', toks := tk' }) :
    wpAny (model PySem.Challenge.rw_pk0064_01.prog w) (callerA.deeper (envOf cn cs L a ccd)) (call (.ref 126) [.ref a1, .ref a2, .ref a3, .ref a4, .int total tt]) Q E s := by
  refine' enterSC (env := envOf cn cs L a ccd) B F (XB.keeps B.stays) N (TB.keeps B.stays) ?zzkA ?zzkF ?zzkK ?zzk6 ?zzk7 ?zzk8 ?zzk9 ?zzkB ?zzkD ?_ ?zzc2 ?zzc3 ?zzc4
  (case zzkA => exact rfl); (case zzkF => exact rfl); (case zzkK => exact hck); (case zzk6 => k_is); (case zzk7 => k_is); (case zzk8 => k_room); (case zzk9 => exact BindsTo.of_eq rfl); (case zzkB => exact rfl); (case zzkD => decide +kernel); (case zzc2 => exact rfl); (case zzc3 => exact rfl); (case zzc4 => exact rfl)
  intro g L' h' tk' cells FG F' N' Y' B' X' T' D' l1
  (try k_lt l1)
  obtain ⟨l14, l13, l12, l11, l10⟩ := l1
  have CH' := CB.keeps B'.stays
  clear FG
  cases Y' with | cons d8 Y' => ?_
  cases Y' with | cons d7 Y' => ?_
  cases Y' with | cons d6 Y' => ?_
  cases Y' with | cons d5 Y' => ?_
  cases Y' with | cons d4 Y' => ?_
  cases Y' with | cons d3 Y' => ?_
  cases Y' with | cons d2 Y' => ?_
  cases Y' with | cons d1 Y' => ?_
  cases Y'
  rename_i o8 o7 o6 o5 o4 o3 o2 o1
  change o1.data = .cell (some (.ref a1)) at d1
  change o2.data = .cell (some (.ref a2)) at d2
  change o3.data = .cell (some (.ref a3)) at d3
  change o4.data = .cell (some (.ref a4)) at d4
  change o5.data = .cell none at d5
  change o6.data = .cell none at d6
  change o7.data = .cell none at d7
  change o8.data = .cell none at d8
  simp only [List.cons_append, List.nil_append] at N'
  have so1 := rowOf_sorted kC ns
  have so2 := rowOf_sorted kR ns
  have z1 : (rowOf kC ns).length < 2 ^ 20 := by rw [rowOf_length]; omega
  have z2 : (rowOf kR ns).length < 2 ^ 20 := by rw [rowOf_length]; omega
  have z3 : ((rowOf kC ns).map kC).length < 2 ^ 20 := by rw [List.length_map]; exact z1
  have z4 : ((rowOf kR ns).map kP).length < 2 ^ 20 := by rw [List.length_map]; exact z2
  (try dsimp only)
  (try k_fold)
  k_steps
  rename_i om dm _ FZ NZ
  unfold Stopped
  refine compNAC (xv := .ref mk) (fun _ => true) endOf IntV FZ NZ X' T' (src_list rfl (News.isList NZ (by k_mem)) qm (by decide)) ?zzhit rfl (by with_unfolding_all rfl) (by rfl) (by rfl) (by with_unfolding_all rfl) (fun _ _ => rfl) (fun _ => rfl) rfl (by decide) rfl (fun _ => rfl) ?_ ?_ ?_
  case zzhit =>
    intro Q9 h9
    k_dflt (refine' nameX_C ?zzN ?zzc ?zzm ?zzd ?_ ?zza ?zzb; (case zza => rfl); (case zzb => rfl); (case zzN => exact NZ); (case zzc => rfl); (case zzm => k_mem); (case zzd => exact dm))
    exact h9
  · intro C I D c a v h tk m₂ oc oI oD rest E' i0 i1 i2 i3 ha hv hoc F N X T
    exact tests_nil ⟨rfl, TEnd.intro F N fun _ h => h⟩
  · intro C I D c x v h tk m₂ oc oI oD rest E' i0 i1 i2 i3 ha _ hv hoc F N X T
    obtain ⟨t, rfl⟩ := hv
    (try dsimp only)
    (try k_fold)
    k_steps
    unfold Stopped
    refine compELF F (marks ++ [512]) (fun a => decide (x < a)) (fun a => a) IntV (fun v b _ => IntV v b) (by with_unfolding_all rfl) (by decide) rfl (by decide) rfl (fun _ _ _ _ _ g => g) ?_ (fun _ => rfl)
    k_steps
    refine ⟨_, F', N', src_list rfl (News.isList N' (.head _)) (Are.append (.cons ⟨_, rfl⟩ .nil) qm) (by decide), ?_, ?_, ?_⟩
    · intro C I D a v h tk m₂ oI oD rest E' i0 i1 i2 ha hv hmx F N
      obtain ⟨t, rfl⟩ := hv
      refine tests_one ?_
      have X2 := X.keeps F'.keep
      have T2 := T.keeps F'.keep
      k_steps
      exact ⟨rfl, TEnd.intro (by assumption) (by assumption) fun _ h => h⟩
    · intro C I D a v h tk m₂ oI oD rest E' i0 i1 i2 ha _ hv hmx F N
      k_steps
      exact ⟨[], hv, (fun _ h => nomatch h), TEnd.intro (by assumption) (by assumption) fun _ h => by simpa using h⟩
    · intro D2 h2 tk2 ys nD rest2 hD hlt N2 hA F2
      have hA' := hA.are
      rw [List.map_id'] at hA'
      k_steps
      refine min_list_N rfl F2 N2 (News.isList N2 (.head _)) (are_ints hA') (ends_ne ha) ?_
      intro h3 M t3 tk3 F3 N3 hM hmin
      refine ⟨⟨t3, ?_⟩, TEnd.intro F3 N3 ?_⟩
      · rw [ends_min ha hM hmin]
      · intro q hq
        exact .tail _ (List.mem_append_right _ (.tail _ (.tail _ hq)))
  · intro D h2 tk2 ys nD hlt F2 N2 hA
    rw [filter_allG] at hA
    replace hlt := neAll_lt hlt
    simp only [List.map_cons, List.map_nil] at hlt
    clear FZ NZ
    k_steps
    unfold Stopped
    refine' mapE (fC so1) IntV ?zzF ?zzN ?zzX ?zzT ?zzhit ?zzh6 ?zzha ?zzhh ?zzhsz ?zzclos ?zzcell ?zzkind ?zznames ?zzx ?zzs ?_ ?_
    walk_at "my restE"
    · k_steps
    k_steps
    unfold Stopped
    refine' mapE (fP so2) IntV ?zzF ?zzN ?zzX ?zzT ?zzhit ?zzh6 ?zzha ?zzhh ?zzhsz ?zzclos ?zzcell ?zzkind ?zznames ?zzx ?zzs ?_ ?_
    walk_at "my restE"
    · k_steps
    k_steps
    unfold Stopped
    refine' mapA (fun wd => max (total.fmod ((((rowOf kC ns).map kC).length : Int) + 1)) (min ((total.fdiv 8).fmod ((((rowOf kC ns).map kC).length : Int) + 1)) (cP (rowOf kR ns) wd))) IntV ?zzF ?zzN ?zzX ?zzT ?zzhit ?zzh6 ?zzha ?zzhh ?zzhsz ?zzhL ?zzhsw ?zzhy ?zzhp ?zzclos ?zzcell ?zzkind ?zznames ?zzx ?zzs ?_ ?_
    walk_at "my restA"
    · k_steps
    k_steps
    unfold Stopped
    refine' mapE (fun x => max (total.fmod ((((rowOf kC ns).map kC).length : Int) + 1)) (min ((total.fdiv 8).fmod ((((rowOf kC ns).map kC).length : Int) + 1)) (cC (rowOf kC ns) x))) IntV ?zzF ?zzN ?zzX ?zzT ?zzhit ?zzh6 ?zzha ?zzhh ?zzhsz ?zzclos ?zzcell ?zzkind ?zznames ?zzx ?zzs ?_ ?_
    walk_at "my restE"
    · k_steps
    k_steps
    unfold Stopped
    walk_at "my mapP"
    · k_steps
    k_steps
    unfold Stopped
    walk_at "my mapP"
    · k_steps
    k_steps
    unfold Stopped
    show LeaveS0 _ _ _ _ _ _ _ _
    k_dflt (refine' leaveS0_ ?zzFz ?zzNz ?zzTz ?_; (case zzFz => k_asm); (case zzNz => k_asm); (case zzTz => first | assumption | exact KtsTurn.refl))
    intro kF kN
    exact hret _ _ _ kF (News.sing kN (by k_mem))
end
end
/-! Law0 -/
section
theorem lnLaw00 : True := by
  k_with_none
  k_with "my X" => (refine' Frag.In.keeps ?zzx (Fr.keep ?zzf); (case zzf => assumption); (case zzx => assumption))
  k_with "my T" => (refine' Top.keeps ?zzx (Fr.keep ?zzf); (case zzf => assumption); (case zzx => assumption))
  k_with "my room" => ((try simp only [depth_deeper, depth_in1, depth_caller]); decide)
  k_with "my units" => (simp only [Around.deeper_units, caller_u]; decide)
  k_with "my th" => first | assumption | exact ThV.i _ _
  k_with "my after" => (intro t' h' tk' k' F' N'; (try clear k'); (try dsimp only); (try k_sweep))
  k_with "my get" => exact News.get (by assumption) (by k_mem)
  k_with "my name" => (intro Q9 h9; (k_dflt (refine' nameX_L ?zzF9 ?zzv9 ?_ ?zza9 ?zzb9; (case zzF9 => k_asm); (case zza9 => rfl); (case zzb9 => rfl); (case zzv9 => rfl))); exact h9)
  k_with "eval Name" => (k_dflt (first
      | (refine' nameY_L ?zzF ?zzv ?_ ?zza ?zzb ?zzc ?zzd; (case zzF => k_asm); (case zzv => assumption); (case zza => rfl); (case zzb => rfl); (case zzc => rfl); (case zzd => decide); k_whole)
      | (refine' nameY_C ?zzF ?zzN ?zzm ?zzd ?_ ?zzc ?zzb ?zzx ?zzn; (case zzF => k_asm); (case zzc => rfl); (case zzb => rfl); (case zzx => rfl); (case zzn => decide); (case zzN => k_asm); (case zzm => k_mem); (case zzd => assumption); k_whole)))
  k_with "EltP" => (refine' And.intro ?zze (TEnd.intro ?zzF ?zzN ?zzs); (case zzF => assumption); (case zzN => assumption); (case zzs => exact fun _ h => h); (case zze => first | assumption | exact ⟨_, rfl⟩))
  k_with "my map" => (
      refine' mapE _ _ ?zzF ?zzN ?zzX ?zzT ?zzhit ?zzh6 ?zzha ?zzhh ?zzhsz ?zzclos ?zzcell ?zzkind ?zznames ?zzx ?zzs ?_ ?_)
  k_with "exec Assign cons ListComp" => (refine Stopped.go ?_)
  k_with "my rest" => (
      (case zzF => k_asm); (case zzN => k_asm); (case zzX => assumption); (case zzT => assumption); (case zzhit => walk_at "my name"); (case zzh6 => k_mem); (case zzha => assumption); (case zzhh => rfl); (case zzhsz => (simp only [List.length_map, rowOf_length, List.length_append, List.length_take, List.length_cons, List.length_nil]; omega))
      (case zzclos => (with_unfolding_all rfl)); (case zzcell => decide); (case zzkind => rfl); (case zznames => decide); (case zzx => rfl); (case zzs => exact fun _ => rfl)
      (intro C9 I9 D9 a9 v9 h9 tk9 m9 oI9 oD9 rest9 E9 i0 i1 i2 hm9 hr9 hv9 F9 N9 X9 T9)
      rotate_left 1
      (intro D9 h9 tk9 ys9 nD9 l9 F9 N9 r9; (try k_lt l9); (try k_sweep))
      rotate_left 1)
  k_with "eval ListComp" => (k_dflt (first
      | ((with_reducible show wpAny _ _ (eval (PySem.Expr.ListComp (PySem.Expr.Call (PySem.Expr.Name (Str.ofString "_law_code") _) _ _ _) _ _ _) _) _ _ _); refine' mapE kC IntV ?zzF ?zzN ?zzX ?zzT ?zzhit ?zzh6 ?zzha ?zzhh ?zzhsz ?zzclos ?zzcell ?zzkind ?zznames ?zzx ?zzs ?_ ?_; walk_at "my rest")
      | ((with_reducible show wpAny _ _ (eval (PySem.Expr.ListComp (PySem.Expr.Call (PySem.Expr.Name (Str.ofString "_law_picture") _) _ _ _) _ _ _) _) _ _ _); refine' mapE kP StrV ?zzF ?zzN ?zzX ?zzT ?zzhit ?zzh6 ?zzha ?zzhh ?zzhsz ?zzclos ?zzcell ?zzkind ?zznames ?zzx ?zzs ?_ ?_; walk_at "my rest")))
  k_with "compareOp NotEq ref ref" => (k_dflt (first
      | (refine' ne_same (dat_rep ?zza) (dat_rep ?zzb) ?zzu ?_; (case zza => walk_at "my get"); (case zzb => walk_at "my get"); (case zzu => walk_at "my units"))
      | (refine' ne_same (dat_list (g := thD) ?zza ?zzx (fun _ _ _ x => dat_th x)) (dat_list (g := thD) ?zzb ?zzy (fun _ _ _ x => dat_th x)) ?zzu ?_; (case zza => walk_at "my get"); (case zzb => walk_at "my get"); (case zzx => assumption); (case zzy => assumption); (case zzu => walk_at "my units"))
      | (refine' ne_same (dat_list (g := PyData.int) ?zza ?zzx (fun _ _ _ x => dat_int x)) (dat_list (g := PyData.int) ?zzb ?zzy (fun _ _ _ x => dat_int x)) ?zzu ?_; (case zza => walk_at "my get"); (case zzb => walk_at "my get"); (case zzx => assumption); (case zzy => assumption); (case zzu => walk_at "my units"))
      | (refine' ne_same (dat_list (g := PyData.str) ?zza ?zzx (fun _ _ q x => dat_str x (okS_kP q))) (dat_list (g := PyData.str) ?zzb ?zzy (fun _ _ q x => dat_str x (okS_kP q))) ?zzu ?_; (case zza => walk_at "my get"); (case zzb => walk_at "my get"); (case zzx => assumption); (case zzy => assumption); (case zzu => walk_at "my units"))))
  k_with "call builtin:len" => (k_dflt (
      refine' len_rep ?zzl ?zzz ?_; (case zzl => exact News.isList (by assumption) (by k_mem)); (case zzz => (simp only [List.length_append, List.length_take, List.length_cons, List.length_nil]; omega))))
  k_with "binaryOp Mult ref int" => (k_dflt (
      refine' none_mul ?zzF ?zzN ?zzl ?zzz ?_; (case zzF => k_asm); (case zzN => k_asm); (case zzl => walk_at "my get"); (case zzz => (simp only [List.length_append, List.length_take, List.length_cons, List.length_nil]; omega)); intro D' h' F' N' l1; (try k_lt l1); (try k_sweep)))
  k_with "call ref" => (k_dflt (
      refine' rows_framed ?zzhl ?zzns ?zzz ?zzX ?zzT ?zzr ?zzh ?zzF ?zzN ?_; (case zzF => k_asm); (case zzN => k_asm); (case zzhl => exact News.isList (by assumption) (by k_mem)); (case zzns => assumption); (case zzz => (simp only [List.length_append, List.length_take, List.length_cons, List.length_nil]; omega)); (case zzX => walk_at "my X"); (case zzT => walk_at "my T"); (case zzr => walk_at "my room"); (case zzh => rfl)
      intro T9 b1 b2 b3 b4 b5 b6 v1 c1 v2 c2 v3 c3 v4 c4 c5 c6 h9 tk9 F9 N9 e0 e1 e2 e3 e4 e5 e6 r1 r2 r3 r4
      simp only [AllNe, and_true] at e0 e1 e2 e3 e4 e5 e6
      (try dsimp only); (try k_sweep)))
  k_with "call ref" => (k_dflt (
      refine' Pure.framedI (code_spec ?zzv ?zzX ?zzT ?zzr) ?zzF ?zzN ?_; (case zzF => k_asm); (case zzN => k_asm); (case zzv => walk_at "my th"); (case zzX => walk_at "my X"); (case zzT => walk_at "my T"); (case zzr => walk_at "my room"); k_whole
      walk_at "my after"))
  k_with "call ref" => (k_dflt (
      refine' Pure.framedS (picture_spec ?zzv ?zzX ?zzT ?zzr) ?zzF ?zzN ?_; (case zzF => k_asm); (case zzN => k_asm); (case zzv => walk_at "my th"); (case zzX => walk_at "my X"); (case zzT => walk_at "my T"); (case zzr => walk_at "my room"); k_whole
      walk_at "my after"))
  exact trivial
theorem News.sub {h₀ h : Heap} {L : Addr} {big small : Led} (N : News h₀ L h big) (hs : ∀ q ∈ small, q ∈ big) : News h₀ L h small := fun q hq => N q (hs q hq)
theorem sub5 {big : Led} {a b c d e : Addr × Obj} (h1 : a ∈ big) (h2 : b ∈ big) (h3 : c ∈ big) (h4 : d ∈ big) (h5 : e ∈ big) : ∀ q ∈ [a, b, c, d, e], q ∈ big := fun q hq => by
  simp only [List.mem_cons, List.not_mem_nil, or_false] at hq
  rcases hq with rfl | rfl | rfl | rfl | rfl <;> assumption
theorem lnLaw020 : True := by
  k_with "call ref" => ((with_reducible show wpAny _ _ (call (.ref 126) _ _) _ _ _); k_dflt (
      refine' agrees_spec ?zzB ?zzF ?zzXB ?zzTB ?zzCB (News.sub ?zzN (sub5 ?zzm4 ?zzm3 ?zzm2 ?zzm1 ?zzm0)) ?zzhck ?zzn1 ?zzn2 ?zzn3 ?zzn4 ?zzr1 ?zzr2 ?zzr3 ?zzr4 ?zzhl ?_
      (case zzF => k_asm); (case zzN => k_asm); (case zzB => assumption); (case zzXB => assumption); (case zzTB => assumption); (case zzCB => assumption)
      (case zzm4 => k_mem); (case zzm3 => k_mem); (case zzm2 => k_mem); (case zzm1 => k_mem); (case zzm0 => k_mem); (case zzr1 => assumption); (case zzr2 => assumption); (case zzr3 => assumption); (case zzr4 => assumption); (case zzhck => rfl); (case zzn1 => exact And.right (And.right (And.right (by assumption)))); (case zzn2 => exact And.right (And.right (And.right (by assumption)))); (case zzn3 => exact And.right (And.right (And.right (by assumption)))); (case zzn4 => exact And.right (And.right (And.right (by assumption))))
      (case zzhl => (simp only [List.length_append, List.length_take, List.length_cons, List.length_nil]; omega)); k_whole); intro h9 tk9 ps9 F9 N9; (try dsimp only); (try k_sweep))
  exact trivial
theorem foo : PySem.Challenge.rw_pk0064_01.Holds := hd (by w_strict (k_go0; (all_goals try k_fold); k_steps))
end
end Mine
theorem PySem.Challenge.cw_pk0064_01_holds : PySem.Challenge.rw_pk0064_01.Holds := by
  exact Mine.foo
