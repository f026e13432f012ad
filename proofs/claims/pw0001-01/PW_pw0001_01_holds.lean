import PyProof.Rows.All
import Wide.All
import OpenK.AllK
import Wide.FinOn
import PyProof.StrLawsReplace
import Flt.RightMore
import Flt.Calls
import Lean
import PySem.Challenge.RW_pw0001_01
set_option Elab.async false
open PySem PySem.W PyProof.Rows
set_option Elab.async false
set_option maxRecDepth 100000
set_option maxHeartbeats 8000000
namespace Mine
open_top hd for PySem.Challenge.rw_pw0001_01
end Mine
section
open PySem PySem.W PyProof.Rows PySem.Spec PySem.Calls
set_option Elab.async false
set_option maxRecDepth 100000
set_option maxHeartbeats 8000000
namespace Mine

theorem cells_nine {cm : Str → Option Value} {n₁ n₂ n₃ n₄ n₅ n₆ n₇ n₈ n₉ : Str} {c₁ c₂ c₃ c₄ c₅ c₆ c₇ c₈ c₉ : Addr} {cells : List (Addr × Obj)} (x : CellsAre cm [(n₁, c₁), (n₂, c₂), (n₃, c₃), (n₄, c₄), (n₅, c₅), (n₆, c₆), (n₇, c₇), (n₈, c₈), (n₉, c₉)] cells) :
    ∃ o₁ o₂ o₃ o₄ o₅ o₆ o₇ o₈ o₉, cells = [(c₁, o₁), (c₂, o₂), (c₃, o₃), (c₄, o₄), (c₅, o₅), (c₆, o₆), (c₇, o₇), (c₈, o₈), (c₉, o₉)] ∧ o₁.data = .cell (cm n₁) ∧ o₂.data = .cell (cm n₂) ∧ o₃.data = .cell (cm n₃) ∧ o₄.data = .cell (cm n₄) ∧ o₅.data = .cell (cm n₅) ∧ o₆.data = .cell (cm n₆) ∧ o₇.data = .cell (cm n₇) ∧ o₈.data = .cell (cm n₈) ∧ o₉.data = .cell (cm n₉) := by
  cases x with | cons h r => obtain ⟨o₂, o₃, o₄, o₅, o₆, o₇, o₈, o₉, rfl, h₂, h₃, h₄, h₅, h₆, h₇, h₈, h₉⟩ := kc_eight r; exact ⟨_, o₂, o₃, o₄, o₅, o₆, o₇, o₈, o₉, rfl, h, h₂, h₃, h₄, h₅, h₆, h₇, h₈, h₉⟩

theorem all_ne {d c : Nat} {news : List (Addr × Obj)} (h : AllLt d news) (hc : d ≤ c) : ∀ p ∈ news, p.1 ≠ c := by
  intro p hp e
  have := ktn_ltOf h p hp
  have h1 : @LT.lt Nat _ p.1 d := this
  have h2 : @Eq Nat p.1 c := e
  omega

theorem all_ne' {d c : Addr} {news : List (Addr × Obj)} (h : ∀ p ∈ news, p.1 < d) (hc : @LE.le Nat _ d c) : ∀ p ∈ news, p.1 ≠ c :=
  all_ne (allLt_of h) hc

theorem map_one {m : Str → Option Value} {a : Str} {v : Value} (h : m a = some v) : m = fun y => if y = a then some v else m y := by
  funext y
  by_cases e : y = a
  · rw [if_pos e, e, h]
  · rw [if_neg e]
theorem map_two {m : Str → Option Value} {a b : Str} {v u : Value} (h : m a = some v) (k : m b = some u) : m = fun y => if y = a then some v else if y = b then some u else m y := by
  funext y
  by_cases e : y = a
  · rw [if_pos e, e, h]
  · rw [if_neg e]
    by_cases e' : y = b
    · rw [if_pos e', e', k]
    · rw [if_neg e']

/-- what a turn of a loop over a range leaves -/
def TurnEnd (h₀ : Heap) (L : Addr) (I : Addr) (io : Obj) (J : (Str → Option Value) → List (Addr × Obj) → Prop) (s₁ : Shared) (f : Flow) (s₂ : Shared) : Prop :=
  f = .next ∧ ∃ h' tk m' news', s₂ = { s₁ with heap := h', toks := tk } ∧ Fr h₀ L h' m' ∧ News h₀ L h' ((I, io) :: news') ∧ (∀ p ∈ news', p.1 ≠ I) ∧ J m' news'

theorem TurnEnd.intro {h₀ : Heap} {L I : Addr} {io : Obj} {J : (Str → Option Value) → List (Addr × Obj) → Prop} {s₁ : Shared} {h' : Heap} {tk : Nat} {m' : Str → Option Value} {all : List (Addr × Obj)} (news' : List (Addr × Obj))
    (F : Fr h₀ L h' m') (N : News h₀ L h' all) (hI : (I, io) ∈ all) (hs : ∀ p ∈ news', p ∈ all) (hne : ∀ p ∈ news', p.1 ≠ I) (hJ : J m' news') : TurnEnd h₀ L I io J s₁ .next { s₁ with heap := h', toks := tk } :=
  ⟨rfl, h', tk, m', news', rfl, F, fun p hp => by
    rcases List.mem_cons.mp hp with rfl | hp
    · exact N _ hI
    · exact N _ (hs p hp), hne, hJ⟩

theorem range_loop {prog : Program} {w : World} {A : Around} {E : Value → Shared → Prop} {s : Shared} {env : Env} {h₀ : Heap} {x : Str} {px : Pos} {body : List Stmt} {Q : Flow → Shared → Prop}
    {r : Addr} {a₀ b₀ c : Int} {t₀ u₀ v₀ : Tok} {n : Nat} {m₀ : Str → Option Value} {news : List (Addr × Obj)} (J : Nat → (Str → Option Value) → List (Addr × Obj) → Prop)
    (hh : A.handled = none) (hr : IsRange s.heap r a₀ b₀ c t₀ u₀ v₀) (hsmall : Builtin.Range.small a₀ b₀ c = true) (hn : Builtin.Range.rangeSize a₀ b₀ c = (n : Int)) (F : Fr h₀ env.locals s.heap m₀) (N : News h₀ env.locals s.heap news)
    (hJ0 : J 0 m₀ news)
    (turn : ∀ (I : Addr) (io : Obj) i t m₁ news₁ (s₁ : Shared), i < n → J i m₁ news₁ → (∀ p ∈ news₁, p.1 ≠ I) → Fr h₀ env.locals s₁.heap m₁ → News h₀ env.locals s₁.heap ((I, io) :: news₁) →
      wpAny (model prog w) A (assign (.Name x px) env (.int (a₀ + (i : Int) * c) t)) (fun _ s₃ => wpAny (model prog w) A (execs body env)
        (TurnEnd h₀ env.locals I io (J (i + 1)) s₁) E s₃) E s₁)
    (done : ∀ m₁ news₁ h tk, J n m₁ news₁ → Fr h₀ env.locals h m₁ → News h₀ env.locals h news₁ → Q .next { s with heap := h, toks := tk }) :
    wpAny (model prog w) A (pyIter (.ref r)) (fun it s₂ => LoopAtT prog w A h₀ env (.Name x px) body Q E it s₂) E s := by
  refine wpAny_pyIter_range hr hsmall ?_
  have W : Walks prog w A s.heap.objs.size [s.heap.objs.size] [s.heap.objs.size] n (fun i v => i < n ∧ ∃ t, v = .int (a₀ + i * c) t)
      (fun i h => IsRangeIter h s.heap.objs.size (a₀ + (i : Nat) * c) ((n : Int) - (i : Nat)) c) := (Walks.range hh _ a₀ c n).bound
  have hnew := next_is_new F
  refine ⟨_, _, _, n, _, _, m₀, news, J, rfl, W, ?_, ?_, ?_, (by show IsRangeIter _ _ _ _ _; rw [hn]; simpa using Heap.get?_push_size _ rfl), F.push _, (fun p hp => ⟨Heap.get?_push_of_some _ (N p hp).1, (N p hp).2⟩), ?_, hJ0, ?_, ?_⟩
  · intro hm
    exact absurd F.ns.lt ((List.mem_singleton.mp hm) ▸ Nat.lt_irrefl _)
  · intro b hb
    rw [List.mem_singleton.mp hb]
    exact hnew
  · intro p hp hI
    exact absurd (Heap.lt_size (N p hp).1) ((List.mem_singleton.mp hI) ▸ Nat.lt_irrefl _)
  · intro i s' v Q' _ hq
    exact wpAny_pure hq
  · rintro i v m₁ news₁ s₁ own hin ⟨_, t, rfl⟩ hJ hoff hown hget hall hst F₁ N₁
    have hst' : s₁.heap.get? s.heap.objs.size = some (krsIt (a₀ + ((i + 1 : Nat) : Int) * c) ((n : Int) - ((i + 1 : Nat) : Int)) c) := hst
    have hmem := hall s.heap.objs.size (List.mem_singleton.mpr rfl) hnew _ hst'
    have hne : ∀ p ∈ news₁, p.1 ≠ s.heap.objs.size := fun p hp e => hoff p hp (List.mem_singleton.mpr e)
    have N₂ : News h₀ env.locals s₁.heap ((s.heap.objs.size, krsIt (a₀ + ((i + 1 : Nat) : Int) * c) ((n : Int) - ((i + 1 : Nat) : Int)) c) :: news₁) := fun p hp => by
      rcases List.mem_cons.mp hp with rfl | hp
      · exact N₁ _ (List.mem_append_left _ hmem)
      · exact N₁ _ (List.mem_append_right _ hp)
    refine wpAny_mono (turn _ _ i t m₁ news₁ s₁ hin hJ hne F₁ N₂) (fun _ s₃ h₃ => wpAny_mono h₃ (fun f s₄ h₄ => ?_) fun _ _ e => e) fun _ _ e => e
    obtain ⟨rfl, h', tk, m', news', e, F', N', hne', hJ'⟩ := h₄
    refine ⟨rfl, h', tk, m', news', e, F', fun p hp => ?_, fun p hp hI => hne' p hp (List.mem_singleton.mp hI), hJ'⟩
    rcases List.mem_append.mp hp with hp | hp
    · have h1 : p.1 = s.heap.objs.size := List.mem_singleton.mp (hown p hp)
      have h2 := hget p hp
      have h3 : p = (s.heap.objs.size, krsIt (a₀ + ((i + 1 : Nat) : Int) * c) ((n : Int) - ((i + 1 : Nat) : Int)) c) := by
        rw [h1, hst'] at h2
        exact Prod.ext h1 (Option.some.inj h2).symm
      rw [h3]; exact N' _ (List.mem_cons_self ..)
    · exact N' _ (List.mem_cons_of_mem _ hp)
  · rintro h' tk m' news' F' N' _ hJ
    exact done m' news' h' tk hJ F' N'
end Mine
end
section
open PySem PySem.W PyProof.Rows PySem.Spec PySem.Calls
set_option Elab.async false
set_option maxRecDepth 100000
namespace Mine
/-- ones of i to the base 2, as the walk writes them -/
def pcI (i : Nat) : Int := (List.map (fun k' : Int => ((0 + (i : Int) * 1).fdiv (2 ^ k'.toNat)).fmod 2) (rangeKs 0 (6 - 0 : Int).toNat)).sum
def xAt (ns : List Int) (i : Nat) : Int := (ns ++ [4, 0, 5]).getD ((0 + (i : Int) * 1).fmod ((ns.length + (1 + 1 + 1) : Nat) : Int)).toNat 0
def piece (ns : List Int) (i : Nat) : Str := Txt.mul (Str.ofString "-") (pcI i + 2 * (xAt ns i).fmod 3) ++ Txt.item (Str.ofString "aA") (((xAt ns i).fdiv 3 + (0 + (i : Int) * 1)).fmod 2)
def rowF (ns : List Int) : Nat → Str
  | 0 => Str.ofString ""
  | i + 1 => rowF ns i ++ piece ns i

theorem pcI_bounds (i : Nat) : 0 ≤ pcI i ∧ pcI i ≤ 6 := by
  have h : rangeKs 0 (6 - 0 : Int).toNat = [0, 1, 2, 3, 4, 5] := by decide
  unfold pcI
  rw [h]
  simp only [List.map_cons, List.map_nil, List.sum_cons, List.sum_nil]
  have f : ∀ a : Int, 0 ≤ a.fmod 2 ∧ a.fmod 2 ≤ 1 := fun a => by
    have h1 := Int.fmod_nonneg_of_pos a (b := 2) (by decide)
    have h2 := Int.fmod_lt_of_pos a (b := 2) (by decide)
    omega
  have f0 := f ((0 + (i : Int) * 1).fdiv (2 ^ (0 : Int).toNat))
  have f1 := f ((0 + (i : Int) * 1).fdiv (2 ^ (1 : Int).toNat))
  have f2 := f ((0 + (i : Int) * 1).fdiv (2 ^ (2 : Int).toNat))
  have f3 := f ((0 + (i : Int) * 1).fdiv (2 ^ (3 : Int).toNat))
  have f4 := f ((0 + (i : Int) * 1).fdiv (2 ^ (4 : Int).toNat))
  have f5 := f ((0 + (i : Int) * 1).fdiv (2 ^ (5 : Int).toNat))
  omega
theorem hyph_bounds (i : Nat) (x : Int) : 0 ≤ pcI i + 2 * x.fmod 3 ∧ pcI i + 2 * x.fmod 3 ≤ 10 := by
  have h := pcI_bounds i
  have h1 := Int.fmod_nonneg_of_pos x (b := 3) (by decide)
  have h2 := Int.fmod_lt_of_pos x (b := 3) (by decide)
  omega
theorem hyph_len {n : Int} (h0 : 0 ≤ n) (h1 : n ≤ 10) : (Txt.mul (Str.ofString "-") n).length ≤ 10 := by
  have h := len_mul (Str.ofString "-") n
  rw [show ((Str.ofString "-").length : Int) = 1 from by decide] at h
  split at h <;> omega
theorem item_len (x : Str) (i : Int) : (Txt.item x i).length = 1 := by
  unfold Txt.item
  rfl
theorem rowF_len (ns : List Int) (i : Nat) : (rowF ns i).length ≤ 11 * i := by
  induction i with
  | zero => exact Nat.le_of_eq (show (Str.ofString "").length = 0 from by decide)
  | succ i ih =>
    have hb := hyph_bounds i (xAt ns i)
    have h1 := hyph_len hb.1 hb.2
    have h2 := item_len (Str.ofString "aA") (((xAt ns i).fdiv 3 + (0 + (i : Int) * 1)).fmod 2)
    show (rowF ns i ++ piece ns i).length ≤ _
    rw [Str.length_append]
    unfold piece
    rw [Str.length_append]
    omega
end Mine
end
section
open PySem PySem.W PyProof.Rows PySem.Spec PySem.Calls
set_option Elab.async false
set_option maxRecDepth 100000
set_option maxHeartbeats 8000000
namespace Mine
local macro_rules | `(tactic| k_cells $Y:ident) => `(tactic| (have hY := cells_nine $Y; obtain ⟨o', o2', o3', o4', o5', o6', o7', o8', o9', hE', d1', d2', d3', d4', d5', d6', d7', d8', d9'⟩ := hY; subst hE'; clear $Y))
local macro_rules | `(tactic| k_all) => `(tactic| first | exact all_ne' (by assumption) (by omega) | exact all_ne (by assumption) (by omega))
local macro_rules | `(tactic| walk_at "exec For Name Call cons nil") => `(tactic| (k_here; (rename Fr _ _ _ _ => lF'); (with_unfolding_all refine' For_invTF lF' ?_ ?hs; (case hs => exact fun _ => rfl); k_whole)))
local macro_rules | `(tactic| walk_at "st") => `(tactic| (first | (k_unfold; (try dsimp only)) | (k_end; wrow_close) | walk1 | (dsimp only; walk1) | (leave1; walk_say "STEP leave1"; try dsimp only)))
local macro_rules | `(tactic| walk_at "mine enterC") => `(tactic| (refine' code_defC ?k1 ?k2 ?k3 ?k4 ?k5 ?kA ?kF ?kK ?k6 ?k7 ?k8 ?k9 ?kB ?kD ?_ ?c2 ?c3 ?c4; (case kA => exact rfl); (case kF => exact rfl); (case kK => first | assumption | exact rfl); (case k1 => k_asm); (case k2 => k_asm); (case k3 => k_asm); (case k4 => k_asm); (case k5 => k_asm); (case k6 => k_is); (case k7 => k_is); (case k8 => ktr_room); (case k9 => exact BindsTo.of_eq rfl); (case kB => exact rfl); (case kD => decide +kernel); (case c2 => exact rfl); (case c3 => exact rfl); (case c4 => exact rfl); k_whole; intro g' L' h' tk' cells' FG' F' N' Y' B' X' T' l1; (try k_lt l1); k_cells Y'; (try simp only [List.cons_append, List.nil_append] at N'); (try dsimp only); (try k_lift B'); (try k_fold)))
theorem row_tells {w : World} {p : Program} {loose : List Str} {mean : ExcName → Option Value} {mg mb : Str → Option Value}
  {dp un : Nat} {gd : Option (List Code)} {cn : Str} {cs : Scope} {a : Addr} {ccd : Value} {cl : List (Str × Addr)} {outer : List Env} {A₀ : Around} {base h₀ : Heap} {L : Addr} {m : Str → Option Value} {s : Shared} {Q E : Value → Shared → Prop}
  {news rest : List (Addr × Obj)} {d : Addr} {vs : List Value} {ns : List Int} {count : Int} {t1 : Tok} {cn0 : Nat} (hi : IntsAre vs ns) (hlen : ns.length ≤ 12) (hc0 : 0 ≤ count) (hc1 : count ≤ 60) (hnews : news = (d, listOf vs.toArray cn0) :: rest)
  (B : Below A₀ base outer h₀) (F : Fr h₀ L s.heap m) (X : (hd.heap_39 w.params).In h₀) (N : News h₀ L s.heap news) (T : Top p loose mean mg mb h₀) (hk : cs.kind = .function) 
  (hdp : dp + 3 < recursionLimit) (hu : un + 40 < cLine) 
  (hret : ∀ (r : Tok) (h' : Heap) (tk' : Nat), Fr h₀ L h' m → News h₀ L h' news → Q (.str (rowF ns count.toNat) r) { s with heap := h', toks := tk' }) :
      wpAny (model Challenge.rw_pw0001_01.row.prog w) (ktrTop dp un gd cn cs L a ccd cl outer) (call (.ref 58) [.ref d, .int count t1]) Q E s := by
  (try subst hnews)
  revert X
  k_fill
  intro X
  refine wpAny_call ?_
  refine' code_defC ?k1 ?k2 ?k3 ?k4 ?k5 ?kA ?kF ?kK ?k6 ?k7 ?k8 ?k9 ?kB ?kD ?_ ?c2 ?c3 ?c4; (case kA => exact rfl); (case kF => exact rfl); (case kK => first | assumption | exact rfl); (case k1 => k_asm); (case k2 => k_asm); (case k3 => k_asm); (case k4 => k_asm); (case k5 => k_asm); (case k6 => k_dflt k_is); (case k7 => k_dflt k_is); (case k8 => ktr_room); (case k9 => exact BindsTo.of_eq rfl); (case kB => exact rfl); (case kD => decide +kernel); (case c2 => exact rfl); (case c3 => exact rfl); (case c4 => exact rfl); k_whole; intro g' L' h' tk' cells' FG' F' N' Y' B' X' T' l1; (try k_lt l1); k_cells Y'; (try simp only [List.cons_append, List.nil_append] at N'); (try dsimp only); (try k_lift B'); (try k_fold)
  k_steps
  (rename IsRange _ _ _ _ _ _ _ _ => hr)
  refine' range_loop (n := count.toNat) (fun i m news₁ => ∃ D ws tr oc ov, m (Str.ofString "spare") = some (.ref D) ∧ m (Str.ofString "row") = some (.str (rowF ns i) tr) ∧ news₁ = (D, listOf ws.toArray 0) :: (L' + 1, oc) :: (d, listOf vs.toArray cn0) :: rest ∧ IntsAre ws (ns ++ [4, 0, 5]) ∧ oc.data = .cell ov ∧ @LT.lt Nat _ (L' + 1) D) ?hh hr ?hsmall ?hn ?F (cb_drop ?N ?NS) ?hJ0 ?turn ?done
  case hh => rfl
  case hsmall => exact small_one (by omega) (by omega) (by omega) (by omega)
  case hn => rw [rangeSize_nat, Int.sub_zero]
  case F => assumption
  case N => assumption
  case hJ0 =>
    refine' ⟨_, _, _, _, _, rfl, ?a1, rfl, ?a2, ?a3, ?a4⟩
    case a1 => rfl
    case a2 => l_ints
    case a3 => assumption
    case a4 => omega
  case NS => kcj_all
  case done =>
    rintro m₁ news₁ h tk ⟨D, ws, tr, oc, ov, hsp, hrow, rfl, hws, hoc, hD⟩ F₁ N₁
    rw [map_two hsp hrow] at F₁
    k_steps
    exact hret _ _ _ (by assumption) (cb_drop (by assumption) (by kcj_all))
  case turn =>
    rintro I io i t m₁ news₁ s₁ hi ⟨D, ws, tr, oc, ov, hsp, hrow, rfl, hws, hoc, hD⟩ hne F₁ N₁
    rw [map_two hsp hrow] at F₁
    have hI1 : @Ne Nat D I := hne _ (.head _)
    have hI2 : @Ne Nat (L' + 1) I := hne _ (.tail _ (.head _))
    have hI3 : @Ne Nat d I := hne _ (.tail _ (.tail _ (.head _)))
    k_steps
    refine SB.mul (mulOk_of 16 1048576 (by decide) ?ml1 ?ml2 (by decide) (by decide)) ?_
    case ml1 => have hb9 := hyph_bounds i (xAt ns i); unfold pcI xAt at hb9; omega
    case ml2 => have hb9 := hyph_bounds i (xAt ns i); unfold pcI xAt at hb9; omega
    intro t9 k9
    change wpAny _ _ _ _ _ _
    iterate 12 (walk_at "st")
    refine item_str_fmod (by decide) (by decide) (by decide) ?_
    intro hl9
    have hb9 := hyph_bounds i (xAt ns i)
    have hl8 := hyph_len hb9.1 hb9.2
    have hl7 := rowF_len ns i
    refine add_str ?_ ?hsz
    case hsz =>
      rw [sizeLine_eq]
      have hl8' : (Txt.mul (Str.ofString "-") (pcI i + 2 * (xAt ns i).fmod 3)).length ≤ 10 := hl8
      unfold pcI xAt at hl8'
      omega
    intro t8 k8
    change wpAny _ _ (inplaceOp Operator.Add (Value.str (rowF ns i) tr) (Value.str (piece ns i) t8)) _ _ _
    refine iadd_str ?_ ?hsz
    case hsz =>
      have := rowF_len ns (i + 1)
      rw [show rowF ns (i + 1) = rowF ns i ++ piece ns i from rfl, Str.length_append] at this
      rw [sizeLine_eq]
      omega
    intro t7 k7
    dsimp only
    change wpAny _ _ (storeName _ _ (Value.str (rowF ns (i + 1)) t7)) _ _ _
    k_steps
    refine' TurnEnd.intro _ ?f ?n ?hI ?hs ?hne ?hJ
    case f => assumption
    case n => assumption
    case hJ =>
      refine' ⟨D, ws, _, _, _, rfl, rfl, rfl, ?yy, ?xx, hD⟩
      case yy => assumption
      case xx => assumption
    case hI => k_mem
    case hs => kcj_all
    case hne =>
      intro p hp
      rcases List.mem_cons.mp hp with rfl | hp
      · exact hI1
      · rcases List.mem_cons.mp hp with rfl | hp
        · exact hI2
        · exact hne p (.tail _ (.tail _ hp))

end Mine
end
section
open PySem PySem.W PyProof.Rows PySem.Spec PySem.Calls PySem.Flt
set_option Elab.async false
set_option maxRecDepth 100000
set_option linter.unusedSimpArgs false
namespace Mine
def max3F (x y z : UInt64) : UInt64 := if (Float64.cmp (if (Float64.cmp x y == some .lt) = true then y else x) z == some .lt) = true then z else (if (Float64.cmp x y == some .lt) = true then y else x)
def min3F (x y z : UInt64) : UInt64 := if (Float64.cmp z (if (Float64.cmp y x == some .lt) = true then y else x) == some .lt) = true then z else (if (Float64.cmp y x == some .lt) = true then y else x)

theorem max_three_num {prog : Program} {w : World} {A : Around} {E : Value → Shared → Prop} {s : Shared} {Q : Value → Shared → Prop} {a b c : Value} (hh : A.handled = none) (ha : NumV a) (hb : NumV b) (hc : NumV c)
    (h : ∀ h' tk, (∀ d o, s.heap.get? d = some o → h'.get? d = some o) → Q (if ltV (if ltV a b then b else a) c then c else (if ltV a b then b else a)) { s with heap := h', toks := tk }) :
    wpAny (model prog w) A (call (.builtin "max") [a, b, c]) Q E s := by
  have hT : (s.heap.push { cls := .type "tuple", data := .seq #[a, b, c] }).IsTuple s.heap.objs.size #[a, b, c] := ⟨_, Heap.get?_push_size _ rfl, rfl, 0, rfl⟩
  refine call_max_three (wpAny_pyIter_tuple hT ?_)
  have hsz : (s.heap.push { cls := .type "tuple", data := .seq #[a, b, c] }).objs.size = s.heap.objs.size + 1 := Heap.size_push ..
  refine ⟨_, [_, s.heap.objs.size], [_], _, _, _, _, rfl, Walks.tuple (A := A.in1) hh _ s.heap.objs.size (by rw [hsz]; exact Nat.ne_of_lt (Nat.lt_succ_self _)) #[a, b, c],
    ⟨⟨_, Heap.get?_push_size _ rfl, rfl, rfl⟩, hT.push _⟩, fun d hd => ?_, by simp, cmpOf_gt #[a, b, c] (by simp [ha, hb, hc]), fun v h' tk hP hk => ?_⟩
  · show d < ((s.heap.push _).push _).objs.size
    rw [Heap.size_push, hsz]
    rcases List.mem_cons.mp hd with rfl | hd
    · rw [hsz]; exact Nat.lt_succ_self _
    · rw [List.mem_singleton.mp hd]; exact Nat.lt_succ_of_lt (Nat.lt_succ_self _)
  · have hold : ∀ d o, s.heap.get? d = some o → h'.get? d = some o := fun d o e => by
      refine hk d o (fun hm => ?_) (Heap.get?_push_of_some _ (Heap.get?_push_of_some _ e))
      have e1 := List.mem_singleton.mp hm
      have := Heap.lt_size e
      rw [e1, hsz] at this
      exact Nat.lt_irrefl _ (Nat.lt_of_succ_lt this)
    have := h h' tk hold
    have hv : v = if ltV (if ltV a b then b else a) c then c else (if ltV a b then b else a) := by
      cases h1 : ltV a b
      · cases h2 : ltV a c <;> simp [argBest, h1, h2] at hP <;> subst hP <;> simp [h1, h2]
      · cases h2 : ltV b c <;> simp [argBest, h1, h2] at hP <;> subst hP <;> simp [h1, h2]
    rw [hv]; exact this
theorem min_three_num {prog : Program} {w : World} {A : Around} {E : Value → Shared → Prop} {s : Shared} {Q : Value → Shared → Prop} {a b c : Value} (hh : A.handled = none) (ha : NumV a) (hb : NumV b) (hc : NumV c)
    (h : ∀ h' tk, (∀ d o, s.heap.get? d = some o → h'.get? d = some o) → Q (if ltV c (if ltV b a then b else a) then c else (if ltV b a then b else a)) { s with heap := h', toks := tk }) :
    wpAny (model prog w) A (call (.builtin "min") [a, b, c]) Q E s := by
  have hT : (s.heap.push { cls := .type "tuple", data := .seq #[a, b, c] }).IsTuple s.heap.objs.size #[a, b, c] := ⟨_, Heap.get?_push_size _ rfl, rfl, 0, rfl⟩
  refine call_min_three (wpAny_pyIter_tuple hT ?_)
  have hsz : (s.heap.push { cls := .type "tuple", data := .seq #[a, b, c] }).objs.size = s.heap.objs.size + 1 := Heap.size_push ..
  refine ⟨_, [_, s.heap.objs.size], [_], _, _, _, _, rfl, Walks.tuple (A := A.in1) hh _ s.heap.objs.size (by rw [hsz]; exact Nat.ne_of_lt (Nat.lt_succ_self _)) #[a, b, c],
    ⟨⟨_, Heap.get?_push_size _ rfl, rfl, rfl⟩, hT.push _⟩, fun d hd => ?_, by simp, cmpOf_lt #[a, b, c] (by simp [ha, hb, hc]), fun v h' tk hP hk => ?_⟩
  · show d < ((s.heap.push _).push _).objs.size
    rw [Heap.size_push, hsz]
    rcases List.mem_cons.mp hd with rfl | hd
    · rw [hsz]; exact Nat.lt_succ_self _
    · rw [List.mem_singleton.mp hd]; exact Nat.lt_succ_of_lt (Nat.lt_succ_self _)
  · have hold : ∀ d o, s.heap.get? d = some o → h'.get? d = some o := fun d o e => by
      refine hk d o (fun hm => ?_) (Heap.get?_push_of_some _ (Heap.get?_push_of_some _ e))
      have e1 := List.mem_singleton.mp hm
      have := Heap.lt_size e
      rw [e1, hsz] at this
      exact Nat.lt_irrefl _ (Nat.lt_of_succ_lt this)
    have := h h' tk hold
    have hv : v = if ltV c (if ltV b a then b else a) then c else (if ltV b a then b else a) := by
      cases h1 : ltV b a
      · cases h2 : ltV c a <;> simp [argBest, h1, h2] at hP <;> subst hP <;> simp [h1, h2]
      · cases h2 : ltV c b <;> simp [argBest, h1, h2] at hP <;> subst hP <;> simp [h1, h2]
    rw [hv]; exact this
theorem max_three_ff {prog : Program} {w : World} {A : Around} {E : Value → Shared → Prop} {s : Shared} {Q : Value → Shared → Prop} {x y z : UInt64} {t u v : Tok} {h₀ : Heap} {L : Addr} {m : Str → Option Value} {news : List (Addr × Obj)}
    (hh : A.handled = none) (F : Fr h₀ L s.heap m) (N : News h₀ L s.heap news)
    (h : ∀ h' tk v', (v' = t ∨ v' = u ∨ v' = v) → Fr h₀ L h' m → News h₀ L h' news → Q (.float (max3F x y z) v') { s with heap := h', toks := tk }) :
    wpAny (model prog w) A (call (.builtin "max") [.float x t, .float y u, .float z v]) Q E s := by
  refine max_three_num hh (.float x t) (.float y u) (.float z v) fun h' tk kp => ?_
  have F' := F.grownK kp
  have N' := N.grown kp
  have k := fun tv htv => h h' tk tv htv F' N'
  unfold max3F at k
  cases c1 : (Float64.cmp x y == some .lt)
  · have e1 : ltV (.float x t) (.float y u) = false := c1
    simp only [e1, Bool.false_eq_true, if_false]
    simp only [c1, Bool.false_eq_true, if_false] at k
    cases c2 : (Float64.cmp x z == some .lt)
    · have e2 : ltV (.float x t) (.float z v) = false := c2
      simp only [e2, Bool.false_eq_true, if_false]; simp only [c2, Bool.false_eq_true, if_false] at k; exact k t (.inl rfl)
    · have e2 : ltV (.float x t) (.float z v) = true := c2
      simp only [e2, if_true]; simp only [c2, if_true] at k; exact k v (.inr (.inr rfl))
  · have e1 : ltV (.float x t) (.float y u) = true := c1
    simp only [e1, if_true]
    simp only [c1, if_true] at k
    cases c2 : (Float64.cmp y z == some .lt)
    · have e2 : ltV (.float y u) (.float z v) = false := c2
      simp only [e2, Bool.false_eq_true, if_false]; simp only [c2, Bool.false_eq_true, if_false] at k; exact k u (.inr (.inl rfl))
    · have e2 : ltV (.float y u) (.float z v) = true := c2
      simp only [e2, if_true]; simp only [c2, if_true] at k; exact k v (.inr (.inr rfl))
theorem min_three_ff {prog : Program} {w : World} {A : Around} {E : Value → Shared → Prop} {s : Shared} {Q : Value → Shared → Prop} {x y z : UInt64} {t u v : Tok} {h₀ : Heap} {L : Addr} {m : Str → Option Value} {news : List (Addr × Obj)}
    (hh : A.handled = none) (F : Fr h₀ L s.heap m) (N : News h₀ L s.heap news)
    (h : ∀ h' tk v, Fr h₀ L h' m → News h₀ L h' news → Q (.float (min3F x y z) v) { s with heap := h', toks := tk }) :
    wpAny (model prog w) A (call (.builtin "min") [.float x t, .float y u, .float z v]) Q E s := by
  refine min_three_num hh (.float x t) (.float y u) (.float z v) fun h' tk kp => ?_
  have F' := F.grownK kp
  have N' := N.grown kp
  have k := fun tv => h h' tk tv F' N'
  unfold min3F at k
  cases c1 : (Float64.cmp y x == some .lt)
  · have e1 : ltV (.float y u) (.float x t) = false := c1
    simp only [e1, Bool.false_eq_true, if_false]
    simp only [c1, Bool.false_eq_true, if_false] at k
    cases c2 : (Float64.cmp z x == some .lt)
    · have e2 : ltV (.float z v) (.float x t) = false := c2
      simp only [e2, Bool.false_eq_true, if_false]; simp only [c2, Bool.false_eq_true, if_false] at k; exact k t
    · have e2 : ltV (.float z v) (.float x t) = true := c2
      simp only [e2, if_true]; simp only [c2, if_true] at k; exact k v
  · have e1 : ltV (.float y u) (.float x t) = true := c1
    simp only [e1, if_true]
    simp only [c1, if_true] at k
    cases c2 : (Float64.cmp z y == some .lt)
    · have e2 : ltV (.float z v) (.float y u) = false := c2
      simp only [e2, Bool.false_eq_true, if_false]; simp only [c2, Bool.false_eq_true, if_false] at k; exact k u
    · have e2 : ltV (.float z v) (.float y u) = true := c2
      simp only [e2, if_true]; simp only [c2, if_true] at k; exact k v
def rgbRange (x y z : UInt64) : UInt64 := Float64.sub (max3F x y z) (min3F x y z)
def rgbC (x y z c : UInt64) : UInt64 := Float64.div (Float64.sub (max3F x y z) c) (rgbRange x y z)
def rgbHue (x y z : UInt64) : UInt64 :=
  if (Float64.cmp x (max3F x y z) == some .eq) = true then Float64.sub (rgbC x y z z) (rgbC x y z y)
  else if (Float64.cmp y (max3F x y z) == some .eq) = true then Float64.sub (Float64.add 4611686018427387904 (rgbC x y z x)) (rgbC x y z z)
  else Float64.sub (Float64.add 4616189618054758400 (rgbC x y z y)) (rgbC x y z x)
def rgbH (x y z : UInt64) : UInt64 := (Float64.divmod (Float64.div (rgbHue x y z) 4618441417868443648) 4607182418800017408).2
def rgbS (x y z : UInt64) : UInt64 := Float64.div (rgbRange x y z) (max3F x y z)
theorem not_fin_nan {x : UInt64} (h : Float64.isNaN x = true) : ¬ Float64.isFinite x = true := by
  unfold Float64.isNaN at h; unfold Float64.isFinite
  split at h <;> simp_all
theorem not_fin_inf {x : UInt64} (h : Float64.isInf x = true) : ¬ Float64.isFinite x = true := by
  unfold Float64.isInf at h; unfold Float64.isFinite
  split at h <;> simp_all
theorem big_line : (1000000 : Nat) < 2 ^ 1024 - 2 ^ 970 := by decide +kernel
theorem mul_if_ok {prog : Program} {w : World} {A : Around} {E : Value → Shared → Prop} {s : Shared} {Q : Value → Shared → Prop} {n : Int} {a : UInt64} {t u : Tok} (hh : A.handled = none) (hn : n.natAbs ≤ 1000000)
    (h : Q (.float (Float64.mul (Float64.ofInt n) a) s.toks) { s with toks := s.toks + 1 }) : wpAny (model prog w) A (binaryOp .Mult (.int n u) (.float a t)) Q E s :=
  mul_if_sharp hh (fun hb => absurd (Nat.le_trans hb hn) (Nat.not_le.mpr big_line)) fun _ => h
theorem int_ok {prog : Program} {w : World} {A : Around} {E : Value → Shared → Prop} {s : Shared} {Q : Value → Shared → Prop} {x : UInt64} {t : Tok} (hh : A.handled = none) (hf : Float64.isFinite x = true)
    (h : Q (.int (Flt.toInt Float64.truncOf x) s.toks) { s with toks := s.toks + 1 }) : wpAny (model prog w) A (call (.type "int") [.float x t]) Q E s :=
  call_int_float3 hh (fun c => absurd hf (not_fin_nan c)) (fun c => absurd hf (not_fin_inf c)) fun _ => h
/-- the greatest and the least of three ints -/
@[irreducible] def mx3 (r g b : Int) : Int := max r (max g b)
@[irreducible] def mn3 (r g b : Int) : Int := min r (min g b)
theorem mx3_def (r g b : Int) : mx3 r g b = max r (max g b) := by unfold mx3; rfl
theorem mn3_def (r g b : Int) : mn3 r g b = min r (min g b) := by unfold mn3; rfl
theorem ints3 (r g b : Int) (tr tg tb : Tok) : IntsAre [.int r tr, .int g tg, .int b tb] [r, g, b] := .cons _ _ (.cons _ _ (.cons _ _ .nil))
theorem max_list3 {prog : Program} {w : World} {A : Around} {E : Value → Shared → Prop} {s : Shared} {Q : Value → Shared → Prop} {h₀ : Heap} {L d : Addr} {m : Str → Option Value} {news : List (Addr × Obj)} {r g b : Int} {tr tg tb : Tok} {c : Nat}
    (F : Fr h₀ L s.heap m) (N : News h₀ L s.heap news) (hm : (d, listOf #[.int r tr, .int g tg, .int b tb] c) ∈ news) (hh : A.handled = none)
    (h : ∀ h' t tk, Fr h₀ L h' m → News h₀ L h' news → Q (.int (mx3 r g b) t) { s with heap := h', toks := tk }) : wpAny (model prog w) A (call (.builtin "max") [.ref d]) Q E s := by
  have hl : s.heap.IsList d [Value.int r tr, .int g tg, .int b tb].toArray := ⟨_, (N _ hm).1, rfl, c, rfl⟩
  refine kso_max F N hl (ints3 r g b tr tg tb) (Nat.succ_pos _) hh fun h' M t tk F' N' hM hle => ?_
  have e : M = mx3 r g b := by
    have h1 := hle r (by simp)
    have h2 := hle g (by simp)
    have h3 := hle b (by simp)
    simp only [List.mem_cons, List.not_mem_nil, or_false] at hM
    rw [mx3_def]
    omega
  subst e
  exact h h' t tk F' N'
theorem min_list3 {prog : Program} {w : World} {A : Around} {E : Value → Shared → Prop} {s : Shared} {Q : Value → Shared → Prop} {h₀ : Heap} {L d : Addr} {m : Str → Option Value} {news : List (Addr × Obj)} {r g b : Int} {tr tg tb : Tok} {c : Nat}
    (F : Fr h₀ L s.heap m) (N : News h₀ L s.heap news) (hm : (d, listOf #[.int r tr, .int g tg, .int b tb] c) ∈ news) (hh : A.handled = none)
    (h : ∀ h' t tk, Fr h₀ L h' m → News h₀ L h' news → Q (.int (mn3 r g b) t) { s with heap := h', toks := tk }) : wpAny (model prog w) A (call (.builtin "min") [.ref d]) Q E s := by
  have hl : s.heap.IsList d [Value.int r tr, .int g tg, .int b tb].toArray := ⟨_, (N _ hm).1, rfl, c, rfl⟩
  refine kso_min F N hl (ints3 r g b tr tg tb) (Nat.succ_pos _) hh fun h' M t tk F' N' hM hle => ?_
  have e : M = mn3 r g b := by
    have h1 := hle r (by simp)
    have h2 := hle g (by simp)
    have h3 := hle b (by simp)
    simp only [List.mem_cons, List.not_mem_nil, or_false] at hM
    rw [mn3_def]
    omega
  subst e
  exact h h' t tk F' N'
/-- hsv_to_rgb's parts -/
def hsvI (h : UInt64) : Int := Flt.toInt Float64.truncOf (Float64.mul h 4618441417868443648)
def hsvF (h : UInt64) : UInt64 := Float64.sub (Float64.mul h 4618441417868443648) (Float64.ofInt (hsvI h))
def hsvP (s v : UInt64) : UInt64 := Float64.mul v (Float64.sub 4607182418800017408 s)
def hsvQ (h s v : UInt64) : UInt64 := Float64.mul v (Float64.sub 4607182418800017408 (Float64.mul s (hsvF h)))
def hsvT (h s v : UInt64) : UInt64 := Float64.mul v (Float64.sub 4607182418800017408 (Float64.mul s (Float64.sub 4607182418800017408 (hsvF h))))
def hsvR (h s v : UInt64) (c : Nat) : UInt64 :=
  if (hsvI h).fmod 6 = 0 then [v, hsvT h s v, hsvP s v].getD c 0
  else if (hsvI h).fmod 6 = 1 then [hsvQ h s v, v, hsvP s v].getD c 0
  else if (hsvI h).fmod 6 = 2 then [hsvP s v, v, hsvT h s v].getD c 0
  else if (hsvI h).fmod 6 = 3 then [hsvP s v, hsvQ h s v, v].getD c 0
  else if (hsvI h).fmod 6 = 4 then [hsvT h s v, hsvP s v, v].getD c 0
  else [v, hsvP s v, hsvQ h s v].getD c 0
def tup3 (a b c : UInt64) (t u v : Tok) : Obj := { cls := .type "tuple", data := .seq #[.float a t, .float b u, .float c v] }
end Mine
end
section
open PySem PySem.W PyProof.Rows PySem.Spec PySem.Calls PySem.Flt PySem.SeqAt
set_option Elab.async false
set_option maxRecDepth 100000
set_option linter.unusedSimpArgs false
namespace Mine
theorem booked_of {w : World} {h : Heap} (X : (hd.heap_39 w.params).In h) : NoneBooked h := by
  have e : (hd.heap_39 w.params).lookup 2 = some { cls := Value.none, data := .dict #[] } := rfl
  refine ⟨fun _ => none, ⟨_, _, _, X _ _ e, rfl, ?_, ?_⟩, rfl⟩
  · intro e he; simp at he
  · intro x; rfl
theorem isSame_float {M : Model} {A : Around} {E : Value → Shared → Prop} {s : Shared} {x y : UInt64} {t u : Tok} {Q : Bool → Shared → Prop}
    (h0 : (t == 0 || u == 0) = false) (hb : NoneBooked s.heap) (hq : ∀ b, Q b s) : wpAny M A (isSame (.float x t) (.float y u)) Q E s := by
  show wpAny M A (isSame.created (x == y && !Float64.isNaN x) t u) Q E s
  unfold isSame.created
  refine wpAny_ite ?_
  split
  · rename_i h; rw [h0] at h; exact absurd h Bool.false_ne_true
  refine wpAny_ite ?_
  split
  · exact wpAny_pure (hq _)
  refine wpAny_ite ?_
  split
  · exact wpAny_pure (hq _)
  refine wpAny_bind (wpAny_sharingNotTold_none hb ?_)
  simp only [Bool.false_eq_true, if_false]
  refine wpAny_bind (wpAny_sharingNotTold_none hb ?_)
  simp only [Bool.false_eq_true, if_false]
  exact wpAny_bind (wpAny_rule (wpAny_bind (wpAny_askSetting (wpAny_pure (hq _)))))
theorem EqAt_float {A : Around} {s : Shared} {x y : UInt64} {t u : Tok} (h0 : (t == 0 || u == 0) = false) (hb : NoneBooked s.heap) (hc : Float64.cmp x y = some .eq) : EqAt A s (.float x t) (.float y u) true := fun prog w E Q h => by
  unfold eqBool
  refine wpAny_holding ?_
  refine wpAny_ite_split (fun _ => ?_) (fun _ => ?_)
  · exact wpAny_bind (wpAny_rule (wpAny_pure h))
  · have hr : wpAny (model prog w) A (truthOfDropped (Value.bool true)) Q E s := wpAny_truthy_bool h
    have hcmp : wpAny (model prog w) A (richCompare .Eq (.float x t) (.float y u)) (fun v s' => wpAny (model prog w) A (truthOfDropped v) Q E s') E s := by
      refine AutoFloatOps.eq_0 ?_
      rw [hc]
      exact hr
    refine wpAny_bind (isSame_float h0 hb fun b => ?_)
    cases b
    · exact wpAny_bind hcmp
    · exact wpAny_pure h
theorem tok_ok {t x y z u : Nat} (h : @Eq Nat t (x + 1) ∨ @Eq Nat t (y + 1) ∨ @Eq Nat t (z + 1)) : (@BEq.beq Tok _ t 0 || @BEq.beq Tok _ (u + 1) 0) = false := by
  have h1 : t ≠ 0 := by omega
  simp only [Bool.or_eq_false_iff, beq_eq_false_iff_ne]
  exact ⟨h1, Nat.succ_ne_zero u⟩
theorem eq_list3 {prog : Program} {w : World} {A : Around} {E : Value → Shared → Prop} {s : Shared} {Q : Value → Shared → Prop} {h₀ : Heap} {L a b : Addr} {news : List (Addr × Obj)} {i1 i2 j1 j2 : Int} {x y : UInt64} {t1 t2 t3 u1 u2 u3 : Tok} {c c' : Nat}
    (N : News h₀ L s.heap news) (ha : (a, listOf #[.int i1 t1, .int i2 t2, .float x t3] c) ∈ news) (hb : (b, listOf #[.int j1 u1, .int j2 u2, .float y u3] c') ∈ news) (hu : A.units < cLine)
    (hbk : NoneBooked s.heap) (h0 : (t3 == 0 || u3 == 0) = false) (hc : Float64.cmp x y = some .eq)
    (h : Q (.bool (decide (i1 = j1) && decide (i2 = j2))) s) : wpAny (model prog w) A (compareOp .Eq (.ref a) (.ref b)) Q E s := by
  refine cmp_ofEq ?_
  have hl : s.heap.IsList a #[.int i1 t1, .int i2 t2, .float x t3] := ⟨_, (N _ ha).1, rfl, c, rfl⟩
  have hl' : s.heap.IsList b #[.int j1 u1, .int j2 u2, .float y u3] := ⟨_, (N _ hb).1, rfl, c', rfl⟩
  have k := RcAt.lists (A := A) (e := fun j => [decide (i1 = j1), decide (i2 = j2), true].getD j true) hl hl' rfl hu (fun j h1 h2 => by
    have h1' : j < 3 := h1
    match j, h1' with
    | 0, _ =>
      have e : decide (i1 = j1) = (i1 == j1) := rfl
      show EqAt _ _ (.int i1 t1) (.int j1 u1) (decide (i1 = j1))
      rw [e]; exact EqAt.int_int _ _ _ _
    | 1, _ =>
      have e : decide (i2 = j2) = (i2 == j2) := rfl
      show EqAt _ _ (.int i2 t2) (.int j2 u2) (decide (i2 = j2))
      rw [e]; exact EqAt.int_int _ _ _ _
    | 2, _ => exact EqAt_float h0 hbk hc)
  refine k prog w E Q ?_
  have e : (List.range 3).all (fun j => [decide (i1 = j1), decide (i2 = j2), true].getD j true) = (decide (i1 = j1) && decide (i2 = j2)) := by
    rw [show List.range 3 = [0, 1, 2] from rfl]
    simp
  show Q (.bool ((List.range 3).all _)) s
  rw [e]
  exact h
theorem ret_true {h₀ h' : Heap} {L : Addr} {m : Str → Option Value} {news news' : List (Addr × Obj)} {s : Shared} {Q : Value → Shared → Prop} {tk' : Nat} {y : Bool}
    (hret : ∀ (h' : Heap) (tk' : Nat), Fr h₀ L h' m → News h₀ L h' news → Q (.bool true) { s with heap := h', toks := tk' }) (e : y = true) (F : Fr h₀ L h' m) (N : News h₀ L h' news') (hs : ∀ p ∈ news, p ∈ news') : Q (.bool y) { s with heap := h', toks := tk' } := by
  subst e
  exact hret h' tk' F fun p hp => N p (hs p hp)
def qF (r w : Int) : UInt64 := Float64.ofFrac (decide (r < 0) != decide (w < 0)) r.natAbs w.natAbs
def ringI (r g b : Int) : Int := 6 * (mx3 r g b - mn3 r g b)
def walkI (r g b : Int) : Int :=
  if r < mx3 r g b then (if g = mx3 r g b then (6 * (mx3 r g b - mn3 r g b)).fdiv 3 + b - r else (2 * (6 * (mx3 r g b - mn3 r g b))).fdiv 3 + r - g) else g - b
def toldH (r g b w : Int) : Int := Flt.toInt Float64.truncOf (Float64.add (Float64.mul (Float64.ofInt (6 * (mx3 r g b - mn3 r g b))) (rgbH (qF r w) (qF g w) (qF b w))) 4602678819172646912)
def toldS (r g b w : Int) : Int := Flt.toInt Float64.truncOf (Float64.add (Float64.mul (Float64.ofInt (mx3 r g b)) (rgbS (qF r w) (qF g w) (qF b w))) 4602678819172646912)
def toldB (r g b w : Int) : Bool := decide ((toldH r g b w).fmod (6 * (mx3 r g b - mn3 r g b)) = (walkI r g b).fmod (6 * (mx3 r g b - mn3 r g b))) && decide (toldS r g b w = mx3 r g b - mn3 r g b)
end Mine
end
section
open PySem PySem.W PyProof.Rows PySem.Spec PySem.Calls
set_option Elab.async false
set_option maxRecDepth 100000
set_option maxHeartbeats 8000000
namespace Mine
local macro_rules | `(tactic| walk_at "call builtin:max") => `(tactic| ((with_reducible show wpAny _ _ (call (Value.builtin _) [Value.float _ _, Value.float _ _, Value.float _ _]) _ _ _); (rename News _ _ _ _ => N'); (rename Fr _ _ _ _ => F'); refine max_three_ff rfl F' N' ?_; clear F' N'; intro h' tk' v' hv' F' N'))
local macro_rules | `(tactic| walk_at "call builtin:min") => `(tactic| ((with_reducible show wpAny _ _ (call (Value.builtin _) [Value.float _ _, Value.float _ _, Value.float _ _]) _ _ _); (rename News _ _ _ _ => N'); (rename Fr _ _ _ _ => F'); refine min_three_ff rfl F' N' ?_; clear F' N'; intro h' tk' v' F' N'))
local macro_rules | `(tactic| k_cells $Y:ident) => `(tactic| (have hY := cells_nine $Y; obtain ⟨o', o2', o3', o4', o5', o6', o7', o8', o9', hE', d1', d2', d3', d4', d5', d6', d7', d8', d9'⟩ := hY; subst hE'; clear $Y))
local macro_rules | `(tactic| k_all) => `(tactic| first | exact all_ne' (by assumption) (by omega) | exact all_ne (by assumption) (by omega))
local macro_rules | `(tactic| walk_at "exec For Name Call cons nil") => `(tactic| (k_here; (rename Fr _ _ _ _ => lF'); (with_unfolding_all refine' For_invTF lF' ?_ ?hs; (case hs => exact fun _ => rfl); k_whole)))
local macro_rules | `(tactic| walk_at "st") => `(tactic| (first | (k_unfold; (try dsimp only)) | (k_end; wrow_close) | walk1 | (dsimp only; walk1) | (leave1; walk_say "STEP leave1"; try dsimp only)))
local macro_rules | `(tactic| walk_at "mine enterC") => `(tactic| (refine' code_defC ?k1 ?k2 ?k3 ?k4 ?k5 ?kA ?kF ?kK ?k6 ?k7 ?k8 ?k9 ?kB ?kD ?_ ?c2 ?c3 ?c4; (case kA => exact rfl); (case kF => exact rfl); (case kK => first | assumption | exact rfl); (case k1 => k_asm); (case k2 => k_asm); (case k3 => k_asm); (case k4 => k_asm); (case k5 => k_asm); (case k6 => k_is); (case k7 => k_is); (case k8 => ktr_room); (case k9 => exact BindsTo.of_eq rfl); (case kB => exact rfl); (case kD => decide +kernel); (case c2 => exact rfl); (case c3 => exact rfl); (case c4 => exact rfl); k_whole; intro g' L' h' tk' cells' FG' F' N' Y' B' X' T' l1; (try k_lt l1); k_cells Y'; (try simp only [List.cons_append, List.nil_append] at N'); (try dsimp only); (try k_lift B'); (try k_fold)))
theorem rgb_tells {w : World} {p : Program} {loose : List Str} {mean : ExcName → Option Value} {mg mb : Str → Option Value}
  {dp un : Nat} {gd : Option (List Code)} {cn : Str} {cs : Scope} {a : Addr} {ccd : Value} {cl : List (Str × Addr)} {outer : List Env} {A₀ : Around} {base h₀ : Heap} {L : Addr} {m : Str → Option Value} {s : Shared} {Q E : Value → Shared → Prop}
  {news : List (Addr × Obj)} {x y z : UInt64} {tx ty tz : Tok} (h1 : (Float64.cmp (min3F x y z) (max3F x y z) == some .eq) = false) (h2 : Float64.isZero (max3F x y z) = false) (h3 : Float64.isZero (Float64.sub (max3F x y z) (min3F x y z)) = false) 
  (B : Below A₀ base outer h₀) (F : Fr h₀ L s.heap m) (X : (hd.heap_39 w.params).In h₀) (N : News h₀ L s.heap news) (T : Top p loose mean mg mb h₀) (hk : cs.kind = .function) 
  (hdp : dp + 1 < recursionLimit) (hu : un + 12 < cLine) 
  (hret : ∀ D t1 t2 t3 (h' : Heap) (tk' : Nat), (t3 = tx ∨ t3 = ty ∨ t3 = tz) → Fr h₀ L h' m → News h₀ L h' ((D, tup3 (rgbH x y z) (rgbS x y z) (max3F x y z) t1 t2 t3) :: news) → (∀ p ∈ news, p.1 < D) → Q (.ref D) { s with heap := h', toks := tk' }) :
      wpAny (model Challenge.rw_pw0001_01.row.prog w) (ktrTop dp un gd cn cs L a ccd cl outer) (call (.ref 29) [.float x tx, .float y ty, .float z tz]) Q E s := by
  (try subst hnews)
  revert X
  k_fill
  intro X
  refine wpAny_call ?_
  k_dflt cell_enter
  k_steps
  all_goals (first
    | (refine absurd (h1.symm.trans ?_) Bool.false_ne_true; assumption)
    | (refine absurd (h2.symm.trans ?_) Bool.false_ne_true; assumption)
    | (refine absurd (h3.symm.trans ?_) Bool.false_ne_true; assumption)
    | (refine' hret _ _ _ _ _ _ ?tt ?f ?n ?l
       (case tt => assumption)
       (case f => assumption)
       (case l => assumption)
       (case n =>
         unfold rgbH rgbHue
         (first | rw [if_pos (by assumption)] | (rw [if_neg (Bool.eq_false_iff.mp (by assumption)), if_pos (by assumption)]) | (rw [if_neg (Bool.eq_false_iff.mp (by assumption)), if_neg (Bool.eq_false_iff.mp (by assumption))]))
         assumption)))

end Mine
end
section
open PySem PySem.W PyProof.Rows PySem.Spec PySem.Calls
set_option Elab.async false
set_option maxRecDepth 100000
set_option maxHeartbeats 8000000
namespace Mine
local macro_rules | `(tactic| walk_at "call builtin:max") => `(tactic| ((with_reducible show wpAny _ _ (call (Value.builtin _) [Value.float _ _, Value.float _ _, Value.float _ _]) _ _ _); (rename News _ _ _ _ => N'); (rename Fr _ _ _ _ => F'); refine max_three_ff rfl F' N' ?_; clear F' N'; intro h' tk' v' hv' F' N'))
local macro_rules | `(tactic| walk_at "call builtin:min") => `(tactic| ((with_reducible show wpAny _ _ (call (Value.builtin _) [Value.float _ _, Value.float _ _, Value.float _ _]) _ _ _); (rename News _ _ _ _ => N'); (rename Fr _ _ _ _ => F'); refine min_three_ff rfl F' N' ?_; clear F' N'; intro h' tk' v' F' N'))
local macro_rules | `(tactic| k_cells $Y:ident) => `(tactic| (have hY := cells_nine $Y; obtain ⟨o', o2', o3', o4', o5', o6', o7', o8', o9', hE', d1', d2', d3', d4', d5', d6', d7', d8', d9'⟩ := hY; subst hE'; clear $Y))
local macro_rules | `(tactic| k_all) => `(tactic| first | exact all_ne' (by assumption) (by omega) | exact all_ne (by assumption) (by omega))
local macro_rules | `(tactic| walk_at "exec For Name Call cons nil") => `(tactic| (k_here; (rename Fr _ _ _ _ => lF'); (with_unfolding_all refine' For_invTF lF' ?_ ?hs; (case hs => exact fun _ => rfl); k_whole)))
local macro_rules | `(tactic| walk_at "st") => `(tactic| (first | (k_unfold; (try dsimp only)) | (k_end; wrow_close) | walk1 | (dsimp only; walk1) | (leave1; walk_say "STEP leave1"; try dsimp only)))
local macro_rules | `(tactic| walk_at "mine enterC") => `(tactic| (refine' code_defC ?k1 ?k2 ?k3 ?k4 ?k5 ?kA ?kF ?kK ?k6 ?k7 ?k8 ?k9 ?kB ?kD ?_ ?c2 ?c3 ?c4; (case kA => exact rfl); (case kF => exact rfl); (case kK => first | assumption | exact rfl); (case k1 => k_asm); (case k2 => k_asm); (case k3 => k_asm); (case k4 => k_asm); (case k5 => k_asm); (case k6 => k_is); (case k7 => k_is); (case k8 => ktr_room); (case k9 => exact BindsTo.of_eq rfl); (case kB => exact rfl); (case kD => decide +kernel); (case c2 => exact rfl); (case c3 => exact rfl); (case c4 => exact rfl); k_whole; intro g' L' h' tk' cells' FG' F' N' Y' B' X' T' l1; (try k_lt l1); k_cells Y'; (try simp only [List.cons_append, List.nil_append] at N'); (try dsimp only); (try k_lift B'); (try k_fold)))
theorem mod6 (i : Int) : i.fmod 6 = 0 ∨ i.fmod 6 = 1 ∨ i.fmod 6 = 2 ∨ i.fmod 6 = 3 ∨ i.fmod 6 = 4 ∨ i.fmod 6 = 5 := by
  have h1 := Int.fmod_nonneg_of_pos i (b := 6) (by decide)
  have h2 := Int.fmod_lt_of_pos i (b := 6) (by decide)
  omega
theorem hsv_tells {w : World} {p : Program} {loose : List Str} {mean : ExcName → Option Value} {mg mb : Str → Option Value}
  {dp un : Nat} {gd : Option (List Code)} {cn : Str} {cs : Scope} {a : Addr} {ccd : Value} {cl : List (Str × Addr)} {outer : List Env} {A₀ : Around} {base h₀ : Heap} {L : Addr} {m : Str → Option Value} {s : Shared} {Q E : Value → Shared → Prop}
  {news : List (Addr × Obj)} {x y z : UInt64} {tx ty tz : Tok} (h1 : (Float64.cmp y 0 == some .eq) = false) (h2 : Float64.isFinite (Float64.mul x 4618441417868443648) = true) (h3 : (hsvI x).natAbs < 2 ^ 1024 - 2 ^ 970) 
  (B : Below A₀ base outer h₀) (F : Fr h₀ L s.heap m) (X : (hd.heap_39 w.params).In h₀) (N : News h₀ L s.heap news) (T : Top p loose mean mg mb h₀) (hk : cs.kind = .function) 
  (hdp : dp + 1 < recursionLimit) (hu : un + 12 < cLine) 
  (hret : ∀ D t1 t2 t3 (h' : Heap) (tk' : Nat), Fr h₀ L h' m → News h₀ L h' ((D, tup3 (hsvR x y z 0) (hsvR x y z 1) (hsvR x y z 2) t1 t2 t3) :: news) → (∀ p ∈ news, p.1 < D) → Q (.ref D) { s with heap := h', toks := tk' }) :
      wpAny (model Challenge.rw_pw0001_01.row.prog w) (ktrTop dp un gd cn cs L a ccd cl outer) (call (.ref 36) [.float x tx, .float y ty, .float z tz]) Q E s := by
  (try subst hnews)
  revert X
  k_fill
  intro X
  refine wpAny_call ?_
  k_dflt cell_enter
  k_steps
  all_goals (first
    | (refine absurd (h1.symm.trans ?_) Bool.false_ne_true; assumption)
    | (refine absurd h2 (not_fin_nan ?_); assumption)
    | (refine absurd h2 (not_fin_inf ?_); assumption)
    | (refine absurd h3 (Nat.not_lt.mpr ?_); assumption)
    | (exact absurd (mod6 (hsvI x)) (by unfold hsvI; omega))
    | (refine' hret _ _ _ _ _ _ ?f ?n ?l
       (case f => assumption)
       (case l => assumption)
       (case n =>
         unfold hsvR
         (first
          | simp only [if_pos (show (hsvI x).fmod 6 = 0 by assumption)]
          | simp only [if_neg (show ¬ (hsvI x).fmod 6 = 0 by assumption), if_pos (show (hsvI x).fmod 6 = 1 by assumption)]
          | simp only [if_neg (show ¬ (hsvI x).fmod 6 = 0 by assumption), if_neg (show ¬ (hsvI x).fmod 6 = 1 by assumption), if_pos (show (hsvI x).fmod 6 = 2 by assumption)]
          | simp only [if_neg (show ¬ (hsvI x).fmod 6 = 0 by assumption), if_neg (show ¬ (hsvI x).fmod 6 = 1 by assumption), if_neg (show ¬ (hsvI x).fmod 6 = 2 by assumption), if_pos (show (hsvI x).fmod 6 = 3 by assumption)]
          | simp only [if_neg (show ¬ (hsvI x).fmod 6 = 0 by assumption), if_neg (show ¬ (hsvI x).fmod 6 = 1 by assumption), if_neg (show ¬ (hsvI x).fmod 6 = 2 by assumption), if_neg (show ¬ (hsvI x).fmod 6 = 3 by assumption), if_pos (show (hsvI x).fmod 6 = 4 by assumption)]
          | simp only [if_neg (show ¬ (hsvI x).fmod 6 = 0 by assumption), if_neg (show ¬ (hsvI x).fmod 6 = 1 by assumption), if_neg (show ¬ (hsvI x).fmod 6 = 2 by assumption), if_neg (show ¬ (hsvI x).fmod 6 = 3 by assumption), if_neg (show ¬ (hsvI x).fmod 6 = 4 by assumption)])
         assumption)))

end Mine
end
section
open PySem PySem.W PyProof.Rows PySem.Spec PySem.Calls
set_option Elab.async false
set_option maxRecDepth 100000
set_option maxHeartbeats 8000000
namespace Mine
local macro_rules | `(tactic| walk_at "call ref") => `(tactic| (k_here; (with_reducible show wpAny _ _ (call (Value.ref 29) _) _ _ _); k_dflt (refine' rgb_tells ?h1 ?h2 ?h3 ?kB ?kF ?kX ?kN ?kT ?kK ?kd ?ku ?_; (case h1 => assumption); (case h2 => assumption); (case h3 => assumption); (case kB => k_asm); (case kF => k_asm); (case kX => k_asm); (case kN => k_asm); (case kT => k_asm); (case kK => exact rfl); (case kd => ktr_room); (case ku => ktr_units); k_whole); intro D' t1' t2' t3' h' tk' ht' F' N' l1'; (try k_sweep); unfold tup3 at N'))
local macro_rules | `(tactic| walk_at "compareOp Eq ref ref") => `(tactic| (k_here; k_dflt (refine' eq_list3 ?kN ?ka ?kb ?ku ?kk ?k0 ?kc ?_; (case kN => k_asm); (case ka => k_mem); (case kb => k_mem); (case ku => ktr_units); (case kk => exact booked_of (Frag.In.keeps (by k_asm) (Fr.keep (by k_asm)))); (case k0 => exact tok_ok (by assumption)); (case kc => assumption); k_whole)))
local macro_rules | `(tactic| walk_at "binaryOp Mult int float") => `(tactic| (refine mul_if_ok (by with_unfolding_all rfl) (by omega) ?_))
local macro_rules | `(tactic| walk_at "call type:int") => `(tactic| (refine int_ok (by with_unfolding_all rfl) (by assumption) ?_))
local macro_rules | `(tactic| walk_at "call builtin:max") => `(tactic| (k_here; (with_reducible show wpAny _ _ (call (Value.builtin _) [Value.ref _]) _ _ _); k_dflt (refine' max_list3 ?k1 ?k2 ?k3 ?k6 ?_; (case k1 => k_asm); (case k2 => k_asm); (case k3 => k_mem); (case k6 => with_unfolding_all rfl); k_whole); intro h' t' k' F' N'; (try k_sweep)))
local macro_rules | `(tactic| walk_at "call builtin:min") => `(tactic| (k_here; (with_reducible show wpAny _ _ (call (Value.builtin _) [Value.ref _]) _ _ _); k_dflt (refine' min_list3 ?k1 ?k2 ?k3 ?k6 ?_; (case k1 => k_asm); (case k2 => k_asm); (case k3 => k_mem); (case k6 => with_unfolding_all rfl); k_whole); intro h' t' k' F' N'; (try k_sweep)))
local macro_rules | `(tactic| k_cells $Y:ident) => `(tactic| (have hY := cells_nine $Y; obtain ⟨o', o2', o3', o4', o5', o6', o7', o8', o9', hE', d1', d2', d3', d4', d5', d6', d7', d8', d9'⟩ := hY; subst hE'; clear $Y))
local macro_rules | `(tactic| k_all) => `(tactic| first | exact all_ne' (by assumption) (by omega) | exact all_ne (by assumption) (by omega))
local macro_rules | `(tactic| walk_at "exec For Name Call cons nil") => `(tactic| (k_here; (rename Fr _ _ _ _ => lF'); (with_unfolding_all refine' For_invTF lF' ?_ ?hs; (case hs => exact fun _ => rfl); k_whole)))
local macro_rules | `(tactic| walk_at "st") => `(tactic| (first | (k_unfold; (try dsimp only)) | (k_end; wrow_close) | walk1 | (dsimp only; walk1) | (leave1; walk_say "STEP leave1"; try dsimp only)))
local macro_rules | `(tactic| walk_at "mine enterC") => `(tactic| (refine' code_defC ?k1 ?k2 ?k3 ?k4 ?k5 ?kA ?kF ?kK ?k6 ?k7 ?k8 ?k9 ?kB ?kD ?_ ?c2 ?c3 ?c4; (case kA => exact rfl); (case kF => exact rfl); (case kK => first | assumption | exact rfl); (case k1 => k_asm); (case k2 => k_asm); (case k3 => k_asm); (case k4 => k_asm); (case k5 => k_asm); (case k6 => k_is); (case k7 => k_is); (case k8 => ktr_room); (case k9 => exact BindsTo.of_eq rfl); (case kB => exact rfl); (case kD => decide +kernel); (case c2 => exact rfl); (case c3 => exact rfl); (case c4 => exact rfl); k_whole; intro g' L' h' tk' cells' FG' F' N' Y' B' X' T' l1; (try k_lt l1); k_cells Y'; (try simp only [List.cons_append, List.nil_append] at N'); (try dsimp only); (try k_lift B'); (try k_fold)))
theorem told_tells {w : World} {p : Program} {loose : List Str} {mean : ExcName → Option Value} {mg mb : Str → Option Value}
  {dp un : Nat} {gd : Option (List Code)} {cn : Str} {cs : Scope} {a : Addr} {ccd : Value} {cl : List (Str × Addr)} {outer : List Env} {A₀ : Around} {base h₀ : Heap} {L : Addr} {m : Str → Option Value} {s : Shared} {Q E : Value → Shared → Prop}
  {news rest : List (Addr × Obj)} {d : Addr} {r g b whole : Int} {tr tg tb tw : Tok} {cn0 : Nat} (hnews : news = (d, listOf #[.int r tr, .int g tg, .int b tb] cn0) :: rest) (hw : 0 < whole) (hr : 0 ≤ r ∧ r ≤ whole) (hg : 0 ≤ g ∧ g ≤ whole) (hb : 0 ≤ b ∧ b ≤ whole) (hwb : whole ≤ 15360) (hmm : mn3 r g b < mx3 r g b) (f1 : Float64.isInf (qF r whole) = false) (f2 : Float64.isInf (qF g whole) = false) (f3 : Float64.isInf (qF b whole) = false) (f6 : Float64.isInf (qF (mx3 r g b) whole) = false) (f7 : Float64.cmp (max3F (qF r whole) (qF g whole) (qF b whole)) (qF (mx3 r g b) whole) = some .eq) (f4 : Float64.isFinite (Float64.add (Float64.mul (Float64.ofInt (6 * (mx3 r g b - mn3 r g b))) (rgbH (qF r whole) (qF g whole) (qF b whole))) 4602678819172646912) = true) (f5 : Float64.isFinite (Float64.add (Float64.mul (Float64.ofInt (mx3 r g b)) (rgbS (qF r whole) (qF g whole) (qF b whole))) 4602678819172646912) = true) (h1 : (Float64.cmp (min3F (qF r whole) (qF g whole) (qF b whole)) (max3F (qF r whole) (qF g whole) (qF b whole)) == some .eq) = false) (h2 : Float64.isZero (max3F (qF r whole) (qF g whole) (qF b whole)) = false) (h3 : Float64.isZero (Float64.sub (max3F (qF r whole) (qF g whole) (qF b whole)) (min3F (qF r whole) (qF g whole) (qF b whole))) = false) (hB : toldB r g b whole = true)
  (B : Below A₀ base outer h₀) (F : Fr h₀ L s.heap m) (X : (hd.heap_39 w.params).In h₀) (N : News h₀ L s.heap news) (T : Top p loose mean mg mb h₀) (hk : cs.kind = .function) 
  (hdp : dp + 3 < recursionLimit) (hu : un + 40 < cLine) 
  (hret : ∀ (h' : Heap) (tk' : Nat), Fr h₀ L h' m → News h₀ L h' news → Q (.bool true) { s with heap := h', toks := tk' }) :
      wpAny (model Challenge.rw_pw0001_01.row.prog w) (ktrTop dp un gd cn cs L a ccd cl outer) (call (.ref 53) [.ref d, .int whole tw]) Q E s := by
  (try subst hnews)
  revert X
  k_fill
  intro X
  refine wpAny_call ?_
  have h1' := h1
  have h2' := h2
  have h3' := h3
  unfold qF at h1' h2' h3' f1 f2 f3 f4 f5 f6 f7
  have hmx := mx3_def r g b
  have hmn := mn3_def r g b
  have hmx1 : mx3 r g b ≤ 15360 := by omega
  have hmn1 : 0 ≤ mn3 r g b := by omega
  clear hmx hmn
  k_dflt cell_enter
  have hring : 0 < 6 * (mx3 r g b - mn3 r g b) := by omega
  have hring' : 6 * (mx3 r g b - mn3 r g b) ≠ 0 := by omega
  k_steps
  all_goals (
    refine' ret_true hret ?e ?f ?n ?hs
    (case f => assumption)
    (case n => assumption)
    (case hs => kcj_all)
    (case e =>
      rw [← hB]
      unfold toldB walkI toldH toldS qF
      (first
        | rw [if_pos (by assumption), if_pos (by assumption)]
        | rw [if_pos (by assumption), if_neg (by assumption)]
        | rw [if_neg (by assumption)])))

end Mine
end
section
open PySem PySem.W PyProof.Rows PySem.Spec PySem.Calls
set_option Elab.async false
set_option maxRecDepth 100000
namespace Mine
section
variable {prog : Program} {w : World} {A A₀ : Around} {s : Shared} {K : Frag} {L : Addr} {h₀ base : Heap} {m mg mb : Str → Option Value} {p : Program} {loose : List Str} {mean : ExcName → Option Value}
/-- a def with cells, entered upon the whole heap as it stands: nothing that stood is turned -/
theorem keep_defC {env : Env} {outer : List Env} {R : Result → Shared → Prop} {name qual : Str} {params : Arguments} {body : List Stmt} {scope : Scope} {dV kV doc pm cdv ct oc : Value} {an od : Option Addr} {osl : Array (Option Value)} {f : Addr} {args : Args} {binds : List (Str × Value)}
    (B : Below A₀ base outer h₀) (F : Fr h₀ L s.heap m) (X₀ : K.In h₀) (T : Top p loose mean mg mb h₀) (hA : A.frames = some (env :: outer)) (hf : env.frame = some L) (hke : env.scope.kind = .function)
    (ho : K.lookup f = some ⟨oc, od, .func (fnOf name qual params body scope dV kV doc pm an cdv ct), osl⟩) (hcd : codeIn K cdv qual = true) (hroom : A.depth < recursionLimit)
    (hbind : BindsTo s (fnOf name qual params body scope dV kV doc pm an cdv ct) args binds) (hkind : (binds.all fun y => scope.names.lookup y.1 == some .local || scope.names.lookup y.1 == some .cell) = true)
    (hnd : ((cellsFrom 0 scope.names []).map (·.1)).Nodup)
    (h : ∀ L' h₁ tk cells, Fr s.heap L' h₁ (bindL (envOfC qual scope L' f cdv).kindOf binds fun _ => none) → News s.heap L' h₁ cells →
      CellsAre (bindC (envOfC qual scope L' f cdv).kindOf binds fun _ => none) (cellsFrom (L' + 1) scope.names []) cells → Below A base (env :: outer) s.heap → K.In s.heap → Top p loose mean mg mb s.heap →
      wpAny (model prog w) (A.deeper (envOfC qual scope L' f cdv)) (execs body (envOfC qual scope L' f cdv))
        (fun fl s' => LeaveK h₀ L m s.heap R (match fl with | .ret v => v | _ => .none) s')
        (fun e s' => wpAny (model prog w) (A.deeper (envOfC qual scope L' f cdv)) (leaving (envOfC qual scope L' f cdv) e) (fun _ s'' => R (.error e) s'') (fun e' s'' => R (.error e') s'') s')
        { s with heap := h₁, toks := tk })
    (hco : scope.isCoroutine = false) (hgen : scope.isGenerator = false) (hk : scope.kind = .function) : codeAny (model prog w) A (.call (.ref f) args) R s := by
  obtain ⟨FG, BG, st, lv⟩ := groundX (R := R) B F (News.nil) hA hf hke
  have XS : K.In s.heap := X₀.keeps F.keep
  refine codeAny_call_function hroom (XS _ _ ho) rfl hco hgen rfl (codeRec_of XS hcd) (hbind _ _ _ _ ?_)
  refine wpAny_newFunctionEnv_cells hk (kindsX hkind _) fun env' he s' x => ?_
  subst he
  refine ⟨(T.nolimit.keeps F.keep).keeps x.toInCall.keep, codeAny_func ?_⟩
  obtain ⟨h₁, tk, rfl, _⟩ := x.done
  have hk₁ := x.toInCall.keep
  obtain ⟨cells, NC, Y⟩ := Cl.news (h₀ := s.heap) (Nat.le_refl _) fun n c hm => ⟨x.cell n c (lookup_of_mem_nodup (cellsFrom_names scope.names 0 (s.heap.objs.size + 1) [] [] rfl ▸ hnd) hm), x.above n c hm⟩
  exact wpAny_mono (h s.heap.objs.size h₁ tk cells ⟨x.toInCall.ns, hk₁, Nat.le_refl _⟩ NC Y BG XS (T.keeps F.keep)) (fun fl s' hl => lv _ _ hl) fun _ _ y => y
end
end Mine
end
section
open PySem PySem.W PyProof.Rows PySem.Spec PySem.Calls PySem.Flt PySem.SeqAt
set_option Elab.async false
set_option maxRecDepth 100000
namespace Mine
theorem map_upd {m : Str → Option Value} {a b : Str} {v u : Value} (h : m a = some v) (k : m b = some u) : m = fun y => if y = a then some v else if y = b then some u else m y := map_two h k
theorem bits_getD {l : List Int} (h : (l.all fun x => decide (Builtin.Int.intBits x ≤ 64)) = true) (n : Nat) : Builtin.Int.intBits (l.getD n 0) ≤ 64 := by
  rw [List.getD_eq_getElem?_getD]
  cases e : l[n]? with
  | none => exact Nat.le_of_ble_eq_true rfl
  | some x => exact of_decide_eq_true (List.all_eq_true.mp h x (List.mem_of_getElem? e))
structure DSt where
  e0 : Int
  e1 : Int
  e2 : Int
  ahead : Int
  sign : Int
end Mine
end
section
open PySem PySem.W PyProof.Rows PySem.Spec PySem.Calls PySem.Flt PySem.SeqAt
set_option Elab.async false
set_option maxRecDepth 100000
namespace Mine
abbrev Ext (h h' : Heap) : Prop := ∀ b o, h.get? b = some o → h'.get? b = some o
theorem Ext.refl (h : Heap) : Ext h h := fun _ _ e => e
theorem Ext.trans {a b c : Heap} (x : Ext a b) (y : Ext b c) : Ext a c := fun d o e => y d o (x d o e)
theorem Ext.push (h : Heap) (o : Obj) : Ext h (h.push o) := fun _ _ e => Heap.get?_push_of_some _ e
theorem fresh_ge {h : Heap} {a : Addr} (ha : h.objs.size ≤ a) : h.get? a = none := by
  cases e : h.get? a with
  | none => rfl
  | some o' => exact absurd (Heap.lt_size e) (Nat.not_lt.mpr ha)
theorem isList_ext {h h' : Heap} {a : Addr} {its : Array Value} (x : h.IsList a its) (e : Ext h h') : h'.IsList a its := x.at fun o => e a o

section
variable (prog : Program) (w : World) (A : Around) (ev : Env)
/-- a name gives v in every heap above h -/
def Ld (h : Heap) (x : Str) (v : Value) : Prop :=
  ∀ (pos : Pos) (s : Shared) (E Q : Value → Shared → Prop), Ext h s.heap → Q v s → wpAny (model prog w) A (eval (.Name x pos) ev) Q E s
/-- an expression gives a value with P, the heap only grows -/
def Ev (e : Expr) (h : Heap) (P : Value → Heap → Heap → Prop) : Prop :=
  ∀ (s : Shared) (E Q : Value → Shared → Prop), Ext h s.heap → (∀ v h' tk, Ext s.heap h' → P v s.heap h' → Q v { s with heap := h', toks := tk }) → wpAny (model prog w) A (eval e ev) Q E s
def EvI (e : Expr) (h : Heap) (i : Int) : Prop := Ev prog w A ev e h fun v _ _ => ∃ t, v = .int i t
def EvL (e : Expr) (h : Heap) (xs : List Int) : Prop := Ev prog w A ev e h fun v _ h' => ∃ l vs, v = .ref l ∧ h'.IsList l vs.toArray ∧ IntsAre vs xs
def EvN (e : Expr) (h : Heap) (xs : List Int) : Prop := Ev prog w A ev e h fun v h₁ h' => ∃ D vs n, v = .ref D ∧ h₁.get? D = none ∧ h'.get? D = some ({ cls := .type "list", data := .seq vs.toArray n } : Obj) ∧ IntsAre vs xs
def Tst (e : Expr) (h : Heap) (b : Bool) : Prop :=
  ∀ (s : Shared) (E : Value → Shared → Prop) (Q : Bool → Shared → Prop), Ext h s.heap → (∀ h' tk, Ext s.heap h' → Q b { s with heap := h', toks := tk }) → wpAny (model prog w) A (isTrue e ev (eval e ev)) Q E s
end

section
variable {prog : Program} {w : World} {A : Around} {ev : Env} {h : Heap}
theorem Ld.up {h' : Heap} {x : Str} {v : Value} (l : Ld prog w A ev h x v) (e : Ext h h') : Ld prog w A ev h' x v := fun pos s E Q hs q => l pos s E Q (e.trans hs) q
theorem Ev.up {h' : Heap} {e : Expr} {P : Value → Heap → Heap → Prop} (l : Ev prog w A ev e h P) (x : Ext h h') : Ev prog w A ev e h' P := fun s E Q hs q => l s E Q (x.trans hs) q
theorem EvI.up {h' : Heap} {e : Expr} {i : Int} (l : EvI prog w A ev e h i) (x : Ext h h') : EvI prog w A ev e h' i := Ev.up l x
theorem EvN.toL {e : Expr} {xs : List Int} (l : EvN prog w A ev e h xs) : EvL prog w A ev e h xs := fun s E Q hs q => l s E Q hs fun v h' tk he ⟨D, vs, n, e1, _, e2, hi⟩ => q v h' tk he ⟨D, vs, e1, ⟨_, e2, rfl, n, rfl⟩, hi⟩
theorem EvI.const {i : Int} {k : Nat} {pos : Pos} : EvI prog w A ev (.Constant (.int i) k pos) h i := fun s _ _ _ q => wpAny_Constant_int (q _ s.heap _ (Ext.refl _) ⟨_, rfl⟩)
theorem EvI.name {x : Str} {i : Int} {t : Tok} {pos : Pos} (l : Ld prog w A ev h x (.int i t)) : EvI prog w A ev (.Name x pos) h i := fun s _ _ hs q => l _ s _ _ hs (q _ s.heap s.toks (Ext.refl _) ⟨_, rfl⟩)
theorem EvL.name {x : Str} {l : Addr} {vs : List Value} {xs : List Int} {pos : Pos} (ld : Ld prog w A ev h x (.ref l)) (hl : h.IsList l vs.toArray) (hi : IntsAre vs xs) : EvL prog w A ev (.Name x pos) h xs :=
  fun s _ _ hs q => ld _ s _ _ hs (q _ s.heap s.toks (Ext.refl _) ⟨l, vs, rfl, isList_ext hl hs, hi⟩)
theorem EvI.two {a b : Expr} {i j r : Int} {op : Operator} {pos : Pos} (x : EvI prog w A ev a h i) (y : EvI prog w A ev b h j)
    (k : ∀ (s : Shared) (E Q : Value → Shared → Prop) t u, (∀ t' tk, Q (.int r t') { s with toks := tk }) → wpAny (model prog w) A (binaryOp op (.int i t) (.int j u)) Q E s) : EvI prog w A ev (.BinOp a op b pos) h r := fun s E Q hs q => by
  refine wpAny_BinOp (x s _ _ hs fun v h₁ tk₁ e₁ ⟨t, ht⟩ => ?_)
  subst ht
  refine y _ _ _ (hs.trans e₁) fun v h₂ tk₂ e₂ ⟨u, hu⟩ => ?_
  subst hu
  exact k _ _ _ t u fun t' tk => q _ h₂ tk (e₁.trans e₂) ⟨t', rfl⟩
theorem EvI.add {a b : Expr} {i j : Int} {pos : Pos} (x : EvI prog w A ev a h i) (y : EvI prog w A ev b h j) : EvI prog w A ev (.BinOp a .Add b pos) h (i + j) :=
  EvI.two x y fun _ _ _ _ _ q => PyProof.Rows.add_int (q _ _)
theorem EvI.sub {a b : Expr} {i j : Int} {pos : Pos} (x : EvI prog w A ev a h i) (y : EvI prog w A ev b h j) : EvI prog w A ev (.BinOp a .Sub b pos) h (i - j) :=
  EvI.two x y fun _ _ _ _ _ q => PyProof.Rows.sub_int (q _ _)
theorem EvI.mul {a b : Expr} {i j : Int} {pos : Pos} (x : EvI prog w A ev a h i) (y : EvI prog w A ev b h j) (hi : -1000000 ≤ i ∧ i ≤ 1000000) : EvI prog w A ev (.BinOp a .Mult b pos) h (i * j) :=
  EvI.two x y fun _ _ _ _ _ q => PyProof.Rows.mul_int (q _ _) (IntMulOk.of_left (intBits_le_64 (by omega) (by omega)))
theorem EvI.mod {a b : Expr} {i j : Int} {pos : Pos} (x : EvI prog w A ev a h i) (y : EvI prog w A ev b h j) (hj : j ≠ 0) : EvI prog w A ev (.BinOp a .Mod b pos) h (i.fmod j) :=
  EvI.two x y fun _ _ _ _ _ q => mod_int' hj (q _ _)
theorem EvI.fdiv {a b : Expr} {i j : Int} {pos : Pos} (x : EvI prog w A ev a h i) (y : EvI prog w A ev b h j) (hj : 0 < j ∧ j ≤ 1000000) : EvI prog w A ev (.BinOp a .FloorDiv b pos) h (i.fdiv j) :=
  EvI.two x y fun _ _ _ _ _ q => floordiv_int (by omega) (q _ _) (Or.inl (PyProof.noPylong_small (by omega)))
theorem EvI.pow {a b : Expr} {i : Int} {n : Nat} {pos : Pos} (x : EvI prog w A ev a h i) (y : EvI prog w A ev b h n) (hi : -1000000 ≤ i ∧ i ≤ 1000000) (hn : n ≤ 1000) : EvI prog w A ev (.BinOp a .Pow b pos) h (i ^ n) :=
  EvI.two x y fun _ _ _ _ _ q => pow_int (by omega) (by
    have := intBits_le_64 (k := i) (by omega) (by omega)
    have h1 : (Builtin.Int.intBits i : Int) * n ≤ 64 * 1000 := Int.mul_le_mul (by omega) (by omega) (by omega) (by omega)
    have h2 : (64 * 1000 : Int) ≤ 2 ^ 27 := by decide
    exact Int.le_trans h1 h2) (by simpa using q _ _)
theorem EvI.neg {a : Expr} {i : Int} {pos : Pos} (x : EvI prog w A ev a h i) : EvI prog w A ev (.UnaryOp .USub a pos) h (-i) := fun s E Q hs q => by
  refine UnaryOp_ (x s _ _ hs fun v h₁ tk₁ e₁ ⟨t, ht⟩ => ?_)
  subst ht
  exact neg_int (q _ h₁ _ e₁ ⟨_, rfl⟩)
theorem EvI.item {a b : Expr} {xs : List Int} {k : Int} {pos : Pos} (x : EvL prog w A ev a h xs) (y : EvI prog w A ev b h k) (h0 : 0 ≤ k) (h1 : k < xs.length) (hl : xs.length ≤ 1000000)
    (hs' : ∀ l u, subscripted b false (.ref l) (.int k u) = operate [.ref l, .int k u] (getItem (.ref l) (.int k u)) := by intros; with_unfolding_all rfl) :
    EvI prog w A ev (.Subscript a b pos) h (xs.getD k.toNat 0) := fun s E Q hs q => by
  refine Subscript_ (x s _ _ hs fun v h₁ tk₁ e₁ ⟨l, vs, hv, hl', hi⟩ => ?_)
  subst hv
  refine y _ _ _ (hs.trans e₁) fun v h₂ tk₂ e₂ ⟨u, hu⟩ => ?_
  subst hu
  exact item_anyK (s := { s with heap := h₂, toks := tk₂ }) (isList_ext hl' e₂) hi h0 h1 (by omega) (fun t => q _ h₂ tk₂ (e₁.trans e₂) ⟨t, rfl⟩) (hs' _ _)
theorem EvI.ifexp {t a b : Expr} {c : Bool} {i : Int} {pos : Pos} (x : Tst prog w A ev t h c) (y : c = true → EvI prog w A ev a h i) (z : c = false → EvI prog w A ev b h i) : EvI prog w A ev (.IfExp t a b pos) h i := fun s E Q hs q => by
  refine IfExp_ (x s _ _ hs fun h₁ tk₁ e₁ => ?_)
  cases c with
  | true => exact y rfl _ _ _ (hs.trans e₁) fun v h₂ tk₂ e₂ p => q _ h₂ tk₂ (e₁.trans e₂) p
  | false => exact z rfl _ _ _ (hs.trans e₁) fun v h₂ tk₂ e₂ p => q _ h₂ tk₂ (e₁.trans e₂) p
theorem EvL.ifexp {t a b : Expr} {c : Bool} {xs : List Int} {pos : Pos} (x : Tst prog w A ev t h c) (y : c = true → EvL prog w A ev a h xs) (z : c = false → EvL prog w A ev b h xs) : EvL prog w A ev (.IfExp t a b pos) h xs := fun s E Q hs q => by
  refine IfExp_ (x s _ _ hs fun h₁ tk₁ e₁ => ?_)
  cases c with
  | true => exact y rfl _ _ _ (hs.trans e₁) fun v h₂ tk₂ e₂ p => q _ h₂ tk₂ (e₁.trans e₂) p
  | false => exact z rfl _ _ _ (hs.trans e₁) fun v h₂ tk₂ e₂ p => q _ h₂ tk₂ (e₁.trans e₂) p
theorem Tst.cmp {a b : Expr} {i j : Int} {op : CmpOp} {pos : Pos} {c : Bool} (x : EvI prog w A ev a h i) (y : EvI prog w A ev b h j)
    (k : ∀ (s : Shared) (E Q : Value → Shared → Prop) t u, Q (.bool c) s → wpAny (model prog w) A (compareOp op (.int i t) (.int j u)) Q E s)
    (hm : behindInMarks op b = false := by with_unfolding_all rfl) : Tst prog w A ev (.Compare a [op] [b] pos) h c := fun s E Q hs q => by
  refine wpAny_isTrue_Compare1 (x s _ _ hs fun v h₁ tk₁ e₁ ⟨t, ht⟩ => ?_) hm
  subst ht
  refine y _ _ _ (hs.trans e₁) fun v h₂ tk₂ e₂ ⟨u, hu⟩ => ?_
  subst hu
  exact k _ _ _ t u (wpAny_truthy_bool (q h₂ tk₂ (e₁.trans e₂)))
theorem Tst.eq {a b : Expr} {i j : Int} {pos : Pos} (x : EvI prog w A ev a h i) (y : EvI prog w A ev b h j) (hm : behindInMarks .Eq b = false := by with_unfolding_all rfl) : Tst prog w A ev (.Compare a [.Eq] [b] pos) h (i == j) :=
  Tst.cmp x y (fun _ _ _ _ _ q => PyProof.Rows.eq_int q) hm
theorem Tst.and {a b : Expr} {c d : Bool} {pos : Pos} (x : Tst prog w A ev a h c) (y : Tst prog w A ev b h d) : Tst prog w A ev (.BoolOp .And [a, b] pos) h (c && d) := fun s E Q hs q => by
  refine isTrue_and (x s _ _ hs fun h₁ tk₁ e₁ => ?_)
  cases c with
  | false => exact q h₁ tk₁ e₁
  | true =>
    refine isTrue_and (y _ _ _ (hs.trans e₁) fun h₂ tk₂ e₂ => ?_)
    cases d with
    | false => exact q h₂ tk₂ (e₁.trans e₂)
    | true => exact isTrue_and_nil (q h₂ tk₂ (e₁.trans e₂))

/-- calls of built-in functions by name -/
theorem EvI.call1 {f : Str} {id : String} {a : Expr} {fp pos : Pos} {r : Int} {P : Value → Heap → Heap → Prop} (lf : Ld prog w A ev h f (.builtin id)) (x : Ev prog w A ev a h P)
    (k : ∀ (s : Shared) (E Q : Value → Shared → Prop) v h₁, P v h₁ s.heap → (∀ t h' tk, Ext s.heap h' → Q (.int r t) { s with heap := h', toks := tk }) → wpAny (model prog w) A (call (.builtin id) [v]) Q E s)
    (he : starEach [a] ev = [(false, eval a ev)] := by rfl) :
    EvI prog w A ev (.Call (.Name f fp) [a] [] pos) h r := fun s E Q hs q => by
  refine wpAny_Call_NameR (lf _ s _ _ hs ?_)
  rw [he]
  refine callWith_builtin1 (x s _ _ hs fun v h₁ tk₁ e₁ p => k _ _ _ _ _ p fun t h₂ tk₂ e₂ => q _ h₂ tk₂ (e₁.trans e₂) ⟨t, rfl⟩)
theorem EvI.call2 {f : Str} {id : String} {a b : Expr} {fp pos : Pos} {i j r : Int} (lf : Ld prog w A ev h f (.builtin id)) (x : EvI prog w A ev a h i) (y : EvI prog w A ev b h j)
    (k : ∀ (s : Shared) (E Q : Value → Shared → Prop) t u, (∀ t' h' tk, Ext s.heap h' → Q (.int r t') { s with heap := h', toks := tk }) → wpAny (model prog w) A (call (.builtin id) [.int i t, .int j u]) Q E s)
    (he : backTo pos (starEach [a, b] ev) = [(false, eval a ev), (false, eval b ev)] := by rfl) :
    EvI prog w A ev (.Call (.Name f fp) [a, b] [] pos) h r := fun s E Q hs q => by
  refine wpAny_Call_NameR (lf _ s _ _ hs ?_)
  rw [he]
  refine Calls.callWith_builtin rfl (Calls.evalArgs_plain (Calls.spliced_cons (x s _ _ hs fun v h₁ tk₁ e₁ ⟨t, ht⟩ => ?_)))
  subst ht
  refine Calls.spliced_cons (y _ _ _ (hs.trans e₁) fun v h₂ tk₂ e₂ ⟨u, hu⟩ => ?_)
  subst hu
  refine Calls.spliced_nil ?_
  exact k _ _ _ _ _ fun t' h' tk e₃ => q _ h' tk ((e₁.trans e₂).trans e₃) ⟨t', rfl⟩
theorem EvI.max2 {f : Str} {a b : Expr} {fp pos : Pos} {i j : Int} (hh : A.handled = none) (lf : Ld prog w A ev h f (.builtin "max")) (x : EvI prog w A ev a h i) (y : EvI prog w A ev b h j)
    (he : backTo pos (starEach [a, b] ev) = [(false, eval a ev), (false, eval b ev)] := by rfl) : EvI prog w A ev (.Call (.Name f fp) [a, b] [] pos) h (max i j) :=
  EvI.call2 lf x y (fun s E Q t u q => max_two_ints hh fun h' tk e => by
    by_cases c : j > i
    · rw [if_pos c]; rw [show max i j = j by omega] at q; exact q _ _ _ e
    · rw [if_neg c]; rw [show max i j = i by omega] at q; exact q _ _ _ e) he
theorem EvI.min2 {f : Str} {a b : Expr} {fp pos : Pos} {i j : Int} (hh : A.handled = none) (lf : Ld prog w A ev h f (.builtin "min")) (x : EvI prog w A ev a h i) (y : EvI prog w A ev b h j)
    (he : backTo pos (starEach [a, b] ev) = [(false, eval a ev), (false, eval b ev)] := by rfl) : EvI prog w A ev (.Call (.Name f fp) [a, b] [] pos) h (min i j) :=
  EvI.call2 lf x y (fun s E Q t u q => min_two_ints hh fun h' tk e => by
    by_cases c : j < i
    · rw [if_pos c]; rw [show min i j = j by omega] at q; exact q _ _ _ e
    · rw [if_neg c]; rw [show min i j = i by omega] at q; exact q _ _ _ e) he
theorem intItems_of : ∀ {vs : List Value} {xs : List Int}, IntsAre vs xs → ∃ ys : List (Int × Tok), vs.toArray = intItems ys.toArray ∧ ys.map (·.1) = xs
  | _, _, .nil => ⟨[], by simp [intItems], rfl⟩
  | _, _, .cons n t r => by
    obtain ⟨ys, e1, e2⟩ := intItems_of r
    refine ⟨(n, t) :: ys, ?_, by simp [e2]⟩
    have := congrArg Array.toList e1
    simp [intItems] at this ⊢
    exact this
theorem preSum_list : ∀ (ys : List (Int × Tok)), preSum (numAt ys.toArray) ys.length = (ys.map (·.1)).sum := fun ys => by
  have := preSum_eq ys.toArray ys.length
  rw [this, List.take_of_length_le (by simp)]
theorem EvI.sum {f : Str} {a : Expr} {fp pos : Pos} {xs : List Int} (hh : A.handled = none) (lf : Ld prog w A ev h f (.builtin "sum")) (x : EvL prog w A ev a h xs)
    (he : starEach [a] ev = [(false, eval a ev)] := by rfl) : EvI prog w A ev (.Call (.Name f fp) [a] [] pos) h xs.sum :=
  EvI.call1 lf x (fun s E Q v h₁ ⟨l, vs, hv, hl, hi⟩ q => by
    subst hv
    obtain ⟨ys, e1, e2⟩ := intItems_of hi
    refine sum_intListG hh (e1 ▸ hl) fun h' tk t' e => ?_
    have := q t' h' tk e
    rw [← e2, ← preSum_list] at this
    exact this) he
end
end Mine
end
section
open PySem PySem.W PyProof.Rows PySem.Spec PySem.Calls PySem.Flt PySem.SeqAt
set_option Elab.async false
set_option maxRecDepth 100000
namespace Mine
open PyProof.Rows.LCg (lst lst_snoc)
/-- all of g but the iterator stands in h -/
abbrev ExtI (I : Addr) (g h : Heap) : Prop := ∀ b o, b ≠ I → g.get? b = some o → h.get? b = some o
section
variable {prog : Program} {w : World} {A : Around}
theorem comp_loop {elt iter : Expr} {x : Str} {px : Pos} {scope : Scope} {pos : Pos} {I : Addr} {fp priv : List Addr} {n : Nat} {P : Nat → Value → Prop} {StI : Nat → Heap → Prop} {cenv : Env} {s₁ : Shared} {g : Heap}
    {R : Result → Shared → Prop} (F : Nat → Value → Prop) (Cst : Heap → Prop) (Now : Heap → Value → Prop)
    (W : Walks prog w A I fp [I] n P StI) (hsz : n ≤ sizeLine) (hfp : ∀ b ∈ fp, b < g.objs.size) (hpriv : ∀ b ∈ priv, g.objs.size < b)
    (hC1 : ∀ h h', Cst h → (∀ b ∈ priv, ∀ o, h.get? b = some o → h'.get? b = some o) → Cst h')
    (has : ∀ v (s : Shared) (E : Value → Shared → Prop) (Q : Unit → Shared → Prop), Cst s.heap → (∀ h' tk, Cst h' → Now h' v → (∀ b o, b ∉ priv → s.heap.get? b = some o → h'.get? b = some o) → Q () { s with heap := h', toks := tk }) → wpAny (model prog w) A (assign (.Name x px) cenv v) Q E s)
    (helt : ∀ i v h, i < n → P i v → ExtI I g h → Now h v → Ev prog w A cenv elt h (fun y _ _ => F i y))
    (st0 : StI 0 s₁.heap) (c0 : Cst s₁.heap) (d0 : s₁.heap.get? g.objs.size = some (lst [])) (k0 : ExtI I g s₁.heap)
    (hR : ∀ h tk ys, Cst h → h.get? g.objs.size = some (lst ys) → ys.length = n → (∀ (i : Nat) y, ys[i]? = some y → F i y) → ExtI I g h → R (.ok .next) { s₁ with heap := h, toks := tk }) :
    codeAny (model prog w) A (.compLoop (.ListComp elt [⟨.Name x px, iter, [], 0⟩] scope pos) 0 (.ref I) (.ref g.objs.size) cenv) R s₁ := by
  have hIf : I ∈ fp := W.sub I (List.mem_singleton.mpr rfl)
  have hIlt := hfp I hIf
  have hDp : g.objs.size ∉ priv := fun hm => Nat.lt_irrefl _ (hpriv _ hm)
  have hIp : ∀ b, b < g.objs.size → b ∉ priv := fun b hb hm => Nat.lt_irrefl _ (Nat.lt_trans hb (hpriv _ hm))
  refine codeAny_compLoop_tests
    (fun k s' => ∃ h tk i ys, s' = { s₁ with heap := h, toks := tk } ∧ i ≤ n ∧ k = n + 1 - i ∧ ys.length = i ∧ StI i h ∧ Cst h ∧ h.get? g.objs.size = some (lst ys) ∧ (∀ (j : Nat) y, ys[j]? = some y → F j y) ∧ ExtI I g h) ?_ (n + 1)
    ⟨s₁.heap, s₁.toks, 0, [], rfl, Nat.zero_le _, rfl, rfl, st0, c0, d0, (by intro j y h; simp at h), k0⟩
  rintro k s' ⟨h, tk, i, ys, rfl, hi, rfl, hyl, st, c, d, hF, kp⟩
  by_cases hlt : i < n
  · refine W.item i _ _ _ hlt st fun v h₂ tk₂ hPv st₂ hk₂ => ?_
    have hk₂' : ∀ b o, b ≠ I → h.get? b = some o → h₂.get? b = some o := fun b o hb e => hk₂ b o (by simpa using hb) e
    have c₂ : Cst h₂ := hC1 _ _ c fun b hb o e => hk₂' b o (fun q => hIp I hIlt (q ▸ hb)) e
    have d₂ := hk₂' _ _ (Nat.ne_of_gt hIlt) d
    refine has v _ _ _ c₂ fun h₃ tk₃ c₃ ld₃ hk₃ => ?_
    have d₃ := hk₃ _ _ hDp d₂
    have kp₃ : ExtI I g h₃ := fun b o hb e => hk₃ b o (hIp b (Heap.lt_size e)) (hk₂' b o hb (kp b o hb e))
    have st₃ : StI (i + 1) h₃ := W.frame _ _ _ st₂ fun b hb o e => hk₃ b o (hIp b (hfp b hb)) e
    refine wpAny_tests_nil ?_
    simp only [if_true]
    refine helt i v h₃ hlt hPv kp₃ ld₃ _ _ _ (Ext.refl _) fun y h₄ tk₄ e₄ hy => ?_
    refine append_at (s := { s₁ with heap := h₄, toks := tk₄ }) (hsz := by show ys.toArray.size ≤ sizeLine; rw [List.size_toArray, hyl]; exact Nat.le_trans hi hsz) (e₄ _ _ d₃) fun h₅ hs₅ hD₅ => ?_
    have hk₅ : ∀ b o, b ≠ g.objs.size → h₃.get? b = some o → h₅.get? b = some o := fun b o hb e => hs₅.extBut b o hb (e₄ b o e)
    refine ⟨n + 1 - (i + 1), by omega, h₅, tk₄, i + 1, ys ++ [y], rfl, hlt, rfl, by rw [List.length_append, List.length_singleton, hyl],
      W.frame _ _ _ st₃ fun b hb o e => hk₅ b o (Nat.ne_of_lt (hfp b hb)) e, hC1 _ _ c₃ fun b hb o e => hk₅ b o (Nat.ne_of_gt (hpriv b hb)) e, hD₅.trans (congrArg some (lst_snoc ys y)), ?_,
      fun b o hb e => hk₅ b o (Nat.ne_of_lt (Heap.lt_size e)) (kp₃ b o hb e)⟩
    intro j z hz
    rw [List.getElem?_append] at hz
    split at hz
    · exact hF j z hz
    · rename_i hj
      have : j = i := by
        have : j - ys.length < 1 := by
          rcases Nat.lt_or_ge (j - ys.length) 1 with h | h
          · exact h
          · rw [List.getElem?_eq_none (by simpa using h)] at hz; cases hz
        omega
      subst this
      rw [hyl, Nat.sub_self] at hz
      cases hz
      exact hy
  · obtain rfl : i = n := Nat.le_antisymm hi (Nat.not_lt.mp hlt)
    refine W.done _ _ _ st fun h₂ tk₂ hk₂ => ?_
    have hk₂' : ∀ b o, b ≠ I → h.get? b = some o → h₂.get? b = some o := fun b o hb e => hk₂ b o (by simpa using hb) e
    exact hR h₂ tk₂ ys (hC1 _ _ c fun b hb o e => hk₂' b o (fun q => hIp I hIlt (q ▸ hb)) e) (hk₂' _ _ (Nat.ne_of_gt hIlt) d) hyl hF (fun b o hb e => hk₂' b o hb (kp b o hb e))

variable {env : Env}
/-- the block of a comprehension: no cell of its own -/
theorem comp_block {elt iter : Expr} {x : Str} {px : Pos} {scope : Scope} {cl : List (Str × Addr)} {pos : Pos} {s₂ : Shared} {E : Value → Shared → Prop} {I : Addr} {fp : List Addr} {n : Nat} {P : Nat → Value → Prop} {StI : Nat → Heap → Prop}
    (F : Nat → Value → Prop) {RR : Value → Addr → Result → Shared → Prop}
    (W : Walks prog w A I fp [I] n P StI) (hsz : n ≤ sizeLine) (hfp : ∀ b ∈ fp, b < s₂.heap.objs.size)
    (hcell : ∀ y ∈ scope.names, y.2 ≠ .cell) (hkind : scope.kind = .function) (hx : scope.names.lookup x = some .local) (hd : (x == ("__debug__" : Str)) = false) (st0 : StI 0 s₂.heap)
    (helt : ∀ C i v h, i < n → P i v → ExtI I s₂.heap h → Ld prog w A (compEnvC scope cl C env) h x v → Ev prog w A (compEnvC scope cl C env) elt h (fun y _ _ => F i y))
    (hRR : ∀ C h tk m' ys, s₂.heap.get? C = none → C ≠ s₂.heap.objs.size → h.Ns C m' → h.get? s₂.heap.objs.size = some (lst ys) → ys.length = n → (∀ (i : Nat) y, ys[i]? = some y → F i y) → ExtI I s₂.heap h → RR (.ref s₂.heap.objs.size) C (.ok .next) { s₂ with heap := h, toks := tk }) :
    wpAny (model prog w) A (newList []) (fun acc s₃ => wpAny (model prog w) A (newFunctionEnv scope env.globals cl [] env.qual none .none (some env)) (fun cenv s₄ =>
      codeAny (model prog w) A (.compStart (.ListComp elt [⟨.Name x px, iter, [], 0⟩] scope pos) 0 (.ref I) acc { cenv with scope := relabel scope env }) (RR acc cenv.locals) s₄) E s₃) E s₂ := by
  refine wpAny_newObj_type (wpAny_newFunctionEnv hcell (by intro y hy; simp at hy) (fun h₁ hns₁ hsb₁ => ?_) hkind)
  dsimp only at hns₁ hsb₁ ⊢
  generalize hH2 : s₂.heap.push { cls := .type "list", dict := none, data := .seq ([] : List Value).toArray } = H2 at hns₁ hsb₁ ⊢
  have hC : H2.objs.size = s₂.heap.objs.size + 1 := by rw [← hH2, Heap.size_push]
  have hgt : s₂.heap.objs.size < H2.objs.size := by rw [hC]; exact Nat.lt_succ_self _
  have old : ∀ b o, s₂.heap.get? b = some o → h₁.get? b = some o := fun b o e => hsb₁.extBut b o (Nat.ne_of_lt (Nat.lt_trans (Heap.lt_size e) hgt)) (Heap.get?_push_of_some _ (hH2 ▸ Heap.get?_push_of_some _ e))
  have hacc : h₁.get? s₂.heap.objs.size = some (lst []) := hsb₁.extBut _ _ (Nat.ne_of_lt hgt) (Heap.get?_push_of_some _ (hH2 ▸ Heap.get?_push_size _ rfl))
  have hst₁ : StI 0 h₁ := W.frame _ _ _ st0 fun b _ o e => old b o e
  have loop : ∀ s₃ : Shared, s₃ = { s₂ with heap := h₁, toks := s₂.toks + ([] : List (Str × Value)).length } →
      codeAny (model prog w) A (.compLoop (.ListComp elt [⟨.Name x px, iter, [], 0⟩] scope pos) 0 (.ref I) (.ref s₂.heap.objs.size) (compEnvC scope cl H2.objs.size env)) (RR (.ref s₂.heap.objs.size) H2.objs.size) s₃ := by
    rintro s₃ rfl
    refine comp_loop (g := s₂.heap) (priv := [H2.objs.size]) (cenv := compEnvC scope cl H2.objs.size env) F (fun h => ∃ m, h.Ns H2.objs.size m) (fun h v => Ld prog w A (compEnvC scope cl H2.objs.size env) h x v) W hsz hfp (fun b hb => by rw [List.mem_singleton.mp hb]; exact hgt) ?_ ?_ (helt H2.objs.size) hst₁ ⟨_, hns₁⟩ hacc (fun b o _ e => old b o e) ?_
    · rintro h h' ⟨m, hm⟩ hk
      exact ⟨m, hm.at' fun o e => hk _ (List.mem_singleton.mpr rfl) o e⟩
    · rintro v s E Q ⟨m, hm⟩ q
      refine wpAny_assign_Name (wpAny_storeName_local (lookup_relabel_local hx) hm (fun h₃ hn₃ hs₃ => ?_) (by simp [compEnvC, relabel, hkind]))
      refine q h₃ _ ⟨_, hn₃⟩ ?_ (fun b o hb e => hs₃.extBut b o (fun q' => hb (List.mem_singleton.mpr q')) e)
      intro pos s' E' Q' hs' hq'
      exact wpAny_Name (wpAny_loadName_local (by simp [compEnvC, relabel, hkind]) (lookup_relabel_local hx) (hn₃.keeps hs') (by simp) hq') hd
    · rintro h tk ys ⟨m, hm⟩ hD hl hF kp
      exact hRR _ h tk m ys (fresh_ge (Nat.le_of_lt hgt)) (Nat.ne_of_gt hgt) hm hD hl hF kp
  exact codeAny_compStart_list (loop _ rfl) (W.self 0 _ _ _ hst₁ (loop _ rfl))

/-- the same where the loop's name is a cell of the block's own -/
theorem comp_blockC {elt iter : Expr} {x : Str} {px : Pos} {scope : Scope} {cl : List (Str × Addr)} {pos : Pos} {s₂ : Shared} {E : Value → Shared → Prop} {I : Addr} {fp : List Addr} {n : Nat} {P : Nat → Value → Prop} {StI : Nat → Heap → Prop}
    (F : Nat → Value → Prop) {RR : Value → Addr → Result → Shared → Prop}
    (W : Walks prog w A I fp [I] n P StI) (hsz : n ≤ sizeLine) (hfp : ∀ b ∈ fp, b < s₂.heap.objs.size)
    (hcell : ∀ k acc, cellsFrom k scope.names acc = (x, k) :: acc) (hkind : scope.kind = .function) (hx : (relabel scope env).names.lookup x = some .cell) (hd : (x == ("__debug__" : Str)) = false) (st0 : StI 0 s₂.heap)
    (helt : ∀ C c i v h, i < n → P i v → ExtI I s₂.heap h → Ld prog w A (compEnvC scope ((x, c) :: cl) C env) h x v → h.IsCell c (some v) → Ev prog w A (compEnvC scope ((x, c) :: cl) C env) elt h (fun y _ _ => F i y))
    (hRR : ∀ C h tk m' ys, s₂.heap.get? C = none → C ≠ s₂.heap.objs.size → h.Ns C m' → h.get? s₂.heap.objs.size = some (lst ys) → ys.length = n → (∀ (i : Nat) y, ys[i]? = some y → F i y) → ExtI I s₂.heap h → RR (.ref s₂.heap.objs.size) C (.ok .next) { s₂ with heap := h, toks := tk }) :
    wpAny (model prog w) A (newList []) (fun acc s₃ => wpAny (model prog w) A (newFunctionEnv scope env.globals cl [] env.qual none .none (some env)) (fun cenv s₄ =>
      codeAny (model prog w) A (.compStart (.ListComp elt [⟨.Name x px, iter, [], 0⟩] scope pos) 0 (.ref I) acc { cenv with scope := relabel scope env }) (RR acc cenv.locals) s₄) E s₃) E s₂ := by
  refine wpAny_newObj_type ?_
  generalize hH2 : s₂.heap.push { cls := .type "list", dict := none, data := .seq ([] : List Value).toArray } = H2
  have hC : H2.objs.size = s₂.heap.objs.size + 1 := by rw [← hH2, Heap.size_push]
  have hgt : s₂.heap.objs.size < H2.objs.size := by rw [hC]; exact Nat.lt_succ_self _
  simp only [newFunctionEnv, Option.isSome_some, if_true]
  refine wpAny_bind (wpAny_alloc ?_)
  refine wpAny_bind (wpAny_layCells _ (fun name kind cells => by cases kind == NameKind.cell <;> simp) _ _ _ _ ?_)
  have ok := cellsFrom_ok scope.names (H2.push { cls := .type "dict", data := .dict #[] }) (H2.objs.size + 1) [] ⟨fun _ _ hm => (nomatch hm), List.Pairwise.nil⟩ (by rw [Heap.size_push]; exact Nat.le_refl _)
  rw [Heap.size_push, hcell] at ok
  have hc0 := (ok.empty x (H2.objs.size + 1) (.head _)).1
  have kpc : ∀ b o, (H2.push { cls := .type "dict", data := .dict #[] }).get? b = some o → (pushCells (H2.push { cls := .type "dict", data := .dict #[] }) scope.names).get? b = some o := fun b o e => pushCells_keeps _ _ b o e
  have hns₁ : (pushCells (H2.push { cls := .type "dict", data := .dict #[] }) scope.names).Ns H2.objs.size (fun _ => none) := (Heap.Ns.new H2 (.type "dict")).keeps kpc
  generalize hH3 : pushCells (H2.push { cls := .type "dict", data := .dict #[] }) scope.names = h₁ at kpc hns₁ hc0
  rw [List.forIn_nil]
  refine wpAny_bind (wpAny_pure (wpAny_pure ?_))
  dsimp only
  rw [show ({ s₂ with heap := H2.push { cls := .type "dict", data := .dict #[] } } : Shared).heap.objs.size = H2.objs.size + 1 from Heap.size_push .., hcell]
  have old : ∀ b o, s₂.heap.get? b = some o → h₁.get? b = some o := fun b o e => kpc b o (Heap.get?_push_of_some _ (hH2 ▸ Heap.get?_push_of_some _ e))
  have hacc : h₁.get? s₂.heap.objs.size = some (lst []) := kpc _ _ (Heap.get?_push_of_some _ (hH2 ▸ Heap.get?_push_size _ rfl))
  have hst₁ : StI 0 h₁ := W.frame _ _ _ st0 fun b _ o e => old b o e
  have hCc : H2.objs.size ≠ H2.objs.size + 1 := Nat.ne_of_lt (Nat.lt_succ_self _)
  have hk2 : (compEnvC scope ((x, H2.objs.size + 1) :: cl) H2.objs.size env).cells.lookup x = some (H2.objs.size + 1) := by simp [compEnvC, List.lookup_cons]
  have loop : ∀ s₃ : Shared, s₃ = { s₂ with heap := h₁ } →
      codeAny (model prog w) A (.compLoop (.ListComp elt [⟨.Name x px, iter, [], 0⟩] scope pos) 0 (.ref I) (.ref s₂.heap.objs.size) (compEnvC scope ((x, H2.objs.size + 1) :: cl) H2.objs.size env)) (RR (.ref s₂.heap.objs.size) H2.objs.size) s₃ := by
    rintro s₃ rfl
    refine comp_loop (g := s₂.heap) (priv := [H2.objs.size, H2.objs.size + 1]) (cenv := compEnvC scope ((x, H2.objs.size + 1) :: cl) H2.objs.size env) F (fun h => (∃ m, h.Ns H2.objs.size m) ∧ ∃ v, h.IsCell (H2.objs.size + 1) v) (fun h v => Ld prog w A (compEnvC scope ((x, H2.objs.size + 1) :: cl) H2.objs.size env) h x v ∧ h.IsCell (H2.objs.size + 1) (some v)) W hsz hfp (fun b hb => ?_) ?_ ?_ ?_ hst₁ ⟨⟨_, hns₁⟩, _, hc0⟩ hacc (fun b o _ e => old b o e) ?_
    · rcases List.mem_cons.mp hb with rfl | hb
      · exact hgt
      · rw [List.mem_singleton.mp hb]; exact Nat.lt_succ_of_lt hgt
    · rintro h h' ⟨⟨m, hm⟩, v, o, ho, hv⟩ hk
      exact ⟨⟨m, hm.at' fun o e => hk _ (.head _) o e⟩, v, o, hk _ (.tail _ (.head _)) _ ho, hv⟩
    · rintro v s E Q ⟨⟨m, hm⟩, u, hu⟩ q
      refine wpAny_assign_Name (wpAny_storeName_cell (by simp [compEnvC, relabel, hkind]) hx hk2 hu (fun h₃ hc₃ hs₃ => ?_))
      refine q h₃ _ ⟨⟨m, hm.sameBut hs₃ hCc⟩, _, hc₃⟩ ⟨?_, hc₃⟩ (fun b o hb e => hs₃.extBut b o (fun q' => hb (by rw [q']; exact .tail _ (.head _))) e)
      intro pos s' E' Q' hs' hq'
      exact wpAny_Name (wpAny_loadName_cell (by simp [compEnvC, relabel, hkind]) hx hk2 (hc₃.keeps hs') hq') hd
    · exact fun i v h hi hP hk hl => helt _ _ i v h hi hP hk hl.1 hl.2
    · rintro h tk ys ⟨⟨m, hm⟩, _⟩ hD hl hF kp
      exact hRR _ h tk m ys (fresh_ge (Nat.le_of_lt hgt)) (Nat.ne_of_gt hgt) hm hD hl hF kp
  exact codeAny_compStart_list (loop _ rfl) (W.self 0 _ _ _ hst₁ (loop _ rfl))
end
end Mine
end
section
open PySem PySem.W PyProof.Rows PySem.Spec PySem.Calls PySem.Flt PySem.SeqAt
set_option Elab.async false
set_option maxRecDepth 100000
namespace Mine
open PyProof.Rows.LCg (lst lst_snoc)
section
variable (prog : Program) (w : World) (A : Around)
/-- a comprehension makes a new list of these ints, whatever is done with it -/
def CmpOk (env : Env) (elt iter : Expr) (x : Str) (px : Pos) (scope : Scope) (pos : Pos) (h : Heap) (xs : List Int) : Prop :=
  ∀ (s : Shared) (E Q : Value → Shared → Prop) (use : Option (Value → Sem Unit)) (p : Pos), Ext h s.heap →
    (∀ D vs C m h' tk, Ext s.heap h' → s.heap.get? D = none → s.heap.get? C = none → C ≠ D → h'.get? D = some (lst vs) → IntsAre vs xs → h'.Ns C m → compPost (model prog w) A E use Q (.ref D) C (.ok .next) { s with heap := h', toks := tk }) →
    wpAny (model prog w) A (comprehension (.ListComp elt [⟨.Name x px, iter, [], 0⟩] scope pos) scope env p (newList []) false (eval iter env) use) Q E s
end
section
variable (prog : Program) (w : World) (A : Around) (env : Env)
/-- an iterable that gives n items -/
def Src (iter : Expr) (h : Heap) (n : Nat) (P : Nat → Value → Prop) : Prop :=
  ∀ (s : Shared) (E K : Value → Shared → Prop), Ext h s.heap →
    (∀ I fp StI G tk, Walks prog w A I fp [I] n P StI → (∀ b ∈ fp, b < G.objs.size) → StI 0 G → Ext s.heap G → s.heap.get? I = none → K (.ref I) { s with heap := G, toks := tk }) →
    wpAny (model prog w) A (eval iter env) (fun xv s₁ => wpAny (model prog w) A (pyIter xv) K E s₁) E s
/-- an iterable whose iterator alone holds where it stands -/
def SrcR (iter : Expr) (h : Heap) (n : Nat) (P : Nat → Value → Prop) : Prop :=
  ∀ (s : Shared) (E K : Value → Shared → Prop), Ext h s.heap →
    (∀ I StI G tk, Walks prog w A I [I] [I] n P StI → I < G.objs.size → StI 0 G → Ext s.heap G → s.heap.get? I = none → (∀ i h, StI i h → ∃ o, h.get? I = some o) → K (.ref I) { s with heap := G, toks := tk }) →
    wpAny (model prog w) A (eval iter env) (fun xv s₁ => wpAny (model prog w) A (pyIter xv) K E s₁) E s
end
section
variable {prog : Program} {w : World} {A : Around} {env : Env} {h : Heap}
theorem SrcR.toSrc {iter : Expr} {n : Nat} {P : Nat → Value → Prop} (x : SrcR prog w A env iter h n P) : Src prog w A env iter h n P := fun s E K hs q => x s E K hs fun I StI G tk W hI st e hn _ =>
  q I [I] StI G tk W (fun b hb => by rw [List.mem_singleton.mp hb]; exact hI) st e hn
theorem ints_of {f : Nat → Int} : ∀ {n : Nat} {ys : List Value}, ys.length = n → (∀ (i : Nat) y, ys[i]? = some y → ∃ t, y = .int (f i) t) → IntsAre ys ((List.range n).map f)
  | n, ys, hl, hy => by
    induction n generalizing f ys with
    | zero =>
      rw [List.length_eq_zero_iff] at hl
      subst hl
      exact .nil
    | succ n ih =>
      cases ys with
      | nil => simp at hl
      | cons y r =>
        obtain ⟨t, rfl⟩ := hy 0 y rfl
        rw [List.range_succ_eq_map, List.map_cons, List.map_map]
        exact .cons _ t (ih (f := f ∘ Nat.succ) (ys := r) (by simpa using hl) (fun i z hz => hy (i + 1) z (by simpa using hz)))
theorem ints_of_list {g : Int → Int} : ∀ {xs : List Int} {ys : List Value}, ys.length = xs.length → (∀ (i : Nat) y, ys[i]? = some y → ∃ t, y = .int (g (xs.getD i 0)) t) → IntsAre ys (xs.map g)
  | [], ys, hl, hy => by
    rw [List.length_eq_zero_iff.mp hl]; exact .nil
  | a :: xs, [], hl, hy => by simp at hl
  | a :: xs, y :: ys, hl, hy => by
    obtain ⟨t, rfl⟩ := hy 0 y rfl
    exact .cons _ t (ints_of_list (by simpa using hl) fun i z hz => by simpa using hy (i + 1) z (by simpa using hz))

theorem SrcR.mk' {iter : Expr} {a b c : Int} {n : Nat} (hh : A.handled = none) (hsm : Builtin.Range.small a b c = true) (hn : Builtin.Range.rangeSize a b c = (n : Int))
    (k : ∀ (s : Shared) (E Q : Value → Shared → Prop), Ext h s.heap → (∀ r H tk t u v, IsRange H r a b c t u v → Ext s.heap H → Q (.ref r) { s with heap := H, toks := tk }) → wpAny (model prog w) A (eval iter env) Q E s) :
    SrcR prog w A env iter h n (fun i v => ∃ t, v = .int (a + (i : Int) * c) t) := by
  intro s E K hsh q
  refine k s _ _ hsh fun r H tk t u v hr e₁ => ?_
  refine wpAny_pyIter_range (s := { s with heap := H, toks := tk }) hr hsm ?_
  refine q _ _ _ _ (Walks.range (prog := prog) (w := w) (A := A) hh H.objs.size a c n) (by simp only [Heap.size_push]; exact Nat.lt_succ_self _) ?_ (e₁.trans (Ext.push _ _)) ?_ (fun i h st => ⟨_, st⟩)
  · show IsRangeIter _ _ _ _ _
    simp only [Int.natCast_zero, Int.zero_mul, Int.sub_zero, Int.add_zero, ← hn]
    exact Heap.get?_push_size _ rfl
  · cases e : s.heap.get? H.objs.size with
    | none => rfl
    | some o => exact absurd (Heap.lt_size (e₁ _ _ e)) (Nat.lt_irrefl _)
theorem SrcR.range {e : Expr} {r : Str} {rp rpos : Pos} {N : Int} (hh : A.handled = none) (lr : Ld prog w A env h r (.type "range")) (he : EvI prog w A env e h N) (hN : N ≤ 1000000) (hN0 : 0 ≤ N)
    (hse : starEach [e] env = [(false, eval e env)] := by rfl) :
    SrcR prog w A env (.Call (.Name r rp) [e] [] rpos) h N.toNat (fun i v => ∃ t, v = .int (i : Int) t) := by
  have := SrcR.mk' (prog := prog) (w := w) (A := A) (env := env) (h := h) (iter := .Call (.Name r rp) [e] [] rpos) (a := 0) (b := N) (c := 1) (n := N.toNat) hh (small_one (by decide) (by decide) (by omega) (by omega)) (by rw [rangeSize_one]; split <;> omega) (fun s E Q hsh q => by
    refine wpAny_Call_NameR (lr _ s _ _ hsh ?_)
    rw [hse]
    refine callWith_type1 (he s _ _ hsh fun v h₁ tk₁ e₁ ⟨t, ht⟩ => ?_)
    subst ht
    exact call_range_1 (q _ _ _ _ _ _ (IsRange.new ..) (e₁.trans (Ext.push _ _))))
  simpa only [Int.zero_add, Int.mul_one] using this
theorem SrcR.range2 {e₁ e₂ : Expr} {r : Str} {rp rpos : Pos} {a b : Int} (hh : A.handled = none) (lr : Ld prog w A env h r (.type "range")) (he₁ : EvI prog w A env e₁ h a) (he₂ : EvI prog w A env e₂ h b) (hab : -1000000 ≤ a ∧ a ≤ b ∧ b ≤ 1000000)
    (hse : backTo rpos (starEach [e₁, e₂] env) = [(false, eval e₁ env), (false, eval e₂ env)] := by rfl) :
    SrcR prog w A env (.Call (.Name r rp) [e₁, e₂] [] rpos) h (b - a).toNat (fun i v => ∃ t, v = .int (a + (i : Int)) t) := by
  have := SrcR.mk' (prog := prog) (w := w) (A := A) (env := env) (h := h) (iter := .Call (.Name r rp) [e₁, e₂] [] rpos) (a := a) (b := b) (c := 1) (n := (b - a).toNat) hh (small_one (by omega) (by omega) (by omega) (by omega)) (by rw [rangeSize_one]; split <;> omega) (fun s E Q hsh q => by
    refine wpAny_Call_NameR (lr _ s _ _ hsh ?_)
    rw [hse]
    refine PySem.callWith_type rfl (Calls.evalArgs_plain (Calls.spliced_cons (he₁ s _ _ hsh fun v h₁ tk₁ e₁ ⟨t, ht⟩ => ?_)))
    subst ht
    refine Calls.spliced_cons (he₂ _ _ _ (hsh.trans e₁) fun v h₂ tk₂ e₂ ⟨u, hu⟩ => ?_)
    subst hu
    refine Calls.spliced_nil ?_
    exact call_range_2 (q _ _ _ _ _ _ (IsRange.new ..) ((e₁.trans e₂).trans (Ext.push _ _))))
  simpa only [Int.mul_one] using this
theorem SrcR.range3 {e₁ e₂ e₃ : Expr} {r : Str} {rp rpos : Pos} {a b c : Int} {n : Nat} (hh : A.handled = none) (lr : Ld prog w A env h r (.type "range")) (he₁ : EvI prog w A env e₁ h a) (he₂ : EvI prog w A env e₂ h b) (he₃ : EvI prog w A env e₃ h c)
    (hc : c ≠ 0) (hc' : c.natAbs < 1073741824) (hsm : Builtin.Range.small a b c = true) (hn : Builtin.Range.rangeSize a b c = (n : Int))
    (hse : backTo rpos (starEach [e₁, e₂, e₃] env) = [(false, eval e₁ env), (false, eval e₂ env), (false, eval e₃ env)] := by rfl) :
    SrcR prog w A env (.Call (.Name r rp) [e₁, e₂, e₃] [] rpos) h n (fun i v => ∃ t, v = .int (a + (i : Int) * c) t) :=
  SrcR.mk' hh hsm hn (fun s E Q hsh q => by
    refine wpAny_Call_NameR (lr _ s _ _ hsh ?_)
    rw [hse]
    refine PySem.callWith_type rfl (Calls.evalArgs_plain (Calls.spliced_cons (he₁ s _ _ hsh fun v h₁ tk₁ e₁ ⟨t, ht⟩ => ?_)))
    subst ht
    refine Calls.spliced_cons (he₂ _ _ _ (hsh.trans e₁) fun v h₂ tk₂ e₂ ⟨u, hu⟩ => ?_)
    subst hu
    refine Calls.spliced_cons (he₃ _ _ _ ((hsh.trans e₁).trans e₂) fun v h₃ tk₃ e₃ ⟨u', hu'⟩ => ?_)
    subst hu'
    refine Calls.spliced_nil ?_
    exact call_range_3 hc (q _ _ _ _ _ _ (IsRange.new ..) (((e₁.trans e₂).trans e₃).trans (Ext.push _ _))) (Or.inl (PyProof.noPylong_small hc')))
theorem intsAre_get : ∀ {vs : List Value} {xs : List Int}, IntsAre vs xs → ∀ (i : Nat) v, vs[i]? = some v → ∃ t, v = .int (xs.getD i 0) t
  | _, _, .nil, i, v, h => by simp at h
  | _, _, .cons n t r, 0, v, h => by simp at h; exact ⟨t, by simp [← h]⟩
  | _, _, .cons n t r, i + 1, v, h => by simpa using intsAre_get r i v (by simpa using h)
theorem Src.list {e : Expr} {xs : List Int} (hh : A.handled = none) (he : EvL prog w A env e h xs) :
    Src prog w A env e h xs.length (fun i v => ∃ t, v = .int (xs.getD i 0) t) := by
  intro s E K hsh q
  refine he s _ _ hsh fun v h₁ tk₁ e₁ ⟨l, vs, hv, hl, hi⟩ => ?_
  subst hv
  have hlt : l < h₁.objs.size := by obtain ⟨_, e, _⟩ := hl; exact Heap.lt_size e
  refine wpAny_pyIter_list (s := { s with heap := h₁, toks := tk₁ }) hl ?_
  have W := Walks.list (prog := prog) (w := w) (A := A) hh h₁.objs.size l (Nat.ne_of_lt hlt) vs.toArray
  have W' : Walks prog w A h₁.objs.size [h₁.objs.size, l] [h₁.objs.size] xs.length (fun i v => ∃ t, v = .int (xs.getD i 0) t) (fun i h => h.IsListIter h₁.objs.size l i ∧ h.IsList l vs.toArray) := by
    have hsz : vs.toArray.size = xs.length := by rw [List.size_toArray, hi.length]
    rw [hsz] at W
    exact { sub := W.sub, frame := W.frame, done := W.done, self := W.self, item := fun i s Q E h1 st hQ => W.item i s Q E h1 st fun v h' tk hP => hQ v h' tk (intsAre_get hi i v (by simpa using hP)) }
  refine q _ _ _ _ _ W' (fun b hb => ?_) ⟨⟨_, Heap.get?_push_size _ rfl, rfl, rfl⟩, hl.push _⟩ (e₁.trans (Ext.push _ _)) ?_
  · rw [Heap.size_push]
    rcases List.mem_cons.mp hb with rfl | hb
    · exact Nat.lt_succ_self _
    · rw [List.mem_singleton.mp hb]; exact Nat.lt_succ_of_lt hlt
  · cases e : s.heap.get? h₁.objs.size with
    | none => rfl
    | some o => exact absurd (Heap.lt_size (e₁ _ _ e)) (Nat.lt_irrefl _)
theorem CmpOk.of {elt iter : Expr} {x : Str} {px pos : Pos} {scope : Scope} {cl : List (Str × Addr)} {n : Nat} {P : Nat → Value → Prop} {xs : List Int} (F : Nat → Value → Prop)
    (hsrc : Src prog w A env iter h n P) (hn : n ≤ 1000000)
    (helt : ∀ C (i : Nat) v h₁, i < n → P i v → Ext h h₁ → Ld prog w A (compEnvC scope cl C env) h₁ x v → Ev prog w A (compEnvC scope cl C env) elt h₁ (fun y _ _ => F i y))
    (hxs : ∀ ys : List Value, ys.length = n → (∀ (i : Nat) y, ys[i]? = some y → F i y) → IntsAre ys xs)
    (hclos : closureFor scope env = pure cl) (hcell : ∀ y ∈ scope.names, y.2 ≠ .cell) (hkind : scope.kind = .function)
    (hnames : ∀ y ∈ scope.names, y.2 = .local → scope.names.lookup y.1 = some .local) (hx : scope.names.lookup x = some .local) (hd : (x == ("__debug__" : Str)) = false)
    (hs : ∀ x, foldedSetIterable iter env x = pure x) :
    CmpOk prog w A env elt iter x px scope pos h xs := by
  intro s E Q use p hsh q
  refine wpAny_comprehension_free (use := use) rfl hs hclos hkind hnames ?_
  refine hsrc s _ _ hsh fun I fp StI G tk W hfp st eG hI => ?_
  have fromI : ∀ h', ExtI I G h' → Ext s.heap h' := fun h' k b o eb => k b o (fun q => by rw [q, hI] at eb; cases eb) (eG b o eb)
  have fr : ∀ a, G.get? a = none → s.heap.get? a = none := fun a ha => by
    cases e : s.heap.get? a with
    | none => rfl
    | some o => rw [eG _ _ e] at ha; cases ha
  refine comp_block (s₂ := { s with heap := G, toks := tk }) (env := env) (cl := cl) F W (Nat.le_trans hn (by rw [sizeLine_eq]; decide)) hfp hcell hkind hx hd st ?_ ?_
  · exact fun C i v h' hi hP k l => helt C i v h' hi hP (hsh.trans (fromI h' k)) l
  · intro C h' tk m' ys hC hCD hns hD hl hF k
    exact q _ ys C m' h' tk (fromI h' k) (fr _ (fresh_ge (Nat.le_refl _))) (fr _ hC) hCD hD (hxs ys hl hF) hns
theorem CmpOk.ofC {elt iter : Expr} {x : Str} {px pos : Pos} {scope : Scope} {cl : List (Str × Addr)} {n : Nat} {P : Nat → Value → Prop} {xs : List Int} (F : Nat → Value → Prop)
    (hsrc : Src prog w A env iter h n P) (hn : n ≤ 1000000)
    (helt : ∀ C c (i : Nat) v h₁, i < n → P i v → Ext h h₁ → Ld prog w A (compEnvC scope ((x, c) :: cl) C env) h₁ x v → h₁.IsCell c (some v) → Ev prog w A (compEnvC scope ((x, c) :: cl) C env) elt h₁ (fun y _ _ => F i y))
    (hxs : ∀ ys : List Value, ys.length = n → (∀ (i : Nat) y, ys[i]? = some y → F i y) → IntsAre ys xs)
    (hclos : closureFor scope env = pure cl) (hcell : ∀ k acc, cellsFrom k scope.names acc = (x, k) :: acc) (hkind : scope.kind = .function)
    (hnames : ∀ y ∈ scope.names, y.2 = .local → scope.names.lookup y.1 = some .local) (hx : (relabel scope env).names.lookup x = some .cell) (hd : (x == ("__debug__" : Str)) = false)
    (hs : ∀ x, foldedSetIterable iter env x = pure x) :
    CmpOk prog w A env elt iter x px scope pos h xs := by
  intro s E Q use p hsh q
  refine wpAny_comprehension_free (use := use) rfl hs hclos hkind hnames ?_
  refine hsrc s _ _ hsh fun I fp StI G tk W hfp st eG hI => ?_
  have fromI : ∀ h', ExtI I G h' → Ext s.heap h' := fun h' k b o eb => k b o (fun q => by rw [q, hI] at eb; cases eb) (eG b o eb)
  have fr : ∀ a, G.get? a = none → s.heap.get? a = none := fun a ha => by
    cases e : s.heap.get? a with
    | none => rfl
    | some o => rw [eG _ _ e] at ha; cases ha
  refine comp_blockC (s₂ := { s with heap := G, toks := tk }) (env := env) (cl := cl) F W (Nat.le_trans hn (by rw [sizeLine_eq]; decide)) hfp hcell hkind hx hd st ?_ ?_
  · exact fun C c i v h' hi hP k l l' => helt C c i v h' hi hP (hsh.trans (fromI h' k)) l l'
  · intro C h' tk m' ys hC hCD hns hD hl hF k
    exact q _ ys C m' h' tk (fromI h' k) (fr _ (fresh_ge (Nat.le_refl _))) (fr _ hC) hCD hD (hxs ys hl hF) hns
/-- over a range -/
theorem CmpOk.range {elt iter : Expr} {x : Str} {px pos : Pos} {scope : Scope} {cl : List (Str × Addr)} {n : Nat} (f : Nat → Int)
    (hsrc : Src prog w A env iter h n (fun i v => ∃ t, v = .int (i : Int) t)) (hn : n ≤ 1000000)
    (helt : ∀ C (i : Nat) t h₁, i < n → Ext h h₁ → Ld prog w A (compEnvC scope cl C env) h₁ x (.int i t) → EvI prog w A (compEnvC scope cl C env) elt h₁ (f i))
    (hclos : closureFor scope env = pure cl := by rfl) (hcell : ∀ y ∈ scope.names, y.2 ≠ .cell := by decide) (hkind : scope.kind = .function := by rfl)
    (hnames : ∀ y ∈ scope.names, y.2 = .local → scope.names.lookup y.1 = some .local := by decide) (hx : scope.names.lookup x = some .local := by rfl) (hd : (x == ("__debug__" : Str)) = false := by decide)
    (hs : ∀ x, foldedSetIterable iter env x = pure x := by intro _; rfl) :
    CmpOk prog w A env elt iter x px scope pos h ((List.range n).map f) :=
  CmpOk.of (fun i y => ∃ t, y = .int (f i) t) hsrc hn (fun C i v h₁ hi ⟨t, ht⟩ e l => helt C i t h₁ hi e (ht ▸ l)) (fun _ => ints_of) hclos hcell hkind hnames hx hd hs
theorem CmpOk.rangeC {elt iter : Expr} {x : Str} {px pos : Pos} {scope : Scope} {cl : List (Str × Addr)} {n : Nat} (f : Nat → Int)
    (hsrc : Src prog w A env iter h n (fun i v => ∃ t, v = .int (i : Int) t)) (hn : n ≤ 1000000)
    (helt : ∀ C c (i : Nat) t h₁, i < n → Ext h h₁ → Ld prog w A (compEnvC scope ((x, c) :: cl) C env) h₁ x (.int i t) → h₁.IsCell c (some (.int i t)) → EvI prog w A (compEnvC scope ((x, c) :: cl) C env) elt h₁ (f i))
    (hclos : closureFor scope env = pure cl := by rfl) (hcell : ∀ k acc, cellsFrom k scope.names acc = (x, k) :: acc := by intro _ _; rfl) (hkind : scope.kind = .function := by rfl)
    (hnames : ∀ y ∈ scope.names, y.2 = .local → scope.names.lookup y.1 = some .local := by decide) (hx : (relabel scope env).names.lookup x = some .cell := by rfl) (hd : (x == ("__debug__" : Str)) = false := by decide)
    (hs : ∀ x, foldedSetIterable iter env x = pure x := by intro _; rfl) :
    CmpOk prog w A env elt iter x px scope pos h ((List.range n).map f) :=
  CmpOk.ofC (fun i y => ∃ t, y = .int (f i) t) hsrc hn (fun C c i v h₁ hi ⟨t, ht⟩ e l l' => helt C c i t h₁ hi e (ht ▸ l) (ht ▸ l')) (fun _ => ints_of) hclos hcell hkind hnames hx hd hs
/-- over a list of ints -/
theorem CmpOk.list {elt iter : Expr} {x : Str} {px pos : Pos} {scope : Scope} {cl : List (Str × Addr)} {xs : List Int} (g : Int → Int)
    (hsrc : Src prog w A env iter h xs.length (fun i v => ∃ t, v = .int (xs.getD i 0) t)) (hn : xs.length ≤ 1000000)
    (helt : ∀ C z t h₁, z ∈ xs → Ext h h₁ → Ld prog w A (compEnvC scope cl C env) h₁ x (.int z t) → EvI prog w A (compEnvC scope cl C env) elt h₁ (g z))
    (hclos : closureFor scope env = pure cl := by rfl) (hcell : ∀ y ∈ scope.names, y.2 ≠ .cell := by decide) (hkind : scope.kind = .function := by rfl)
    (hnames : ∀ y ∈ scope.names, y.2 = .local → scope.names.lookup y.1 = some .local := by decide) (hx : scope.names.lookup x = some .local := by rfl) (hd : (x == ("__debug__" : Str)) = false := by decide)
    (hs : ∀ x, foldedSetIterable iter env x = pure x := by intro _; rfl) :
    CmpOk prog w A env elt iter x px scope pos h (xs.map g) :=
  CmpOk.of (fun i y => ∃ t, y = .int (g (xs.getD i 0)) t) hsrc hn (fun C i v h₁ hi ⟨t, ht⟩ e l => helt C _ t h₁ (by
    rw [List.getD_eq_getElem?_getD, List.getElem?_eq_getElem hi, Option.getD_some]; exact List.getElem_mem hi) e (ht ▸ l)) (fun _ => ints_of_list) hclos hcell hkind hnames hx hd hs
theorem EvN.comp {elt iter : Expr} {x : Str} {px pos : Pos} {scope : Scope} {xs : List Int} (c : CmpOk prog w A env elt iter x px scope pos h xs) :
    EvN prog w A env (.ListComp elt [⟨.Name x px, iter, [], 0⟩] scope pos) h xs := fun s E Q hs q => by
  rw [eval_ListComp]
  refine c s E Q none _ hs fun D vs C m h' tk e hD hC hCD hl hi hns => ⟨m, hns, fun h'' hs'' => ?_⟩
  refine q (.ref D) h'' tk (fun b o eb => hs''.extBut b o (fun q => by rw [q, hC] at eb; cases eb) (e b o eb)) ⟨D, vs, vs.length, rfl, hD, hs''.extBut _ _ (Ne.symm hCD) hl, hi⟩
theorem Assign_comp {elt iter : Expr} {x y : Str} {px py pos spos : Pos} {scope : Scope} {xs : List Int} {s : Shared} {E : Value → Shared → Prop} {Q : Flow → Shared → Prop}
    (c : CmpOk prog w A env elt iter x px scope pos h xs) (hs : Ext h s.heap)
    (hsw : swapsWith (.ListComp elt [⟨.Name x px, iter, [], 0⟩] scope pos) (some (.Name y py)) spos.line env = pure true)
    (k : ∀ D vs h' tk C, Ext s.heap h' → s.heap.get? D = none → s.heap.get? C = none → C ≠ D → h'.get? D = some (lst vs) → IntsAre vs xs →
      wpAny (model prog w) A (storeName env y (.ref D)) (fun _ s'' => (∀ m, h'.Ns C m → ∃ m', s''.heap.Ns C m') ∧ ∀ h'', Heap.SameBut C s''.heap h'' → Q .next { s'' with heap := h'' }) E { s with heap := h', toks := tk }) :
    wpAny (model prog w) A (exec (.Assign [.Name y py] (.ListComp elt [⟨.Name x px, iter, [], 0⟩] scope pos) spos) env) Q E s := by
  rw [exec_Assign_Name_used _ _ _ _ hsw]
  refine wpAny_bind (wpAny_standAt (wpAny_bind ?_))
  show wpAny _ A (do let _ ← comprehension (.ListComp elt [⟨.Name x px, iter, [], 0⟩] scope pos) scope env _ (newList []) false (eval iter env) (some (assign (.Name y py) env))) _ _ s
  refine wpAny_bind (wpAny_mono (c s E (fun _ s' => Q .next s') (some (assign (.Name y py) env)) _ hs fun D vs C m h' tk e hD hC hCD hl hi hns => ?_) (fun _ s' hq => wpAny_pure (wpAny_pure hq)) fun _ _ e => e)
  show wpAny _ A (assign (.Name y py) env (.ref D)) _ _ _
  refine wpAny_assign_Name (wpAny_mono (k D vs h' tk C e hD hC hCD hl hi) (fun _ s'' hq => ?_) fun _ _ e => e)
  obtain ⟨m', hm'⟩ := hq.1 m hns
  exact ⟨m', hm', fun h'' hs'' => hq.2 h'' hs''⟩
end
end Mine
end
section
open PySem PySem.W PyProof.Rows PySem.Spec PySem.Calls PySem.Flt PySem.SeqAt
set_option Elab.async false
set_option maxRecDepth 100000
namespace Mine
open PyProof.Rows.LCg (lst lst_snoc)
/-- a def's frame: what its names hold (locals and cells alike), and new objects that are known -/
structure St (g : Heap) (ev : Env) (h : Heap) (V : Str → Option Value) (ob : List (Addr × Obj)) : Prop where
  keep : Ext g h
  above : g.objs.size ≤ ev.locals
  ns : ∃ m, h.Ns ev.locals m ∧ ∀ x, ev.kindOf x = some .local → m x = V x
  cell : ∀ x c, ev.cells.lookup x = some c → h.IsCell c (V x) ∧ ev.locals < c
  apart : ev.cells.Pairwise fun x y => x.2 ≠ y.2
  obs : ∀ p ∈ ob, h.get? p.1 = some p.2 ∧ p.1 ≠ ev.locals ∧ (∀ x c, ev.cells.lookup x = some c → p.1 ≠ c) ∧ g.get? p.1 = none
  nd : (ob.map Prod.fst).Nodup
abbrev upd (V : Str → Option Value) (x : Str) (v : Value) : Str → Option Value := fun y => if y = x then some v else V y
theorem upd_self {V : Str → Option Value} {x : Str} {v : Value} : upd V x v x = some v := by simp [upd]
theorem upd_ne {V : Str → Option Value} {x y : Str} {v : Value} (h : (y == x) = false) : upd V x v y = V y := by
  have : y ≠ x := fun e => by simp [e] at h
  simp [upd, this]
section
variable {g h h' : Heap} {ev : Env} {V : Str → Option Value} {ob : List (Addr × Obj)}
theorem St.ext (S : St g ev h V ob) (e : Ext h h') : St g ev h' V ob :=
  ⟨S.keep.trans e, S.above, let ⟨m, a, b⟩ := S.ns; ⟨m, a.keeps e, b⟩, fun x c hc => ⟨(S.cell x c hc).1.keeps e, (S.cell x c hc).2⟩, S.apart, fun p hp => ⟨e _ _ (S.obs p hp).1, (S.obs p hp).2⟩, S.nd⟩
theorem St.add (S : St g ev h V ob) (e : Ext h h') {d : Addr} {o : Obj} (hd : h.get? d = none) (ho : h'.get? d = some o) : St g ev h' V ((d, o) :: ob) := by
  have S' := S.ext e
  refine ⟨S'.keep, S'.above, S'.ns, S'.cell, S'.apart, fun p hp => ?_, ?_⟩
  · rcases List.mem_cons.mp hp with rfl | hp
    · refine ⟨ho, ?_, ?_, ?_⟩
      · rintro rfl
        obtain ⟨m, ⟨_, _, _, x, _⟩, _⟩ := S.ns
        exact absurd (hd.symm.trans x) nofun
      · rintro x c hc rfl
        obtain ⟨⟨_, y, _⟩, _⟩ := S.cell x _ hc
        exact absurd (hd.symm.trans y) nofun
      · cases q : g.get? d with
        | none => rfl
        | some o' => have := S.keep _ _ q; rw [hd] at this; cases this
    · exact S'.obs p hp
  · rw [List.map_cons, List.nodup_cons]
    refine ⟨fun hm => ?_, S.nd⟩
    obtain ⟨p, hp, e1⟩ := List.mem_map.mp hm
    have := (S.obs p hp).1
    rw [e1, hd] at this; cases this
theorem St.sub (S : St g ev h V ob) {ob' : List (Addr × Obj)} (hs : ∀ p ∈ ob', p ∈ ob) (nd : (ob'.map Prod.fst).Nodup) : St g ev h V ob' :=
  ⟨S.keep, S.above, S.ns, S.cell, S.apart, fun p hp => S.obs p (hs p hp), nd⟩
theorem St.drop (S : St g ev h V ob) {ob' : List (Addr × Obj)} (hs : ob'.Sublist ob) : St g ev h V ob' := S.sub (fun _ hp => hs.subset hp) ((hs.map _).nodup S.nd)
theorem St.get (S : St g ev h V ob) {d : Addr} {o : Obj} (hm : (d, o) ∈ ob) : h.get? d = some o := (S.obs _ hm).1
theorem St.isList (S : St g ev h V ob) {d : Addr} {its : Array Value} {n : Nat} (hm : (d, ({ cls := .type "list", data := .seq its n } : Obj)) ∈ ob) : h.IsList d its := ⟨_, S.get hm, rfl, n, rfl⟩
theorem St.fr (S : St g ev h V ob) : ∃ m, Fr g ev.locals h m := let ⟨m, a, _⟩ := S.ns; ⟨m, a, S.keep, S.above⟩
theorem St.news (S : St g ev h V ob) : News g ev.locals h ob := fun p hp => ⟨(S.obs p hp).1, (S.obs p hp).2.1, (S.obs p hp).2.2.2⟩
variable {prog : Program} {w : World} {A : Around}
theorem St.ld (S : St g ev h V ob) {x : Str} {v : Value} (hv : V x = some v) (hk : ev.scope.kind = .function) (hx : ev.kindOf x = some .local) (hd : (x == ("__debug__" : Str)) = false := by decide) : Ld prog w A ev h x v := by
  intro pos s E Q hs q
  obtain ⟨m, a, b⟩ := S.ns
  exact wpAny_Name (wpAny_loadName_local hk hx (a.keeps hs) ((b x hx).trans hv) q) hd
theorem St.ldc (S : St g ev h V ob) {x : Str} {v : Value} {c : Addr} (hv : V x = some v) (hk : ev.scope.kind = .function) (hx : ev.kindOf x = some .cell) (hc : ev.cells.lookup x = some c) (hd : (x == ("__debug__" : Str)) = false := by decide) : Ld prog w A ev h x v := by
  intro pos s E Q hs q
  have := (S.cell x c hc).1
  rw [hv] at this
  exact wpAny_Name (wpAny_loadName_cell hk hx hc (this.keeps hs) q) hd
/-- a name of the def's cells within a comprehension of it -/
theorem Ld_cell {e : Env} {x : Str} {v : Value} {c : Addr} (y : h.IsCell c (some v)) (hk : e.scope.kind = .function) (hx : e.kindOf x = some .cell) (hc : e.cells.lookup x = some c) (hd : (x == ("__debug__" : Str)) = false := by decide) : Ld prog w A e h x v := by
  intro pos s E Q hs q
  exact wpAny_Name (wpAny_loadName_cell hk hx hc (y.keeps hs) q) hd
theorem Ld_free {e : Env} {x : Str} {v : Value} {c : Addr} (y : h.IsCell c (some v)) (hk : e.scope.kind = .function) (hx : e.kindOf x = some .free) (hc : e.cells.lookup x = some c) (hd : (x == ("__debug__" : Str)) = false := by decide)
    (hn : (x == ("__classdict__" : Str)) = false := by decide) : Ld prog w A e h x v := by
  intro pos s E Q hs q
  exact wpAny_Name (wpAny_loadName_free hk hx hc (y.keeps hs) q hn) hd
theorem St.isCell (S : St g ev h V ob) {x : Str} {v : Value} {c : Addr} (hv : V x = some v) (hc : ev.cells.lookup x = some c) : h.IsCell c (some v) := hv ▸ (S.cell x c hc).1
/-- a cell of the def's, read within a comprehension -/
theorem St.ldk (S : St g ev h V ob) {e : Env} {x : Str} {v : Value} {c : Addr} (hv : V x = some v) (hc : ev.cells.lookup x = some c) (hk : e.scope.kind = .function) (hx : e.kindOf x = some .cell) (hc' : e.cells.lookup x = some c)
    (hd : (x == ("__debug__" : Str)) = false := by decide) : Ld prog w A e h x v := Ld_cell (S.isCell hv hc) hk hx hc' hd
theorem Ld_built {K : Frag} {p : Program} {loose : List Str} {mean : ExcName → Option Value} {mg mb : Str → Option Value} {e : Env} {x : Str} {v : Value} (T : Top p loose mean mg mb h) (X : K.In h)
    (e1 : nsIn K mainGlobals x = some none) (hv : bootBuiltins x = some v) (hn : x ≠ "__name__") (hg : e.globals = mainGlobals) (hb : e.builtins = builtinsNs) (hk : e.scope.kind = .function) (hx : e.kindOf x = some .globalImplicit)
    (hd : (x == ("__debug__" : Str)) = false := by decide) : Ld prog w A e h x v := by
  intro pos s E Q hs q
  exact Name_function_global hk hx (loadGlobal_builtin (env := e) (show s.heap.Ns e.globals mg from hg ▸ (T.keeps hs).g) (mg_none_of X T.g e1) (show s.heap.Ns e.builtins mb from hb ▸ (T.keeps hs).b) ((T.builtins x hn).trans hv) q) hd
theorem Ld_global {K : Frag} {p : Program} {loose : List Str} {mean : ExcName → Option Value} {mg mb : Str → Option Value} {e : Env} {x : Str} {v : Value} (T : Top p loose mean mg mb h) (X : K.In h)
    (e1 : nsIn K mainGlobals x = some (some v)) (hg : e.globals = mainGlobals) (hk : e.scope.kind = .function) (hx : e.kindOf x = some .globalImplicit)
    (hd : (x == ("__debug__" : Str)) = false := by decide) : Ld prog w A e h x v := by
  intro pos s E Q hs q
  exact Name_function_global hk hx (loadGlobal_global (env := e) (show s.heap.Ns e.globals mg from hg ▸ (T.keeps hs).g) (mg_of X T.g e1) q) hd
/-- a store into a name, local or cell -/
theorem St.store {s : Shared} {E : Value → Shared → Prop} {Q : Unit → Shared → Prop} {x : Str} {v : Value} (S : St g ev s.heap V ob) (hk : ev.scope.kind = .function)
    (hx : (ev.kindOf x = some .local ∧ ev.cells.lookup x = none) ∨ (ev.kindOf x = some .cell ∧ ∃ c, ev.cells.lookup x = some c))
    (q : ∀ h' tk, St g ev h' (upd V x v) ob → (∀ b o, b ≠ ev.locals → (∀ c, ev.cells.lookup x = some c → b ≠ c) → s.heap.get? b = some o → h'.get? b = some o) → (∀ C, C ≠ ev.locals → (∀ c, ev.cells.lookup x = some c → C ≠ c) → ∀ m, s.heap.Ns C m → h'.Ns C m) → Q () { s with heap := h', toks := tk }) :
    wpAny (model prog w) A (storeName ev x v) Q E s := by
  have gL : g.get? ev.locals = none := Heap.get?_none_of_le S.above
  rcases hx with ⟨hl, hn⟩ | ⟨hc, c, hl⟩
  · obtain ⟨m, a, b⟩ := S.ns
    refine wpAny_storeName_local hl a (fun h' hn' hs' => ?_) (by rw [hk]; rfl)
    have kp : ∀ b o, b ≠ ev.locals → s.heap.get? b = some o → h'.get? b = some o := fun b o hb e => hs'.extBut b o hb e
    refine q h' _ ⟨fun b o e => kp b o (fun q => by rw [q, gL] at e; cases e) (S.keep b o e), S.above, ⟨_, hn', fun y hy => ?_⟩, fun y c hc => ?_, S.apart, fun p hp => ⟨kp _ _ (S.obs p hp).2.1 (S.obs p hp).1, (S.obs p hp).2⟩, S.nd⟩ (fun b o hb _ e => kp b o hb e) (fun C hC _ m hm => hm.at' fun o e => kp _ o hC e)
    · simp only [upd]
      split
      · rfl
      · exact b y hy
    · have : y ≠ x := by rintro rfl; rw [hn] at hc; cases hc
      have z := S.cell y c hc
      simp only [upd, if_neg this]
      exact ⟨z.1.sameBut hs' (Nat.ne_of_gt z.2), z.2⟩
  · have z := S.cell x c hl
    refine wpAny_storeName_cell hk hc hl z.1 fun h' hv' hs' => ?_
    have kp : ∀ b o, b ≠ c → s.heap.get? b = some o → h'.get? b = some o := fun b o hb e => hs'.extBut b o hb e
    have gc : g.get? c = none := Heap.get?_none_of_le (Nat.le_of_lt (Nat.lt_of_le_of_lt S.above z.2))
    refine q h' _ ⟨fun b o e => kp b o (fun q => by rw [q, gc] at e; cases e) (S.keep b o e), S.above, ?_, fun y c' hc' => ?_, S.apart, fun p hp => ⟨kp _ _ ((S.obs p hp).2.2.1 x c hl) (S.obs p hp).1, (S.obs p hp).2⟩, S.nd⟩ (fun b o _ hb e => kp b o (hb c hl) e) (fun C _ hC m hm => hm.at' fun o e => kp _ o (hC c hl) e)
    · obtain ⟨m, a, b⟩ := S.ns
      refine ⟨m, a.sameBut hs' (Nat.ne_of_lt z.2), fun y hy => ?_⟩
      have : y ≠ x := by rintro rfl; rw [hc] at hy; cases hy
      simp only [upd, if_neg this]
      exact b y hy
    · by_cases e : y = x
      · subst e
        rw [hl] at hc'; cases hc'
        simp only [upd, if_true]
        exact ⟨hv', z.2⟩
      · have z' := S.cell y c' hc'
        simp only [upd, if_neg e]
        exact ⟨z'.1.sameBut hs' fun q => e (name_of_addr S.apart (mem_of_lookup hc') (q ▸ mem_of_lookup hl)), z'.2⟩
abbrev Stores (ev : Env) (x : Str) : Prop := (ev.kindOf x = some .local ∧ ev.cells.lookup x = none) ∨ (ev.kindOf x = some .cell ∧ ∃ c, ev.cells.lookup x = some c)
theorem St.assign_int {s : Shared} {E : Value → Shared → Prop} {Q : Flow → Shared → Prop} {x : Str} {px pos : Pos} {e : Expr} {i : Int} (S : St g ev s.heap V ob) (hk : ev.scope.kind = .function) (hx : Stores ev x)
    (he : EvI prog w A ev e s.heap i) (q : ∀ h' tk t, St g ev h' (upd V x (.int i t)) ob → Q .next { s with heap := h', toks := tk })
    (hs : swapsWith e (some (.Name x px)) pos.line ev = pure false := by rfl) : wpAny (model prog w) A (exec (.Assign [.Name x px] e pos) ev) Q E s :=
  wpAny_Assign_Name (he s _ _ (Ext.refl _) fun v h₁ tk₁ e₁ ⟨t, ht⟩ => by
    subst ht
    exact St.store (s := { s with heap := h₁, toks := tk₁ }) (S.ext e₁) hk hx fun h' tk S' _ _ => q h' tk t S') hs
theorem St.assign_new {s : Shared} {E : Value → Shared → Prop} {Q : Flow → Shared → Prop} {x : Str} {px pos : Pos} {e : Expr} {xs : List Int} (S : St g ev s.heap V ob) (hk : ev.scope.kind = .function) (hx : Stores ev x)
    (he : EvN prog w A ev e s.heap xs) (q : ∀ h' tk D vs n, IntsAre vs xs → St g ev h' (upd V x (.ref D)) ((D, { cls := .type "list", data := .seq vs.toArray n }) :: ob) → Q .next { s with heap := h', toks := tk })
    (hs : swapsWith e (some (.Name x px)) pos.line ev = pure false := by rfl) : wpAny (model prog w) A (exec (.Assign [.Name x px] e pos) ev) Q E s :=
  wpAny_Assign_Name (he s _ _ (Ext.refl _) fun v h₁ tk₁ e₁ ⟨D, vs, n, hv, hD, hl, hi⟩ => by
    subst hv
    exact St.store (s := { s with heap := h₁, toks := tk₁ }) (S.add e₁ hD hl) hk hx fun h' tk S' _ _ => q h' tk D vs n hi S') hs
theorem St.assign_comp {elt iter : Expr} {x y : Str} {px py pos spos : Pos} {scope : Scope} {xs : List Int} {s : Shared} {E : Value → Shared → Prop} {Q : Flow → Shared → Prop} (S : St g ev s.heap V ob) (hk : ev.scope.kind = .function) (hx : Stores ev y)
    (c : CmpOk prog w A ev elt iter x px scope pos s.heap xs) (q : ∀ h' tk D vs n, IntsAre vs xs → St g ev h' (upd V y (.ref D)) ((D, { cls := .type "list", data := .seq vs.toArray n }) :: ob) → Q .next { s with heap := h', toks := tk })
    (hsw : swapsWith (.ListComp elt [⟨.Name x px, iter, [], 0⟩] scope pos) (some (.Name y py)) spos.line ev = pure true := by rfl) :
    wpAny (model prog w) A (exec (.Assign [.Name y py] (.ListComp elt [⟨.Name x px, iter, [], 0⟩] scope pos) spos) ev) Q E s := by
  refine Assign_comp c (Ext.refl _) hsw fun D vs h' tk C e hD hC hCD hl hi => ?_
  have hCL : C ≠ ev.locals := by
    rintro rfl
    obtain ⟨m, ⟨_, _, _, x, _⟩, _⟩ := S.ns
    rw [hC] at x; cases x
  have hCc : ∀ x c, ev.cells.lookup x = some c → C ≠ c := by
    rintro x c hc rfl
    obtain ⟨⟨_, y, _⟩, _⟩ := S.cell x _ hc
    rw [hC] at y; cases y
  refine St.store (s := { s with heap := h', toks := tk }) (S.add e hD hl) hk hx fun h₂ tk₂ S₂ k₂ n₂ => ⟨fun m hm => ⟨m, n₂ C hCL (fun c hc => hCc _ c hc) m hm⟩, fun h₃ hs₃ => ?_⟩
  have k3 : ∀ b o, b ≠ C → h₂.get? b = some o → h₃.get? b = some o := fun b o hb eb => hs₃.extBut b o hb eb
  have gC : g.get? C = none := by
    cases q : g.get? C with
    | none => rfl
    | some o => have := S.keep _ _ q; rw [hC] at this; cases this
  refine q h₃ _ D vs vs.length hi ⟨fun b o eb => k3 b o (fun q => by rw [q, gC] at eb; cases eb) (S₂.keep b o eb), S₂.above, ?_, fun x c hc => ?_, S₂.apart, fun p hp => ⟨k3 _ _ (fun q => ?_) (S₂.obs p hp).1, (S₂.obs p hp).2⟩, S₂.nd⟩
  · obtain ⟨m, a, b⟩ := S₂.ns
    exact ⟨m, a.sameBut hs₃ (Ne.symm hCL), b⟩
  · exact ⟨(S₂.cell x c hc).1.sameBut hs₃ (Ne.symm (hCc x c hc)), (S₂.cell x c hc).2⟩
  · rcases List.mem_cons.mp hp with rfl | hp
    · exact hCD q.symm
    · have := (S.obs p hp).1
      rw [q, hC] at this; cases this
/-- a for over a range -/
theorem St.for_range {x : Str} {px pos : Pos} {iter : Expr} {body : List Stmt} {s : Shared} {E : Value → Shared → Prop} {Q : Flow → Shared → Prop} {n : Nat} {P : Nat → Value → Prop}
    (J : Nat → (Str → Option Value) → List (Addr × Obj) → Prop) (S : St g ev s.heap V ob) (hk : ev.scope.kind = .function) (hx : Stores ev x) (hsrc : SrcR prog w A ev iter s.heap n P) (h0 : J 0 V ob)
    (turn : ∀ i V ob I io v (s₁ : Shared) (E' : Value → Shared → Prop), i < n → P i v → J i V ob → St g ev s₁.heap (upd V x v) ((I, io) :: ob) →
      wpAny (model prog w) A (execs body ev) (fun f s₂ => f = .next ∧ ∃ h' tk V' ob' ob'', s₂ = { s₁ with heap := h', toks := tk } ∧ St g ev h' V' ob'' ∧ (I, io) ∈ ob'' ∧ ob'.Sublist ob'' ∧ (∀ p ∈ ob', p.1 ≠ I) ∧ J (i + 1) V' ob') E' s₁)
    (done : ∀ h' tk V' ob', J n V' ob' → St g ev h' V' ob' → Q .next { s with heap := h', toks := tk })
    (hs : ∀ x, foldedSetIterable iter ev x = pure x := by intro _; rfl) :
    wpAny (model prog w) A (exec (.For (.Name x px) iter body [] pos) ev) Q E s := by
  have gL : g.get? ev.locals = none := Heap.get?_none_of_le S.above
  refine wpAny_For ?_ hs
  refine hsrc s _ _ (Ext.refl _) fun I StI G tk W hI st eG hIn hIo => ?_
  have hIL : ev.locals ≠ I := by
    rintro rfl
    obtain ⟨m, ⟨_, _, _, x, _⟩, _⟩ := S.ns
    exact absurd (hIn.symm.trans x) nofun
  have hIc : ∀ y c, ev.cells.lookup y = some c → c ≠ I := by
    rintro y c hc rfl
    obtain ⟨⟨_, y, _⟩, _⟩ := S.cell _ _ hc
    exact absurd (hIn.symm.trans y) nofun
  have hIg : g.get? I = none := by
    cases q : g.get? I with
    | none => rfl
    | some o => exact absurd (hIn.symm.trans (S.keep _ _ q)) nofun
  have SG := S.ext eG
  refine codeAny_forLoop_any
    (fun k s' => ∃ h' tk V' ob' i, s' = { s with heap := h', toks := tk } ∧ StI i h' ∧ St g ev h' V' ob' ∧ (∀ p ∈ ob', p.1 ≠ I) ∧ J i V' ob' ∧ i ≤ n ∧ k = n + 1 - i) ?_ (n + 1)
    ⟨G, tk, V, ob, 0, rfl, st, SG, (fun p hp q => by have := (S.obs p hp).1; rw [q, hIn] at this; cases this), h0, Nat.zero_le _, rfl⟩
  rintro k s' ⟨h', tk', V', ob', i, rfl, st', S', off', hJ, hi, rfl⟩
  have move : ∀ h₁ : Heap, (∀ b o, b ∉ [I] → h'.get? b = some o → h₁.get? b = some o) → St g ev h₁ V' ob' := fun h₁ hk₁ => by
    have hk₁' : ∀ b o, b ≠ I → h'.get? b = some o → h₁.get? b = some o := fun b o hb e => hk₁ b o (by simpa using hb) e
    obtain ⟨m, a, b⟩ := S'.ns
    exact ⟨fun b o e => hk₁' b o (fun q => by rw [q, hIg] at e; cases e) (S'.keep b o e), S'.above, ⟨m, a.at' fun o e => hk₁' _ o hIL e, b⟩, fun y c hc => ⟨let ⟨o, e1, e2⟩ := (S'.cell y c hc).1; ⟨o, hk₁' _ o (hIc y c hc) e1, e2⟩, (S'.cell y c hc).2⟩, S'.apart,
      fun p hp => ⟨hk₁' _ _ (off' p hp) (S'.obs p hp).1, (S'.obs p hp).2⟩, S'.nd⟩
  by_cases hlt : i < n
  · refine W.item i _ _ _ hlt st' fun v h₁ tk₁ hP st₁ hk₁ => ?_
    have S₁ := move h₁ hk₁
    obtain ⟨io, hio⟩ := hIo _ _ st₁
    have SI : St g ev h₁ V' ((I, io) :: ob') := ⟨S₁.keep, S₁.above, S₁.ns, S₁.cell, S₁.apart, fun p hp => by
      rcases List.mem_cons.mp hp with rfl | hp
      · exact ⟨hio, Ne.symm hIL, fun x c hc => Ne.symm (hIc x c hc), hIg⟩
      · exact S₁.obs p hp, by
      rw [List.map_cons, List.nodup_cons]
      exact ⟨fun hm => by obtain ⟨p, hp, e⟩ := List.mem_map.mp hm; exact off' p hp e, S₁.nd⟩⟩
    refine wpAny_pure ?_
    refine wpAny_assign_Name (St.store (s := { s with heap := h₁, toks := tk₁ }) SI hk hx fun h₂ tk₂ S₂ _ _ => ?_)
    refine wpAny_mono (turn i V' ob' I io v { s with heap := h₂, toks := tk₂ } _ hlt hP hJ S₂) (fun f s₃ h₃ => ?_) fun _ _ e => e
    obtain ⟨rfl, h₃, tk₃, V₃, ob₃, ob₄, rfl, S₃, hm, hsub, off, hJ₃⟩ := h₃
    refine ⟨n + 1 - (i + 1), by omega, h₃, tk₃, V₃, ob₃, i + 1, rfl, ?_, S₃.drop hsub, off, hJ₃, hlt, rfl⟩
    exact W.frame _ _ _ st₁ fun b hb o e => by
      rw [List.mem_singleton.mp hb] at e ⊢
      rw [hio] at e; cases e
      exact S₃.get hm
  · have hin : i = n := by omega
    subst hin
    refine W.done _ _ _ st' fun h₁ tk₁ hk₁ => wpAny_execs_nil ?_
    exact done h₁ tk₁ V' ob' hJ (move h₁ hk₁)
end
end Mine
namespace Mine
open PySem PySem.W PyProof.Rows PySem.Spec PySem.Calls
def entV (scope : Scope) (binds : List (Str × Value)) : Str → Option Value := fun x =>
  if scope.names.lookup x = some .local then bindL (fun y => scope.names.lookup y) binds (fun _ => none) x else bindC (fun y => scope.names.lookup y) binds (fun _ => none) x
/-- a def entered upon the whole heap, its names as St has them -/
theorem enter_St {prog : Program} {w : World} {A A₀ : Around} {s : Shared} {K : Frag} {L : Addr} {h₀ base : Heap} {m mg mb : Str → Option Value} {p : Program} {loose : List Str} {mean : ExcName → Option Value}
    {env : Env} {outer : List Env} {R : Result → Shared → Prop} {name qual : Str} {params : Arguments} {body : List Stmt} {scope : Scope} {dV kV doc pm cdv ct oc : Value} {an od : Option Addr} {osl : Array (Option Value)} {f : Addr} {args : Args} {binds : List (Str × Value)}
    (B : Below A₀ base outer h₀) (F : Fr h₀ L s.heap m) (X₀ : K.In h₀) (T : Top p loose mean mg mb h₀) (hA : A.frames = some (env :: outer)) (hf : env.frame = some L) (hke : env.scope.kind = .function)
    (ho : K.lookup f = some ⟨oc, od, .func (fnOf name qual params body scope dV kV doc pm an cdv ct), osl⟩) (hcd : codeIn K cdv qual = true) (hroom : A.depth < recursionLimit)
    (hbind : BindsTo s (fnOf name qual params body scope dV kV doc pm an cdv ct) args binds) (hkind : (binds.all fun y => scope.names.lookup y.1 == some .local || scope.names.lookup y.1 == some .cell) = true)
    (hnd : ((cellsFrom 0 scope.names []).map (·.1)).Nodup)
    (hcl : ((cellsFrom 0 scope.names []).all fun y => scope.names.lookup y.1 == some .cell) = true)
    (h : ∀ L' h₁ tk, St s.heap (envOfC qual scope L' f cdv) h₁ (entV scope binds) [] → Below A base (env :: outer) s.heap → K.In s.heap → Top p loose mean mg mb s.heap →
      wpAny (model prog w) (A.deeper (envOfC qual scope L' f cdv)) (execs body (envOfC qual scope L' f cdv))
        (fun fl s' => ∃ V' ob, St s.heap (envOfC qual scope L' f cdv) s'.heap V' ob ∧ (Ext s.heap s'.heap → Fr h₀ L s'.heap m → News h₀ L s'.heap ob → R (.ok (.ret (match fl with | .ret v => v | _ => .none))) s'))
        (fun e s' => wpAny (model prog w) (A.deeper (envOfC qual scope L' f cdv)) (leaving (envOfC qual scope L' f cdv) e) (fun _ s'' => R (.error e) s'') (fun e' s'' => R (.error e') s'') s')
        { s with heap := h₁, toks := tk })
    (hco : scope.isCoroutine = false) (hgen : scope.isGenerator = false) (hk : scope.kind = .function) : codeAny (model prog w) A (.call (.ref f) args) R s := by
  obtain ⟨FG, BG, st, lv⟩ := groundX (R := R) B F (News.nil) hA hf hke
  have XS : K.In s.heap := X₀.keeps F.keep
  refine codeAny_call_function hroom (XS _ _ ho) rfl hco hgen rfl (codeRec_of XS hcd) (hbind _ _ _ _ ?_)
  refine wpAny_newFunctionEnv_cells hk (kindsX hkind _) fun env' he s' x₀ => ?_
  subst he
  have x : InCallC s s.heap.objs.size (bindL (envOfC qual scope s.heap.objs.size f cdv).kindOf binds fun _ => none) (envOfC qual scope s.heap.objs.size f cdv).cells (bindC (envOfC qual scope s.heap.objs.size f cdv).kindOf binds fun _ => none) s' := x₀
  clear x₀
  refine ⟨(T.nolimit.keeps F.keep).keeps x.toInCall.keep, codeAny_func ?_⟩
  obtain ⟨h₁, tk, rfl, _⟩ := x.done
  have hk₁ := x.toInCall.keep
  have S₀ : St s.heap (envOfC qual scope s.heap.objs.size f cdv) h₁ (entV scope binds) [] := by
    refine ⟨hk₁, Nat.le_refl _, ⟨_, x.toInCall.ns, fun y hy => by have hy' : scope.names.lookup y = some .local := hy; simp only [entV, if_pos hy']; rfl⟩, fun y c hc => ?_, x.apart, (fun _ hp => (List.not_mem_nil hp).elim), List.Pairwise.nil⟩
    have z := x.cell y c hc
    have e1 : scope.names.lookup y = some .cell := by
      have hm : y ∈ (cellsFrom (s.heap.objs.size + 1) scope.names []).map (·.1) := List.mem_map_of_mem (f := (·.1)) (mem_of_lookup hc)
      rw [← cellsFrom_names scope.names 0 (s.heap.objs.size + 1) [] [] rfl] at hm
      obtain ⟨q, hq, e⟩ := List.mem_map.mp hm
      have := List.all_eq_true.mp hcl q hq
      rw [e] at this
      exact eq_of_beq this
    have e2 : bindC (envOfC qual scope s.heap.objs.size f cdv).kindOf binds (fun _ => none) y = entV scope binds y := by
      simp only [entV, e1]
      rfl
    rw [e2] at z
    exact ⟨z, x.above y c (mem_of_lookup hc)⟩
  refine wpAny_mono (h s.heap.objs.size h₁ tk S₀ BG XS (T.keeps F.keep)) (fun fl s' hl => ?_) fun _ _ y => y
  obtain ⟨V', ob, S', k⟩ := hl
  obtain ⟨m', F'⟩ := S'.fr
  exact lv _ _ ⟨_, m', ob, F', S'.news, fun F'' N'' => k S'.keep F'' N''⟩
end Mine
end
section
open PySem PySem.W PyProof.Rows PySem.Spec PySem.Calls PySem.Flt PySem.SeqAt
set_option Elab.async false
set_option maxRecDepth 100000
namespace Mine
section
variable {prog : Program} {w : World} {A : Around} {ev : Env} {s : Shared} {E : Value → Shared → Prop} {Q : Flow → Shared → Prop}
theorem Assign_T2 {e₁ e₂ : Expr} {x₁ x₂ : Str} {p₁ p₂ tp vp pos : Pos} {k k' : Nat} (hh : A.handled = none)
    (h : wpAny (model prog w) A (eval e₁ ev) (fun v₁ s₁ => wpAny (model prog w) A (eval e₂ ev) (fun v₂ s₂ => ∀ H, Ext s₂.heap H →
      wpAny (model prog w) A (storeName ev x₁ v₁) (fun _ s₃ => wpAny (model prog w) A (storeName ev x₂ v₂) (fun _ => Q .next) E s₃) E { s₂ with heap := H }) E s₁) E s)
    (hs : swapsWithSole [.Tuple [.Name x₁ p₁, .Name x₂ p₂] k tp] (.Tuple [e₁, e₂] k' vp) pos.line ev = pure false := by rfl)
    (hw : swappedStores [.Tuple [.Name x₁ p₁, .Name x₂ p₂] k tp] (.Tuple [e₁, e₂] k' vp) ev = pure none := by rfl)
    (he : backTo vp (starEach [e₁, e₂] ev) = [(false, eval e₁ ev), (false, eval e₂ ev)] := by rfl) :
    wpAny (model prog w) A (exec (.Assign [.Tuple [.Name x₁ p₁, .Name x₂ p₂] k tp] (.Tuple [e₁, e₂] k' vp) pos) ev) Q E s := by
  refine Assign_Tuple (Tuple_ ?_) hs hw
  rw [he]
  refine Calls.spliced_cons (wpAny_mono h (fun v₁ s₁ h₁ => Calls.spliced_cons (wpAny_mono h₁ (fun v₂ s₂ h₂ => Calls.spliced_nil ?_) fun _ _ e => e)) fun _ _ e => e)
  refine wpAny_newObj_type ?_ (by show 2 ≤ sizeLine; rw [sizeLine_eq]; decide)
  have hT : IsTup (s₂.heap.push { cls := .type "tuple", data := .seq #[v₁, v₂] }) s₂.heap.objs.size #[v₁, v₂] := ⟨_, Heap.get?_push_size _ rfl, rfl, 0, rfl⟩
  refine assign_Tuple_tuple hh hT rfl rfl fun h' he' => ?_
  have eH : Ext s₂.heap h' := fun b o eb => he' b o (Nat.ne_of_lt (by rw [Heap.size_push]; exact Nat.lt_succ_of_lt (Heap.lt_size eb))) (Heap.get?_push_of_some _ eb)
  show wpAny _ _ (do holding [v₂] (assign (.Name x₁ p₁) ev v₁); assignInOrder [assign (.Name x₂ p₂) ev] [v₂]) _ _ _
  refine wpAny_bind (wpAny_holding (wpAny_assign_Name (wpAny_mono (h₂ h' eH) (fun _ s₃ h₃ => ?_) fun _ _ e => e)))
  show wpAny _ _ (do holding [] (assign (.Name x₂ p₂) ev v₂); assignInOrder [] []) _ _ _
  refine wpAny_bind (wpAny_holding (wpAny_assign_Name (wpAny_mono h₃ (fun _ s₄ h₄ => ?_) fun _ _ e => e)))
  exact wpAny_pure h₄
theorem Assign_T3 {e₁ e₂ e₃ : Expr} {x₁ x₂ x₃ : Str} {p₁ p₂ p₃ tp vp pos : Pos} {k k' : Nat} (hh : A.handled = none)
    (h : wpAny (model prog w) A (eval e₁ ev) (fun v₁ s₁ => wpAny (model prog w) A (eval e₂ ev) (fun v₂ s₂ => wpAny (model prog w) A (eval e₃ ev) (fun v₃ s₃ => ∀ H, Ext s₃.heap H →
      wpAny (model prog w) A (storeName ev x₁ v₁) (fun _ s₄ => wpAny (model prog w) A (storeName ev x₂ v₂) (fun _ s₅ => wpAny (model prog w) A (storeName ev x₃ v₃) (fun _ => Q .next) E s₅) E s₄) E { s₃ with heap := H }) E s₂) E s₁) E s)
    (hs : swapsWithSole [.Tuple [.Name x₁ p₁, .Name x₂ p₂, .Name x₃ p₃] k tp] (.Tuple [e₁, e₂, e₃] k' vp) pos.line ev = pure false := by rfl)
    (hw : swappedStores [.Tuple [.Name x₁ p₁, .Name x₂ p₂, .Name x₃ p₃] k tp] (.Tuple [e₁, e₂, e₃] k' vp) ev = pure none := by rfl)
    (he : backTo vp (starEach [e₁, e₂, e₃] ev) = [(false, eval e₁ ev), (false, eval e₂ ev), (false, eval e₃ ev)] := by rfl) :
    wpAny (model prog w) A (exec (.Assign [.Tuple [.Name x₁ p₁, .Name x₂ p₂, .Name x₃ p₃] k tp] (.Tuple [e₁, e₂, e₃] k' vp) pos) ev) Q E s := by
  refine Assign_Tuple (Tuple_ ?_) hs hw
  rw [he]
  refine Calls.spliced_cons (wpAny_mono h (fun v₁ s₁ h₁ => Calls.spliced_cons (wpAny_mono h₁ (fun v₂ s₂ h₂ => Calls.spliced_cons (wpAny_mono h₂ (fun v₃ s₃ h₃ => Calls.spliced_nil ?_) fun _ _ e => e)) fun _ _ e => e)) fun _ _ e => e)
  refine wpAny_newObj_type ?_ (by show 3 ≤ sizeLine; rw [sizeLine_eq]; decide)
  have hT : IsTup (s₃.heap.push { cls := .type "tuple", data := .seq #[v₁, v₂, v₃] }) s₃.heap.objs.size #[v₁, v₂, v₃] := ⟨_, Heap.get?_push_size _ rfl, rfl, 0, rfl⟩
  refine assign_Tuple_tuple hh hT rfl rfl fun h' he' => ?_
  have eH : Ext s₃.heap h' := fun b o eb => he' b o (Nat.ne_of_lt (by rw [Heap.size_push]; exact Nat.lt_succ_of_lt (Heap.lt_size eb))) (Heap.get?_push_of_some _ eb)
  show wpAny _ _ (do holding [v₂, v₃] (assign (.Name x₁ p₁) ev v₁); assignInOrder [assign (.Name x₂ p₂) ev, assign (.Name x₃ p₃) ev] [v₂, v₃]) _ _ _
  refine wpAny_bind (wpAny_holding (wpAny_assign_Name (wpAny_mono (h₃ h' eH) (fun _ s₄ h₄ => ?_) fun _ _ e => e)))
  show wpAny _ _ (do holding [v₃] (assign (.Name x₂ p₂) ev v₂); assignInOrder [assign (.Name x₃ p₃) ev] [v₃]) _ _ _
  refine wpAny_bind (wpAny_holding (wpAny_assign_Name (wpAny_mono h₄ (fun _ s₅ h₅ => ?_) fun _ _ e => e)))
  show wpAny _ _ (do holding [] (assign (.Name x₃ p₃) ev v₃); assignInOrder [] []) _ _ _
  refine wpAny_bind (wpAny_holding (wpAny_assign_Name (wpAny_mono h₅ (fun _ s₆ h₆ => ?_) fun _ _ e => e)))
  exact wpAny_pure h₆
theorem EvI.go {A : Around} {ev : Env} {h : Heap} {e : Expr} {i : Int} {s : Shared} {E Q : Value → Shared → Prop} (x : EvI prog w A ev e h i) (hs : Ext h s.heap) (q : ∀ t h' tk, Ext s.heap h' → Q (.int i t) { s with heap := h', toks := tk }) : wpAny (model prog w) A (eval e ev) Q E s :=
  x s E Q hs fun v h' tk e ⟨t, ht⟩ => ht ▸ q t h' tk e
theorem EvN.go {A : Around} {ev : Env} {h : Heap} {e : Expr} {xs : List Int} {s : Shared} {E Q : Value → Shared → Prop} (x : EvN prog w A ev e h xs) (hs : Ext h s.heap)
    (q : ∀ D vs n h' tk, Ext s.heap h' → s.heap.get? D = none → h'.get? D = some ({ cls := .type "list", data := .seq vs.toArray n } : Obj) → IntsAre vs xs → Q (.ref D) { s with heap := h', toks := tk }) : wpAny (model prog w) A (eval e ev) Q E s :=
  x s E Q hs fun v h' tk e ⟨D, vs, n, hv, a, b, c⟩ => hv ▸ q D vs n h' tk e a b c
theorem Tst.go {A : Around} {ev : Env} {h : Heap} {e : Expr} {c : Bool} {s : Shared} {E : Value → Shared → Prop} {Q : Bool → Shared → Prop} (x : Tst prog w A ev e h c) (hs : Ext h s.heap) (q : ∀ h' tk, Ext s.heap h' → Q c { s with heap := h', toks := tk }) :
    wpAny (model prog w) A (isTrue e ev (eval e ev)) Q E s := x s E Q hs q
/-- list displays of ints -/
theorem EvN.list3 {h : Heap} {e₁ e₂ e₃ : Expr} {i j k : Int} {pos : Pos} (x : EvI prog w A ev e₁ h i) (y : EvI prog w A ev e₂ h j) (z : EvI prog w A ev e₃ h k)
    (he : backTo pos (starEach [e₁, e₂, e₃] ev) = [(false, eval e₁ ev), (false, eval e₂ ev), (false, eval e₃ ev)] := by rfl) : EvN prog w A ev (.List [e₁, e₂, e₃] pos) h [i, j, k] := fun s E Q hs q => by
  refine List_ ?_
  rw [he]
  refine Calls.spliced_cons (x s _ _ hs fun v h₁ tk₁ e₁ ⟨t, ht⟩ => ?_)
  subst ht
  refine Calls.spliced_cons (y _ _ _ (hs.trans e₁) fun v h₂ tk₂ e₂ ⟨u, hu⟩ => ?_)
  subst hu
  refine Calls.spliced_cons (z _ _ _ ((hs.trans e₁).trans e₂) fun v h₃ tk₃ e₃ ⟨u', hu'⟩ => ?_)
  subst hu'
  refine Calls.spliced_nil ?_
  refine wpAny_newObj_type ?_ (by show 3 ≤ sizeLine; rw [sizeLine_eq]; decide)
  refine q _ _ _ (((e₁.trans e₂).trans e₃).trans (Ext.push _ _)) ⟨_, [.int i t, .int j u, .int k u'], 0, rfl, ?_, Heap.get?_push_size _ rfl, .cons _ _ (.cons _ _ (.cons _ _ .nil))⟩
  cases eq : s.heap.get? h₃.objs.size with
  | none => rfl
  | some o => exact absurd (Heap.lt_size (((e₁.trans e₂).trans e₃) _ _ eq)) (Nat.lt_irrefl _)
theorem getItem_list_at {l : Addr} {its : Array Value} {k : Int} {u : Tok} {x : Value} {value slice : Expr} {Q : Value → Shared → Prop} (hl : s.heap.IsList l its) (h0 : 0 ≤ k) (hk : k < 2 ^ 63) (hx : its[k.toNat]? = some x) (h : Q x s)
    (hs : subscripted slice false (.ref l) (.int k u) = operate [.ref l, .int k u] (getItem (.ref l) (.int k u))) : wpAny (model prog w) A (subscriptTail value slice (.ref l) (.int k u)) Q E s :=
  tail_any hl.typeIs slot_list_getitem.lookup (wpAny_getItem_list hl h0 hk hx h) hs
theorem none_of {h h' : Heap} {a : Addr} (e : Ext h h') (x : h'.get? a = none) : h.get? a = none := by
  cases q : h.get? a with
  | none => rfl
  | some o => have := e _ _ q; rw [x] at this; cases this
theorem EvN.pick2 {h : Heap} {e₁ e₂ sl : Expr} {xs ys : List Int} {k : Int} {lp pos : Pos} (x : EvN prog w A ev e₁ h xs) (y : EvN prog w A ev e₂ h ys) (z : EvI prog w A ev sl h k) (h0 : 0 ≤ k) (h1 : k < 2)
    (he : backTo lp (starEach [e₁, e₂] ev) = [(false, eval e₁ ev), (false, eval e₂ ev)] := by rfl)
    (hs' : ∀ l u, subscripted sl false (.ref l) (.int k u) = operate [.ref l, .int k u] (getItem (.ref l) (.int k u)) := by intros; with_unfolding_all rfl) :
    EvN prog w A ev (.Subscript (.List [e₁, e₂] lp) sl pos) h (if k = 0 then xs else ys) := fun s E Q hs q => by
  refine Subscript_ (List_ ?_)
  rw [he]
  refine Calls.spliced_cons (x s _ _ hs fun v h₁ tk₁ e₁ ⟨l, vs, n, hv, hn, hl, hi⟩ => ?_)
  subst hv
  refine Calls.spliced_cons (y _ _ _ (hs.trans e₁) fun v h₂ tk₂ e₂ ⟨l', vs', n', hv, hn', hl', hi'⟩ => ?_)
  subst hv
  refine Calls.spliced_nil ?_
  refine wpAny_newObj_type ?_ (by show 2 ≤ sizeLine; rw [sizeLine_eq]; decide)
  dsimp only
  generalize hH : h₂.push { cls := .type "list", dict := none, data := .seq [Value.ref l, Value.ref l'].toArray } = H
  have e3 : Ext h₂ H := hH ▸ Ext.push _ _
  have hL : H.IsList h₂.objs.size #[.ref l, .ref l'] := ⟨_, hH ▸ Heap.get?_push_size _ rfl, rfl, 0, rfl⟩
  refine z _ _ _ (((hs.trans e₁).trans e₂).trans e3) fun v h₄ tk₄ e₄ ⟨u, hu⟩ => ?_
  subst hu
  have hk : k = 0 ∨ k = 1 := by omega
  rcases hk with rfl | rfl
  · refine getItem_list_at (s := { s with heap := h₄, toks := tk₄ }) (isList_ext hL e₄) (by decide) (by decide) rfl ?_ (hs' _ _)
    exact q _ h₄ tk₄ (((e₁.trans e₂).trans e3).trans e₄) ⟨l, vs, n, rfl, hn, ((e₂.trans e3).trans e₄) _ _ hl, hi⟩
  · refine getItem_list_at (s := { s with heap := h₄, toks := tk₄ }) (isList_ext hL e₄) (by decide) (by decide) rfl ?_ (hs' _ _)
    exact q _ h₄ tk₄ (((e₁.trans e₂).trans e3).trans e₄) ⟨l', vs', n', rfl, none_of e₁ hn', (e3.trans e₄) _ _ hl', hi'⟩
theorem EvN.ifexp {h : Heap} {t a b : Expr} {c : Bool} {xs : List Int} {pos : Pos} (x : Tst prog w A ev t h c) (y : c = true → EvN prog w A ev a h xs) (z : c = false → EvN prog w A ev b h xs) : EvN prog w A ev (.IfExp t a b pos) h xs := fun s E Q hs q => by
  refine IfExp_ (x s _ _ hs fun h₁ tk₁ e₁ => ?_)
  cases c with
  | true => exact y rfl _ _ _ (hs.trans e₁) fun v h₂ tk₂ e₂ ⟨D, vs, n, hv, hn, p⟩ => q _ h₂ tk₂ (e₁.trans e₂) ⟨D, vs, n, hv, none_of e₁ hn, p⟩
  | false => exact z rfl _ _ _ (hs.trans e₁) fun v h₂ tk₂ e₂ ⟨D, vs, n, hv, hn, p⟩ => q _ h₂ tk₂ (e₁.trans e₂) ⟨D, vs, n, hv, none_of e₁ hn, p⟩
end
end Mine
end
section
open PySem PySem.W PyProof.Rows PySem.Spec PySem.Calls PySem.Flt PySem.SeqAt
set_option Elab.async false
set_option maxRecDepth 100000
namespace Mine
section
variable (prog : Program) (w : World) (A : Around) (ev : Env)
def EvF (e : Expr) (h : Heap) (x : UInt64) : Prop := Ev prog w A ev e h fun v _ _ => ∃ t, v = .float x t
def EvS (e : Expr) (h : Heap) (x : Str) : Prop := Ev prog w A ev e h fun v _ _ => ∃ t, v = .str x t
end
section
variable {prog : Program} {w : World} {A : Around} {ev : Env} {s : Shared} {E : Value → Shared → Prop} {Q : Flow → Shared → Prop} {h : Heap}
theorem EvF.go {e : Expr} {x : UInt64} {s : Shared} {E Q : Value → Shared → Prop} (x' : EvF prog w A ev e h x) (hs : Ext h s.heap) (q : ∀ t h' tk, Ext s.heap h' → Q (.float x t) { s with heap := h', toks := tk }) : wpAny (model prog w) A (eval e ev) Q E s :=
  x' s E Q hs fun v h' tk e ⟨t, ht⟩ => ht ▸ q t h' tk e
theorem EvS.go {e : Expr} {x : Str} {s : Shared} {E Q : Value → Shared → Prop} (x' : EvS prog w A ev e h x) (hs : Ext h s.heap) (q : ∀ t h' tk, Ext s.heap h' → Q (.str x t) { s with heap := h', toks := tk }) : wpAny (model prog w) A (eval e ev) Q E s :=
  x' s E Q hs fun v h' tk e ⟨t, ht⟩ => ht ▸ q t h' tk e
theorem EvF.const {x : UInt64} {k : Nat} {pos : Pos} : EvF prog w A ev (.Constant (.float x) k pos) h x := fun s _ _ _ q => wpAny_Constant_float (q _ s.heap _ (Ext.refl _) ⟨_, rfl⟩)
theorem EvF.name {x : Str} {i : UInt64} {t : Tok} {pos : Pos} (l : Ld prog w A ev h x (.float i t)) : EvF prog w A ev (.Name x pos) h i := fun s _ _ hs q => l _ s _ _ hs (q _ s.heap s.toks (Ext.refl _) ⟨_, rfl⟩)
theorem EvS.name {x : Str} {i : Str} {t : Tok} {pos : Pos} (l : Ld prog w A ev h x (.str i t)) : EvS prog w A ev (.Name x pos) h i := fun s _ _ hs q => l _ s _ _ hs (q _ s.heap s.toks (Ext.refl _) ⟨_, rfl⟩)
theorem EvF.div {a b : Expr} {i j : Int} {pos : Pos} (x : EvI prog w A ev a h i) (y : EvI prog w A ev b h j) (h0 : j ≠ 0) (h1 : Float64.isInf (qF i j) = false) : EvF prog w A ev (.BinOp a .Div b pos) h (qF i j) := fun s E Q hs q => by
  refine wpAny_BinOp (EvI.go x hs fun t h₁ tk₁ e₁ => EvI.go y (hs.trans e₁) fun u h₂ tk₂ e₂ => ?_)
  refine AutoIntOps.truediv_2 (by simpa using h0) (by have := h1; unfold qF at this; rw [this]; decide) ?_
  exact q _ h₂ _ (e₁.trans e₂) ⟨_, rfl⟩
theorem EvF.add {a b : Expr} {i j : UInt64} {pos : Pos} (x : EvF prog w A ev a h i) (y : EvF prog w A ev b h j) : EvF prog w A ev (.BinOp a .Add b pos) h (Float64.add i j) := fun s E Q hs q => by
  refine wpAny_BinOp (EvF.go x hs fun t h₁ tk₁ e₁ => EvF.go y (hs.trans e₁) fun u h₂ tk₂ e₂ => ?_)
  exact add_float (q _ h₂ _ (e₁.trans e₂) ⟨_, rfl⟩)
theorem EvF.mulI {a b : Expr} {i : Int} {j : UInt64} {pos : Pos} (hh : A.handled = none) (x : EvI prog w A ev a h i) (y : EvF prog w A ev b h j) (hi : i.natAbs ≤ 1000000) : EvF prog w A ev (.BinOp a .Mult b pos) h (Float64.mul (Float64.ofInt i) j) := fun s E Q hs q => by
  refine wpAny_BinOp (EvI.go x hs fun t h₁ tk₁ e₁ => EvF.go y (hs.trans e₁) fun u h₂ tk₂ e₂ => ?_)
  exact mul_if_ok hh hi (q _ h₂ _ (e₁.trans e₂) ⟨_, rfl⟩)
/-- float + (0 if test else 1 / 2), the int 0 made a float -/
theorem EvF.addIf {a t b c : Expr} {i j : UInt64} {cc : Bool} {pos p2 : Pos} (hh : A.handled = none) (x : EvF prog w A ev a h i) (y : Tst prog w A ev t h cc) (z : EvI prog w A ev b h 0) (u : EvF prog w A ev c h j) :
    EvF prog w A ev (.BinOp a .Add (.IfExp t b c p2) pos) h (if cc then Float64.add i (Float64.ofInt 0) else Float64.add i j) := fun s E Q hs q => by
  refine wpAny_BinOp (EvF.go x hs fun t h₁ tk₁ e₁ => IfExp_ (Tst.go y (hs.trans e₁) fun h₂ tk₂ e₂ => ?_))
  cases cc with
  | true =>
    refine EvI.go z ((hs.trans e₁).trans e₂) fun u h₃ tk₃ e₃ => ?_
    refine add_fi_sharp hh (fun hb => absurd (Nat.le_trans hb (show Int.natAbs 0 ≤ 1000000 by decide)) (Nat.not_le.mpr big_line)) fun _ => ?_
    exact q _ h₃ _ ((e₁.trans e₂).trans e₃) ⟨_, rfl⟩
  | false =>
    refine EvF.go u ((hs.trans e₁).trans e₂) fun u h₃ tk₃ e₃ => ?_
    exact add_float (q _ h₃ _ ((e₁.trans e₂).trans e₃) ⟨_, rfl⟩)
theorem EvI.ofF {f : Str} {a : Expr} {x : UInt64} {fp pos : Pos} (hh : A.handled = none) (lf : Ld prog w A ev h f (.type "int")) (x' : EvF prog w A ev a h x) (hf : Float64.isFinite x = true)
    (he : starEach [a] ev = [(false, eval a ev)] := by rfl) : EvI prog w A ev (.Call (.Name f fp) [a] [] pos) h (Flt.toInt Float64.truncOf x) := fun s E Q hs q => by
  refine wpAny_Call_NameR (lf _ s _ _ hs ?_)
  rw [he]
  refine callWith_type1 (EvF.go x' hs fun t h₁ tk₁ e₁ => ?_)
  exact int_ok hh hf (q _ h₁ _ e₁ ⟨_, rfl⟩)
theorem EvI.lenS {f : Str} {a : Expr} {x : Str} {fp pos : Pos} (lf : Ld prog w A ev h f (.builtin "len")) (x' : EvS prog w A ev a h x) (hl : x.length ≤ 1000000)
    (he : starEach [a] ev = [(false, eval a ev)] := by rfl) : EvI prog w A ev (.Call (.Name f fp) [a] [] pos) h x.length := fun s E Q hs q => by
  refine wpAny_Call_NameR (lf _ s _ _ hs ?_)
  rw [he]
  refine callWith_builtin1 (EvS.go x' hs fun t h₁ tk₁ e₁ => ?_)
  exact len_str (by omega) (q _ h₁ _ e₁ ⟨_, rfl⟩)
theorem EvS.item {a b : Expr} {x : Str} {k c : Nat} {pos : Pos} (x' : EvS prog w A ev a h x) (y : EvI prog w A ev b h k) (hx : x.length ≤ 1000000) (hc : x.cps[k]? = some c)
    (hs' : ∀ t u, subscripted b false (.str x t) (.int k u) = operate [.str x t, .int k u] (getItem (.str x t) (.int k u)) := by intros; with_unfolding_all rfl)
    (hg : ∀ t r, letTemporaryGo a (.str x t) r = pure () := by intros; with_unfolding_all rfl) :
    EvS prog w A ev (.Subscript a b pos) h ⟨#[c]⟩ := fun s E Q hs q => by
  refine Subscript_ (EvS.go x' hs fun t h₁ tk₁ e₁ => EvI.go y (hs.trans e₁) fun u h₂ tk₂ e₂ => ?_)
  have hk : k < x.length := by
    rcases Nat.lt_or_ge k x.cps.size with h | h
    · exact h
    · rw [Array.getElem?_eq_none h] at hc; cases hc
  refine subscriptTail_builtin (typeIs_str _ x t) slot_str_getitem.lookup (getItem_str (by simp; omega) (by
    have : seqIndex? (k : Int) x.length = some k := by
      unfold seqIndex?
      simp
      omega
    rw [this]; exact hc) (q _ h₂ _ (e₁.trans e₂) ⟨_, rfl⟩)) (hs' t u) (hg t)
theorem EvS.const {x : Str} {k : Nat} {pos : Pos} : EvS prog w A ev (.Constant (.str x) k pos) h x := fun s _ _ _ q => PySem.wpAny_Constant_str (q _ s.heap _ (Ext.refl _) ⟨_, rfl⟩)
theorem Tst.eqS {a b : Expr} {x y : Str} {pos : Pos} (x' : EvS prog w A ev a h x) (y' : EvS prog w A ev b h y) (hm : behindInMarks .Eq b = false := by with_unfolding_all rfl) : Tst prog w A ev (.Compare a [.Eq] [b] pos) h (x == y) := fun s E Q hs q => by
  refine wpAny_isTrue_Compare1 (EvS.go x' hs fun t h₁ tk₁ e₁ => EvS.go y' (hs.trans e₁) fun u h₂ tk₂ e₂ => ?_) hm
  exact eq_str (wpAny_truthy_bool (q h₂ tk₂ (e₁.trans e₂)))
end
end Mine
end
section
open PySem PySem.W PyProof.Rows PySem.Spec PySem.Calls PySem.Flt PySem.SeqAt
set_option Elab.async false
set_option maxRecDepth 100000
namespace Mine
def cellObs (ev : Env) (h : Heap) : List (Addr × Obj) := ev.cells.filterMap fun p => match ev.cells.lookup p.1 with
  | some c => (h.get? c).map fun o => (c, o)
  | none => none
theorem mem_cellObs {ev : Env} {h : Heap} {x : Str} {c : Addr} {o : Obj} (hc : ev.cells.lookup x = some c) (ho : h.get? c = some o) : (c, o) ∈ cellObs ev h :=
  List.mem_filterMap.mpr ⟨(x, c), mem_of_lookup hc, by simp [hc, ho]⟩
theorem of_cellObs {ev : Env} {h : Heap} {p : Addr × Obj} (hp : p ∈ cellObs ev h) : ∃ x, ev.cells.lookup x = some p.1 ∧ h.get? p.1 = some p.2 := by
  obtain ⟨q, hq, e⟩ := List.mem_filterMap.mp hp
  cases hl : ev.cells.lookup q.1 with
  | none => simp [hl] at e
  | some c =>
    simp only [hl, Option.map_eq_some_iff] at e
    obtain ⟨o, ho, rfl⟩ := e
    exact ⟨q.1, hl, ho⟩
section
variable {g h : Heap} {ev : Env} {V : Str → Option Value} {ob : List (Addr × Obj)}
/-- the frame and the ledger that a contract asks for, and the way back -/
theorem St.open (S : St g ev h V ob) : ∃ m, Fr g ev.locals h m ∧ News g ev.locals h (ob ++ cellObs ev h) ∧
    (∀ h', Fr g ev.locals h' m → News g ev.locals h' (ob ++ cellObs ev h) → St g ev h' V ob) ∧
    (∀ h' d o, Fr g ev.locals h' m → News g ev.locals h' ((d, o) :: (ob ++ cellObs ev h)) → (∀ p ∈ ob ++ cellObs ev h, p.1 < d) → St g ev h' V ((d, o) :: ob)) := by
  obtain ⟨m, a, b⟩ := S.ns
  have back : ∀ h', Fr g ev.locals h' m → News g ev.locals h' (ob ++ cellObs ev h) → St g ev h' V ob := fun h' F' N' =>
    ⟨F'.keep, S.above, ⟨m, F'.ns, b⟩, fun x c hc => by
      obtain ⟨⟨o, ho, hd⟩, hL⟩ := S.cell x c hc
      exact ⟨⟨o, (N' _ (List.mem_append_right _ (mem_cellObs hc ho))).1, hd⟩, hL⟩, S.apart, fun p hp => ⟨(N' p (List.mem_append_left _ hp)).1, (S.obs p hp).2⟩, S.nd⟩
  refine ⟨m, ⟨a, S.keep, S.above⟩, fun p hp => ?_, back, fun h' d o F' N' hlt => ?_⟩
  · rcases List.mem_append.mp hp with hp | hp
    · exact S.news p hp
    · obtain ⟨x, hc, ho⟩ := of_cellObs hp
      have hL := (S.cell x _ hc).2
      exact ⟨ho, Nat.ne_of_gt hL, Heap.get?_none_of_le (Nat.le_of_lt (Nat.lt_of_le_of_lt S.above hL))⟩
  · have S' := back h' F' fun p hp => N' p (.tail _ hp)
    have nd := N' _ (.head _)
    refine ⟨S'.keep, S'.above, S'.ns, S'.cell, S'.apart, fun p hp => ?_, ?_⟩
    · rcases List.mem_cons.mp hp with rfl | hp
      · refine ⟨nd.1, nd.2.1, fun x c hc e => ?_, nd.2.2⟩
        obtain ⟨⟨o', ho', hd'⟩, hL⟩ := S.cell x c hc
        exact Nat.lt_irrefl _ (e ▸ hlt _ (List.mem_append_right _ (mem_cellObs hc ho')))
      · exact S'.obs p hp
    · rw [List.map_cons, List.nodup_cons]
      refine ⟨fun hm => ?_, S.nd⟩
      obtain ⟨p, hp, e⟩ := List.mem_map.mp hm
      exact Nat.lt_irrefl _ (e ▸ hlt p (List.mem_append_left _ hp))
variable {prog : Program} {w : World} {A : Around} {s : Shared} {E : Value → Shared → Prop}
theorem St.assign_float {Q : Flow → Shared → Prop} {x : Str} {px pos : Pos} {e : Expr} {i : UInt64} (S : St g ev s.heap V ob) (hk : ev.scope.kind = .function) (hx : Stores ev x)
    (he : EvF prog w A ev e s.heap i) (q : ∀ h' tk t, St g ev h' (upd V x (.float i t)) ob → Q .next { s with heap := h', toks := tk })
    (hs : swapsWith e (some (.Name x px)) pos.line ev = pure false := by rfl) : wpAny (model prog w) A (exec (.Assign [.Name x px] e pos) ev) Q E s :=
  wpAny_Assign_Name (EvF.go he (Ext.refl _) fun t h₁ tk₁ e₁ =>
    St.store (s := { s with heap := h₁, toks := tk₁ }) (S.ext e₁) hk hx fun h' tk S' _ _ => q h' tk t S') hs
theorem EvF.tupItem {h : Heap} {a b : Expr} {a' : Str} {p' : Pos} {t : Addr} {x y z : UInt64} {u1 u2 u3 : Tok} {k : Nat} {pos : Pos} (lt : Ld prog w A ev h a' (.ref t)) (ht : IsTup h t #[.float x u1, .float y u2, .float z u3]) (i : EvI prog w A ev b h (k : Int)) (hk : k < 3) (ha : a = .Name a' p')
    (hs' : ∀ u, subscripted b false (.ref t) (.int k u) = operate [.ref t, .int k u] (getItem (.ref t) (.int k u)) := by intros; with_unfolding_all rfl)
    (hg : ∀ r, letTemporaryGo a (.ref t) r = pure () := by intros; with_unfolding_all rfl) :
    EvF prog w A ev (.Subscript a b pos) h ([x, y, z].getD k 0) := fun s E Q hs q => by
  subst ha
  refine Subscript_ (lt _ s _ _ hs (EvI.go i hs fun u h₂ tk₂ e₂ => ?_))
  have ht' : IsTup h₂ t #[.float x u1, .float y u2, .float z u3] := let ⟨o, ho, r⟩ := ht; ⟨o, e₂ _ _ (hs _ _ ho), r⟩
  have hk' : k = 0 ∨ k = 1 ∨ k = 2 := by omega
  rcases hk' with rfl | rfl | rfl
  · exact item_tuple (s := { s with heap := h₂, toks := tk₂ }) ht' (by decide) (by decide) (j := 0) rfl rfl (q _ h₂ tk₂ e₂ ⟨u1, rfl⟩) (hs' _) hg
  · exact item_tuple (s := { s with heap := h₂, toks := tk₂ }) ht' (by decide) (by decide) (j := 1) rfl rfl (q _ h₂ tk₂ e₂ ⟨u2, rfl⟩) (hs' _) hg
  · exact item_tuple (s := { s with heap := h₂, toks := tk₂ }) ht' (by decide) (by decide) (j := 2) rfl rfl (q _ h₂ tk₂ e₂ ⟨u3, rfl⟩) (hs' _) hg
theorem EvI.cast {h : Heap} {e : Expr} {i j : Int} (x : EvI prog w A ev e h i) (hij : i = j) : EvI prog w A ev e h j := hij ▸ x
theorem EvF.cast {h : Heap} {e : Expr} {i j : UInt64} (x : EvF prog w A ev e h i) (hij : i = j) : EvF prog w A ev e h j := hij ▸ x
theorem getD_map3 {f : Nat → Int} {c : Nat} (hc : c < 3) : ((List.range 3).map f).getD ((c : Int).toNat) 0 = f c := by
  have : c = 0 ∨ c = 1 ∨ c = 2 := by omega
  rcases this with rfl | rfl | rfl <;> rfl
theorem getD_3 {f : Nat → UInt64} {c : Nat} (hc : c < 3) : [f 0, f 1, f 2].getD c 0 = f c := by
  have : c = 0 ∨ c = 1 ∨ c = 2 := by omega
  rcases this with rfl | rfl | rfl <;> rfl
/-- x.append(y) on a list of one's own -/
theorem St.append {Q : Flow → Shared → Prop} {x y : Str} {p1 p2 p3 cp pos : Pos} {R : Addr} {v : Value} {its : Array Value} {n : Nat} (S : St g ev s.heap V ((R, { cls := .type "list", data := .seq its n }) :: ob))
    (lx : Ld prog w A ev s.heap x (.ref R)) (ly : Ld prog w A ev s.heap y v) (hsz : its.size ≤ 1000000)
    (q : ∀ h' tk, St g ev h' V ((R, { cls := .type "list", data := .seq (its.push v) (n + 1) }) :: ob) → Q .next { s with heap := h', toks := tk })
    (hbase : attributeBase (.Name x p1) "append" ev (eval (.Name x p1) ev) = eval (.Name x p1) ev := by rfl)
    (hfew : ((backTo cp (starEach [.Name y p3] ev)).all (fun x => !x.1) && (backToKw cp (keywordEach [] ev)).all (fun x => x.1.isSome)
      && decide (([.Name y p3] : List Expr).length + ([] : List Keyword).length + (if ([] : List Keyword).isEmpty then 0 else 1) < 30)) = true := by rfl)
    (hline : (p2.endLine == cp.line) = true := by rfl)
    (htrees : backTo cp (starEach [.Name y p3] ev) = [(false, eval (.Name y p3) ev)] := by rfl)
    (hi : interactive ev = false := by rfl) (hsw : swapsWith (.Call (.Attribute (.Name x p1) "append" p2) [.Name y p3] [] cp) none pos.line ev = pure false := by rfl) :
    wpAny (model prog w) A (exec (.Expr (.Call (.Attribute (.Name x p1) "append" p2) [.Name y p3] [] cp) pos) ev) Q E s := by
  have hR := S.get (.head _)
  refine wpAny_Expr (wpAny_Call_append hbase hfew hline htrees (lx _ s _ _ (Ext.refl _) ⟨R, its, rfl, ⟨_, n, hR, rfl, rfl, rfl⟩, ly _ s _ _ (Ext.refl _) ?_⟩)) hi hsw
  refine append_at hR (fun h' hs hR' => ?_) (Nat.le_trans hsz (by rw [sizeLine_eq]; decide))
  have kp : ∀ b o, b ≠ R → s.heap.get? b = some o → h'.get? b = some o := fun b o hb e => hs.extBut b o hb e
  have oR := S.obs _ (.head _)
  obtain ⟨m, a, b⟩ := S.ns
  refine q h' s.toks ⟨fun b o e => kp b o (fun q => by rw [q, oR.2.2.2] at e; cases e) (S.keep b o e), S.above, ⟨m, a.sameBut hs (Ne.symm oR.2.1), b⟩, fun x c hc => ⟨(S.cell x c hc).1.sameBut hs (Ne.symm (oR.2.2.1 x c hc)), (S.cell x c hc).2⟩, S.apart, fun p hp => ?_, S.nd⟩
  rcases List.mem_cons.mp hp with rfl | hp
  · exact ⟨hR', oR.2⟩
  · have nd := S.nd
    rw [List.map_cons, List.nodup_cons] at nd
    refine ⟨kp _ _ (fun q => nd.1 (List.mem_map.mpr ⟨p, hp, q⟩)) (S.obs p (.tail _ hp)).1, (S.obs p (.tail _ hp)).2⟩
end
end Mine
end
section
open PySem PySem.W PyProof.Rows PySem.Spec PySem.Calls PySem.Flt PySem.SeqAt
set_option Elab.async false
set_option maxRecDepth 100000
namespace Mine
/-- what the loop of due holds -/
structure DS where
  e : List Int
  ahead : Int
  sign : Int
def blockAt (k : Nat) : List Int := if k = 0 then [1, 0, 0] else if k % 2 = 0 then [2, -1, -1] else [1, -1, 0]
def powAt (k : Nat) : Int := 3 ^ ((max ((k : Int) - 1) 0).fdiv 2).toNat
def dstep (count : Int) (k : Nat) (st : DS) : DS :=
  if ((count.fdiv (2 ^ k)).fmod 2 == 1) = true then
    { e := (List.range 3).map fun j => st.e.getD j 0 + st.sign * powAt k * (blockAt k).getD ((((j : Nat) : Int) - st.ahead).fmod 3).toNat 0, ahead := st.ahead + 2 ^ k, sign := -st.sign }
  else st
def dst (count : Int) : Nat → DS
  | 0 => ⟨[0, 0, 0], 0, 1⟩
  | i + 1 => dstep count (5 - i) (dst count i)
def smallOf (count : Int) (sign : Int) : Int := count.fdiv 2 + (if (count.fmod 2 == 1 && sign == 1) = true then 1 else 0)
def wayOf (place turn : Int) (c : Nat) : Int := (3 * place - (c : Int) * turn).fmod (3 * turn)
def wyOf (place turn : Int) (c : Nat) : Int := min (wayOf place turn c) (3 * turn - wayOf place turn c)
def firstOf (place turn : Int) : List Int := [wyOf place turn 1 + wyOf place turn 2 - turn, wyOf place turn 2 + wyOf place turn 0 - turn, wyOf place turn 0 + wyOf place turn 1 - turn]
def pureOf (count place turn thirds : Int) (c : Nat) : Int :=
  smallOf count (dst count 6).sign * turn + ((List.range 3).map fun j => (dst count 6).e.getD j 0 * (firstOf place turn).getD (((c : Int) - thirds * (j : Int)).fmod 3).toNat 0).sum
def dstOk (s : DS) : Bool := decide (s.e.length = 3) && s.e.all (fun x => decide (-1000 ≤ x ∧ x ≤ 1000)) && decide (-1000 ≤ s.ahead ∧ s.ahead ≤ 1000) && (decide (s.sign = 1) || decide (s.sign = -1))
theorem dst_all : ((List.range 61).all fun c => (List.range 7).all fun i => dstOk (dst (c : Int) i)) = true := by decide +kernel
theorem dst_ok {count : Int} (h : 0 ≤ count ∧ count ≤ 60) {i : Nat} (hi : i ≤ 6) : dstOk (dst count i) = true := by
  have h1 := List.all_eq_true.mp dst_all count.toNat (by simp; omega)
  have h2 := List.all_eq_true.mp h1 i (by simp; omega)
  rwa [show ((count.toNat : Nat) : Int) = count by omega] at h2
theorem dst_len {count : Int} (h : 0 ≤ count ∧ count ≤ 60) {i : Nat} (hi : i ≤ 6) : (dst count i).e.length = 3 := by
  have := dst_ok h hi
  simp only [dstOk, Bool.and_eq_true, decide_eq_true_eq] at this
  exact this.1.1.1
theorem dst_e {count : Int} (h : 0 ≤ count ∧ count ≤ 60) {i : Nat} (hi : i ≤ 6) (j : Nat) : -1000 ≤ (dst count i).e.getD j 0 ∧ (dst count i).e.getD j 0 ≤ 1000 := by
  have := dst_ok h hi
  simp only [dstOk, Bool.and_eq_true, decide_eq_true_eq] at this
  rw [List.getD_eq_getElem?_getD]
  cases e : (dst count i).e[j]? with
  | none => exact ⟨by decide, by decide⟩
  | some x => exact of_decide_eq_true (List.all_eq_true.mp this.1.1.2 x (List.mem_of_getElem? e))
theorem dst_ahead {count : Int} (h : 0 ≤ count ∧ count ≤ 60) {i : Nat} (hi : i ≤ 6) : -1000 ≤ (dst count i).ahead ∧ (dst count i).ahead ≤ 1000 := by
  have := dst_ok h hi
  simp only [dstOk, Bool.and_eq_true, decide_eq_true_eq] at this
  exact this.1.2
theorem dst_sign {count : Int} (h : 0 ≤ count ∧ count ≤ 60) {i : Nat} (hi : i ≤ 6) : (dst count i).sign = 1 ∨ (dst count i).sign = -1 := by
  have := dst_ok h hi
  simp only [dstOk, Bool.and_eq_true, Bool.or_eq_true, decide_eq_true_eq] at this
  exact this.2
theorem pow_all : ((List.range 6).all fun k => decide (-81 ≤ powAt k ∧ powAt k ≤ 81)) = true := by decide +kernel
theorem pow_ok {k : Nat} (hk : k < 6) : -81 ≤ powAt k ∧ powAt k ≤ 81 := of_decide_eq_true (List.all_eq_true.mp pow_all k (by simp [hk]))
theorem block_len (k : Nat) : (blockAt k).length = 3 := by unfold blockAt; split <;> (try split) <;> rfl
end Mine
end
section
open PySem PySem.W PyProof.Rows PySem.Spec PySem.Calls PySem.Flt PySem.SeqAt
set_option Elab.async false
set_option maxRecDepth 100000
set_option maxHeartbeats 8000000
namespace Mine
local macro_rules | `(tactic| walk_at "vl") => `(tactic| first | assumption | exact upd_self | (refine (upd_ne (by decide)).trans ?_; walk_at "vl"))
theorem due_tells {w : World} {p : Program} {loose : List Str} {mean : ExcName → Option Value} {mg mb : Str → Option Value}
  {dp un : Nat} {gd : Option (List Code)} {cn : Str} {cs : Scope} {a : Addr} {ccd : Value} {cl : List (Str × Addr)} {outer : List Env} {A₀ : Around} {base h₀ : Heap} {L : Addr} {m : Str → Option Value} {s : Shared} {Q E : Value → Shared → Prop}
  {count place turn thirds : Int} {t1 t2 t3 t4 : Tok} (hc : 0 ≤ count ∧ count ≤ 60) (ht : 5 ≤ turn ∧ turn ≤ 16) (hp : 0 ≤ place ∧ place < turn) (hth : 1 ≤ thirds ∧ thirds ≤ 2)
  (B : Below A₀ base outer h₀) (F : Fr h₀ L s.heap m) (X : (hd.heap_39 w.params).In h₀) (T : Top p loose mean mg mb h₀) (hk : cs.kind = .function)
  (hdp : dp + 3 < recursionLimit) (hu : un + 40 < cLine)
  (hret : ∀ D vs n (h' : Heap) (tk' : Nat), IntsAre vs ((List.range 3).map (pureOf count place turn thirds)) → Ext s.heap h' → Fr h₀ L h' m → News h₀ L h' [(D, { cls := .type "list", data := .seq vs.toArray n })] → s.heap.get? D = none → Q (.ref D) { s with heap := h', toks := tk' }) :
      wpAny (model Challenge.rw_pw0001_01.row.prog w) (ktrTop dp un gd cn cs L a ccd cl outer) (call (.ref 46) [.int count t1, .int place t2, .int turn t3, .int thirds t4]) Q E s := by
  revert X
  k_fill
  intro X
  refine wpAny_call ?_
  refine' enter_St ?k1 ?k2 ?k3 ?k5 ?kA ?kF ?kK ?k6 ?k7 ?k8 ?k9 ?kB ?kD ?kE ?_ ?c2 ?c3 ?c4; (case kA => exact rfl); (case kF => exact rfl); (case kK => first | assumption | exact rfl); (case k1 => k_asm); (case k2 => k_asm); (case k3 => k_asm); (case k5 => k_asm); (case k6 => k_dflt k_is); (case k7 => k_dflt k_is); (case k8 => ktr_room); (case k9 => exact BindsTo.of_eq rfl); (case kB => exact rfl); (case kD => decide +kernel); (case kE => exact rfl); (case c2 => exact rfl); (case c3 => exact rfl); (case c4 => exact rfl)
  intro L' h₁ tk S B' X' T'
  generalize hV : entV _ _ = V at S
  have vc : V (Str.ofString "count") = some (.int count t1) := by rw [← hV]; rfl
  have vp : V (Str.ofString "place") = some (.int place t2) := by rw [← hV]; rfl
  have vt : V (Str.ofString "turn") = some (.int turn t3) := by rw [← hV]; rfl
  have vh : V (Str.ofString "thirds") = some (.int thirds t4) := by rw [← hV]; rfl
  clear hV
  generalize hA : Around.deeper _ _ = A1
  have hh : A1.handled = none := by rw [← hA]; rfl
  clear hA
  have lrange : ∀ h, Ext s.heap h → ∀ (e : Env), e.globals = mainGlobals → e.builtins = builtinsNs → e.scope.kind = .function → e.kindOf (Str.ofString "range") = some .globalImplicit → Ld Challenge.rw_pw0001_01.row.prog w A1 e h (Str.ofString "range") (.type "range") := fun h e0 e a1 a2 a3 a4 => (Ld_built T' X' (by k_dflt k_is) (by boot_by_name) (by decide) a1 a2 a3 a4).up e0
  have lmax : ∀ h, Ext s.heap h → ∀ (e : Env), e.globals = mainGlobals → e.builtins = builtinsNs → e.scope.kind = .function → e.kindOf (Str.ofString "max") = some .globalImplicit → Ld Challenge.rw_pw0001_01.row.prog w A1 e h (Str.ofString "max") (.builtin "max") := fun h e0 e a1 a2 a3 a4 => (Ld_built T' X' (by k_dflt k_is) (by boot_by_name) (by decide) a1 a2 a3 a4).up e0
  have lmin : ∀ h, Ext s.heap h → ∀ (e : Env), e.globals = mainGlobals → e.builtins = builtinsNs → e.scope.kind = .function → e.kindOf (Str.ofString "min") = some .globalImplicit → Ld Challenge.rw_pw0001_01.row.prog w A1 e h (Str.ofString "min") (.builtin "min") := fun h e0 e a1 a2 a3 a4 => (Ld_built T' X' (by k_dflt k_is) (by boot_by_name) (by decide) a1 a2 a3 a4).up e0
  have lsum : ∀ h, Ext s.heap h → ∀ (e : Env), e.globals = mainGlobals → e.builtins = builtinsNs → e.scope.kind = .function → e.kindOf (Str.ofString "sum") = some .globalImplicit → Ld Challenge.rw_pw0001_01.row.prog w A1 e h (Str.ofString "sum") (.builtin "sum") := fun h e0 e a1 a2 a3 a4 => (Ld_built T' X' (by k_dflt k_is) (by boot_by_name) (by decide) a1 a2 a3 a4).up e0
  -- excess, ahead, sign = [0, 0, 0], 0, 1
  refine wpAny_execs_cons (Assign_T3 hh ?_)
  refine EvN.go (EvN.list3 EvI.const EvI.const EvI.const) (Ext.refl _) fun D vs n h₂ tk₂ e₂ hD hl hi => ?_
  refine EvI.go EvI.const (Ext.refl _) fun ta h₃ tk₃ e₃ => ?_
  refine EvI.go EvI.const (Ext.refl _) fun tb h₄ tk₄ e₄ => ?_
  intro H eH
  refine St.store (s := { s with heap := H, toks := tk₄ }) (S.add (((e₂.trans e₃).trans e₄).trans eH) hD (((e₃.trans e₄).trans eH) _ _ hl)) rfl (.inr ⟨rfl, _, rfl⟩) fun h₅ tk₅ S _ _ => ?_
  refine St.store (s := { s with heap := h₅, toks := tk₅ }) S rfl (.inr ⟨rfl, _, rfl⟩) fun h₆ tk₆ S _ _ => ?_
  refine St.store (s := { s with heap := h₆, toks := tk₆ }) S rfl (.inl ⟨rfl, rfl⟩) fun h₇ tk₇ S _ _ => ?_
  clear e₂ e₃ e₄ eH hD hl
  -- the loop
  refine wpAny_execs_cons ?_
  refine St.for_range (s := { s with heap := h₇, toks := tk₇ }) (n := 6) (fun i V ob => ∃ l vs n ta tb, V (Str.ofString "count") = some (.int count t1) ∧ V (Str.ofString "place") = some (.int place t2) ∧ V (Str.ofString "turn") = some (.int turn t3) ∧ V (Str.ofString "thirds") = some (.int thirds t4)
    ∧ V (Str.ofString "excess") = some (.ref l) ∧ V (Str.ofString "ahead") = some (.int (dst count i).ahead ta) ∧ V (Str.ofString "sign") = some (.int (dst count i).sign tb) ∧ ob = [(l, ({ cls := .type "list", data := .seq vs.toArray n } : Obj))] ∧ IntsAre vs (dst count i).e) S rfl (.inl ⟨rfl, rfl⟩)
    (SrcR.range3 hh (lrange _ S.keep _ rfl rfl rfl rfl) EvI.const EvI.const.neg EvI.const.neg (by decide) (by decide) (by decide +kernel) (by decide +kernel)) ⟨D, vs, n, ta, tb, by walk_at "vl", by walk_at "vl", by walk_at "vl", by walk_at "vl", by walk_at "vl", by walk_at "vl", by walk_at "vl", rfl, hi⟩ ?turn ?done
  case done =>
    rintro h₂ tk₂ V ob ⟨l, vs, n, ta, tb, vc, vp, vt, vh, ve, va, vsg, rfl, hi⟩ S
    have hd2 := dst_sign hc (Nat.le_refl 6)
    have hd3 := dst_len hc (Nat.le_refl 6)
    have hcnt : count.fdiv 2 = count / 2 := Int.fdiv_eq_ediv_of_nonneg _ (by decide)
    -- small
    refine wpAny_execs_cons (St.assign_int (s := { s with heap := h₂, toks := tk₂ }) (i := smallOf count (dst count 6).sign) S rfl (.inr ⟨rfl, _, rfl⟩) (EvI.add (EvI.fdiv (EvI.name (S.ld (by walk_at "vl") rfl rfl)) EvI.const (by decide))
      (EvI.ifexp (Tst.and (Tst.eq (EvI.mod (EvI.name (S.ld (by walk_at "vl") rfl rfl)) EvI.const (by decide)) EvI.const) (Tst.eq (EvI.name (S.ld (by walk_at "vl") rfl rfl)) EvI.const)) (fun e => ?_) (fun e => ?_))) fun h₃ tk₃ tsm S => ?_)
    · rw [if_pos e]; exact EvI.const
    · rw [if_neg (by rw [e]; decide)]; exact EvI.const
    have hsm : -1000 ≤ smallOf count (dst count 6).sign ∧ smallOf count (dst count 6).sign ≤ 1000 := by
      unfold smallOf
      rw [hcnt]
      split <;> omega
    -- ways
    refine wpAny_execs_cons (St.assign_comp (s := { s with heap := h₃, toks := tk₃ }) S rfl (.inl ⟨rfl, rfl⟩) (CmpOk.range (n := (3 : Int).toNat) (fun j => wayOf place turn j)
        (SrcR.toSrc (SrcR.range hh (lrange _ S.keep _ rfl rfl rfl rfl) EvI.const (by decide) (by decide))) (by decide) fun C j tj h₅ hj e₅ lj => ?_) fun h₄ tk₄ D₁ v₁ n₁ hi₁ S => ?_)
    · have S5 := S.ext e₅
      have hj3 : j < 3 := hj
      exact EvI.mod (EvI.sub (EvI.mul EvI.const (EvI.name (S5.ldk (by walk_at "vl") rfl rfl rfl rfl)) (by decide)) (EvI.mul (EvI.name lj) (EvI.name (S5.ldk (by walk_at "vl") rfl rfl rfl rfl)) (by omega))) (EvI.mul EvI.const (EvI.name (S5.ldk (by walk_at "vl") rfl rfl rfl rfl)) (by decide)) (by omega)
    -- ways, the shorter
    refine wpAny_execs_cons (St.assign_comp (s := { s with heap := h₄, toks := tk₄ }) S rfl (.inl ⟨rfl, rfl⟩) (CmpOk.list (fun z => min z (3 * turn - z))
        (Src.list hh (EvL.name (S.ld (by walk_at "vl") rfl rfl) (S.isList (d := D₁) (.head _)) hi₁)) (by simp) fun C z tz h₅ hz e₅ lz => ?_) fun h₅ tk₅ D₂ v₂ n₂ hi₂ S => ?_)
    · have S5 := S.ext e₅
      exact EvI.min2 hh (lmin _ S5.keep _ rfl rfl rfl rfl) (EvI.name lz) (EvI.sub (EvI.mul EvI.const (EvI.name (S5.ldk (by walk_at "vl") rfl rfl rfl rfl)) (by decide)) (EvI.name lz))
    -- first
    refine wpAny_execs_cons (St.assign_new (s := { s with heap := h₅, toks := tk₅ }) (xs := firstOf place turn) S rfl (.inr ⟨rfl, _, rfl⟩) (EvN.list3
      (EvI.sub (EvI.add (EvI.item (EvL.name (S.ld (by walk_at "vl") rfl rfl) (S.isList (d := D₂) (.head _)) hi₂) EvI.const (by decide) (by simp) (by simp)) (EvI.item (EvL.name (S.ld (by walk_at "vl") rfl rfl) (S.isList (d := D₂) (.head _)) hi₂) EvI.const (by decide) (by simp) (by simp))) (EvI.name (S.ldc (by walk_at "vl") rfl rfl rfl)))
      (EvI.sub (EvI.add (EvI.item (EvL.name (S.ld (by walk_at "vl") rfl rfl) (S.isList (d := D₂) (.head _)) hi₂) EvI.const (by decide) (by simp) (by simp)) (EvI.item (EvL.name (S.ld (by walk_at "vl") rfl rfl) (S.isList (d := D₂) (.head _)) hi₂) EvI.const (by decide) (by simp) (by simp))) (EvI.name (S.ldc (by walk_at "vl") rfl rfl rfl)))
      (EvI.sub (EvI.add (EvI.item (EvL.name (S.ld (by walk_at "vl") rfl rfl) (S.isList (d := D₂) (.head _)) hi₂) EvI.const (by decide) (by simp) (by simp)) (EvI.item (EvL.name (S.ld (by walk_at "vl") rfl rfl) (S.isList (d := D₂) (.head _)) hi₂) EvI.const (by decide) (by simp) (by simp))) (EvI.name (S.ldc (by walk_at "vl") rfl rfl rfl)))) fun h₆ tk₆ D₃ v₃ n₃ hi₃ S => ?_)
    -- the return
    refine wpAny_execs_cons (wpAny_Return_some ?_)
    refine EvN.go (EvN.comp (CmpOk.rangeC (n := (3 : Int).toNat) (fun c => pureOf count place turn thirds c)
        (SrcR.toSrc (SrcR.range hh (lrange _ S.keep _ rfl rfl rfl rfl) EvI.const (by decide) (by decide))) (by decide) fun C cc c tc h₇ hc3 e₇ lc ic => ?_)) (Ext.refl _) fun D v₈ n₈ h₈ tk₈ e₈ hD hl hi₈ => ?_
    · have S7 := S.ext e₇
      have hc3' : c < 3 := hc3
      refine EvI.add (EvI.mul (EvI.name (S7.ldk (by walk_at "vl") rfl rfl rfl rfl)) (EvI.name (S7.ldk (by walk_at "vl") rfl rfl rfl rfl)) (by omega)) (EvI.sum hh (lsum _ S7.keep _ rfl rfl rfl rfl) (EvN.toL (EvN.comp (CmpOk.range (n := (3 : Int).toNat) (fun j => (dst count 6).e.getD j 0 * (firstOf place turn).getD (((c : Int) - thirds * (j : Int)).fmod 3).toNat 0)
        (SrcR.toSrc (SrcR.range hh (lrange _ S7.keep _ rfl rfl rfl rfl) EvI.const (by decide) (by decide))) (by decide) fun C2 j tj h₉ hj e₉ lj => ?_))))
      have S9 := S7.ext e₉
      have hj3 : j < 3 := hj
      have f0 := Int.fmod_nonneg_of_pos ((c : Int) - thirds * (j : Int)) (b := 3) (by decide)
      have f1 := Int.fmod_lt_of_pos ((c : Int) - thirds * (j : Int)) (b := 3) (by decide)
      have hex := dst_e hc (Nat.le_refl 6) j
      have hfl : (firstOf place turn).length = 3 := rfl
      exact EvI.mul (EvI.item (EvL.name (S9.ldk (by walk_at "vl") rfl rfl rfl rfl) (S9.isList (d := l) (.tail _ (.tail _ (.tail _ (.head _))))) hi) (EvI.name lj) (by omega) (by omega) (by omega))
        (EvI.item (EvL.name (S9.ldk (by walk_at "vl") rfl rfl rfl rfl) (S9.isList (d := D₃) (.head _)) hi₃) (EvI.mod (EvI.sub (EvI.name (Ld_cell (ic.keeps e₉) rfl rfl rfl)) (EvI.mul (EvI.name (S9.ldk (by walk_at "vl") rfl rfl rfl rfl)) (EvI.name lj) (by omega))) EvI.const (by decide)) f0 (by omega) (by omega)) (by omega)
    · have S8 := S.add e₈ hD hl
      exact ⟨_, _, S8.sub (ob' := [(D, _)]) (fun p hp => by rw [List.mem_singleton.mp hp]; exact .head _) (by simp), fun e F N => hret D v₈ n₈ h₈ tk₈ hi₈ e F N (none_of S.keep hD)⟩
  case turn =>
    rintro i V ob I io v s₁ E' hi ⟨t, rfl⟩ ⟨l, vs, n, ta, tb, vc, vp, vt, vh, ve, va, vs', rfl, hi'⟩ S
    obtain ⟨kk, hkk⟩ : ∃ kk : Nat, (5 : Int) + (i : Int) * -1 = (kk : Int) := ⟨5 - i, by omega⟩
    rw [hkk] at S
    have hkk' : kk = 5 - i := by omega
    have hk6 : kk < 6 := by omega
    have hd1 := dst_ahead hc (Nat.le_of_lt hi)
    have hd2 := dst_sign hc (Nat.le_of_lt hi)
    have hd3 := dst_len hc (Nat.le_of_lt hi)
    have hpw := pow_ok hk6
    have hst : dst count (i + 1) = dstep count kk (dst count i) := by rw [hkk']; rfl
    have vk : upd V (Str.ofString "k") (.int (kk : Int) t) (Str.ofString "k") = some (.int (kk : Int) t) := upd_self
    have hcase : ((count.fdiv (2 ^ kk)).fmod 2 == 1) = true ∨ ((count.fdiv (2 ^ kk)).fmod 2 == 1) = false := by cases ((count.fdiv (2 ^ kk)).fmod 2 == 1) <;> simp
    have hp2 : (0 : Int) < 2 ^ kk ∧ (2 : Int) ^ kk ≤ 1000000 := by
      have : kk = 0 ∨ kk = 1 ∨ kk = 2 ∨ kk = 3 ∨ kk = 4 ∨ kk = 5 := by omega
      rcases this with rfl | rfl | rfl | rfl | rfl | rfl <;> decide
    refine wpAny_execs_cons (wpAny_If ?_)
    refine Tst.go (Tst.eq (EvI.mod (EvI.fdiv (EvI.name (S.ld (by walk_at "vl") rfl rfl)) (EvI.pow (n := kk) EvI.const (EvI.name (S.ld vk rfl rfl)) (by decide) (by omega)) hp2) EvI.const (by decide)) EvI.const) (Ext.refl _) fun h₂ tk₂ e₂ => ?_
    have S := S.ext e₂
    rcases hcase with hb | hb
    · rw [hb]
      simp only [if_true]
      -- block
      refine wpAny_execs_cons (St.assign_new (s := { s₁ with heap := h₂, toks := tk₂ }) (xs := blockAt kk) S rfl (.inr ⟨rfl, _, rfl⟩) (EvN.ifexp (Tst.eq (EvI.name (S.ld vk rfl rfl)) EvI.const) (fun e => ?_) (fun e => ?_)) fun h₃ tk₃ Db vb nb hbi S => ?_)
      · have e0 : kk = 0 := by have := eq_of_beq e; omega
        have : blockAt kk = [1, 0, 0] := by rw [e0]; rfl
        rw [this]
        exact EvN.list3 EvI.const EvI.const EvI.const
      · have e0 : kk ≠ 0 := by intro h; rw [h] at e; exact absurd e (by decide)
        have f0 := Int.fmod_nonneg_of_pos (kk : Int) (b := 2) (by decide)
        have f1 := Int.fmod_lt_of_pos (kk : Int) (b := 2) (by decide)
        have : blockAt kk = if ((kk : Int).fmod 2) = 0 then [2, -1, -1] else [1, -1, 0] := by
          have h6 : kk = 1 ∨ kk = 2 ∨ kk = 3 ∨ kk = 4 ∨ kk = 5 := by omega
          rcases h6 with rfl | rfl | rfl | rfl | rfl <;> decide
        rw [this]
        exact EvN.pick2 (EvN.list3 EvI.const EvI.const.neg EvI.const.neg) (EvN.list3 EvI.const EvI.const.neg EvI.const) (EvI.mod (EvI.name (S.ld vk rfl rfl)) EvI.const (by decide)) f0 f1
      -- power
      have vk3 : upd (upd V (Str.ofString "k") (.int (kk : Int) t)) (Str.ofString "block") (.ref Db) (Str.ofString "k") = some (.int (kk : Int) t) := by walk_at "vl"
      have hex : ((max ((kk : Int) - 1) 0).fdiv 2) = ((((max ((kk : Int) - 1) 0).fdiv 2).toNat : Nat) : Int) := by
        have h6 : kk = 0 ∨ kk = 1 ∨ kk = 2 ∨ kk = 3 ∨ kk = 4 ∨ kk = 5 := by omega
        rcases h6 with rfl | rfl | rfl | rfl | rfl | rfl <;> decide
      have hex2 : ((max ((kk : Int) - 1) 0).fdiv 2).toNat ≤ 1000 := by
        have h6 : kk = 0 ∨ kk = 1 ∨ kk = 2 ∨ kk = 3 ∨ kk = 4 ∨ kk = 5 := by omega
        rcases h6 with rfl | rfl | rfl | rfl | rfl | rfl <;> decide
      refine wpAny_execs_cons (St.assign_int (s := { s₁ with heap := h₃, toks := tk₃ }) (i := (dst count i).sign * powAt kk) S rfl (.inr ⟨rfl, _, rfl⟩) (EvI.mul (EvI.name (S.ld (by walk_at "vl") rfl rfl)) (EvI.pow (n := ((max ((kk : Int) - 1) 0).fdiv 2).toNat) EvI.const
        (hex ▸ EvI.fdiv (EvI.max2 hh (lmax _ S.keep _ rfl rfl rfl rfl) (EvI.sub (EvI.name (S.ld vk3 rfl rfl)) EvI.const) EvI.const) EvI.const (by decide)) (by decide) hex2) (by omega)) fun h₄ tk₄ tpw S => ?_)
      -- excess
      have hpr : -81 ≤ (dst count i).sign * powAt kk ∧ (dst count i).sign * powAt kk ≤ 81 := by
        rcases hd2 with h | h <;> rw [h] <;> omega
      refine wpAny_execs_cons (St.assign_new (s := { s₁ with heap := h₄, toks := tk₄ }) S rfl (.inr ⟨rfl, _, rfl⟩) (EvN.comp (CmpOk.range (n := (3 : Int).toNat) (fun j => (dst count i).e.getD j 0 + (dst count i).sign * powAt kk * (blockAt kk).getD ((((j : Nat) : Int) - (dst count i).ahead).fmod 3).toNat 0)
        (SrcR.toSrc (SrcR.range hh (lrange _ S.keep _ rfl rfl rfl rfl) EvI.const (by decide) (by decide))) (by decide) fun C j tj h₅ hj e₅ lj => ?_)) fun h₆ tk₆ De ve ne hei S => ?_)
      · have hj3 : j < 3 := hj
        have S5 := S.ext e₅
        have f0 := Int.fmod_nonneg_of_pos (((j : Nat) : Int) - (dst count i).ahead) (b := 3) (by decide)
        have f1 := Int.fmod_lt_of_pos (((j : Nat) : Int) - (dst count i).ahead) (b := 3) (by decide)
        have hbl := block_len kk
        exact EvI.add (EvI.item (EvL.name (S5.ldk (by walk_at "vl") rfl rfl rfl rfl) (S5.isList (d := l) (.tail _ (.tail _ (.head _)))) hi') (EvI.name lj) (by omega) (by omega) (by omega))
          (EvI.mul (EvI.name (S5.ldk (by walk_at "vl") rfl rfl rfl rfl)) (EvI.item (EvL.name (S5.ldk (by walk_at "vl") rfl rfl rfl rfl) (S5.isList (d := Db) (.head _)) hbi)
            (EvI.mod (EvI.sub (EvI.name lj) (EvI.name (S5.ldk (by walk_at "vl") rfl rfl rfl rfl))) EvI.const (by decide)) f0 (by omega) (by omega)) (by omega))
      -- ahead, sign
      have vk6 : V (Str.ofString "k") = V (Str.ofString "k") := rfl
      refine wpAny_execs_cons (Assign_T2 hh ?_)
      refine EvI.go (EvI.add (EvI.name (S.ldc (by walk_at "vl") rfl rfl rfl)) (EvI.pow (n := kk) EvI.const (EvI.name (S.ld (by walk_at "vl") rfl rfl)) (by decide) (by omega))) (Ext.refl _) fun ta' h₇ tk₇ e₇ => ?_
      refine EvI.go (EvI.neg (EvI.name ((S.ext e₇).ld (by walk_at "vl") rfl rfl))) (Ext.refl _) fun tb' h₈ tk₈ e₈ => ?_
      intro H eH
      refine St.store (s := { s₁ with heap := H, toks := tk₈ }) (S.ext ((e₇.trans e₈).trans eH)) rfl (.inr ⟨rfl, _, rfl⟩) fun h₉ tk₉ S _ _ => ?_
      refine St.store (s := { s₁ with heap := h₉, toks := tk₉ }) S rfl (.inl ⟨rfl, rfl⟩) fun h₁₀ tk₁₀ S _ _ => ?_
      have hst' : dst count (i + 1) = { e := (List.range 3).map fun j => (dst count i).e.getD j 0 + (dst count i).sign * powAt kk * (blockAt kk).getD ((((j : Nat) : Int) - (dst count i).ahead).fmod 3).toNat 0, ahead := (dst count i).ahead + 2 ^ kk, sign := -(dst count i).sign } := by
        rw [hst]; unfold dstep; rw [hb]; rfl
      refine wpAny_execs_nil (wpAny_execs_nil ⟨rfl, _, _, _, [(De, _)], _, rfl, S, .tail _ (.tail _ (.head _)), (List.Sublist.cons_cons _ (List.nil_sublist _)), ?_, ?_⟩)
      · intro p hp
        rw [List.mem_singleton.mp hp]
        have := S.nd
        simp only [List.map_cons, List.map_nil, List.nodup_cons, List.mem_cons, List.mem_singleton, List.not_mem_nil, not_false_eq_true, List.nodup_nil, and_true, not_or] at this
        exact this.1.2.1
      · rw [hst']
        exact ⟨De, ve, ne, ta', tb', by walk_at "vl", by walk_at "vl", by walk_at "vl", by walk_at "vl", by walk_at "vl", by walk_at "vl", by walk_at "vl", rfl, hei⟩
    · rw [hb]
      simp only [Bool.false_eq_true, if_false]
      refine wpAny_execs_nil (wpAny_execs_nil ⟨rfl, _, _, _, [(l, _)], _, rfl, S, .head _, List.sublist_cons_self _ _, ?_, ?_⟩)
      · intro p hp
        rw [List.mem_singleton.mp hp]
        have := S.nd
        simp only [List.map_cons, List.map_nil, List.nodup_cons, List.mem_singleton, List.not_mem_nil, not_false_eq_true, List.nodup_nil, and_true] at this
        exact fun q => this q.symm
      · have hst' : dst count (i + 1) = dst count i := by rw [hst]; unfold dstep; rw [hb]; rfl
        exact ⟨l, vs, n, ta, tb, by walk_at "vl", by walk_at "vl", by walk_at "vl", by walk_at "vl", by walk_at "vl", by rw [hst']; walk_at "vl", by rw [hst']; walk_at "vl", rfl, hst' ▸ hi'⟩
end Mine
end
section
open PySem PySem.W PyProof.Rows PySem.Spec PySem.Calls PySem.Flt PySem.SeqAt
set_option Elab.async false
set_option maxRecDepth 100000
namespace Mine
def hueF (place turn thirds : Int) (n : Nat) (big : Bool) : UInt64 :=
  if big then Float64.add (Float64.add (qF place turn) (qF (thirds * (n : Int)) 3)) (Float64.ofInt 0) else Float64.add (Float64.add (qF place turn) (qF (thirds * (n : Int)) 3)) (qF 1 2)
def colF (place turn thirds share level : Int) (n : Nat) (big : Bool) (c : Nat) : UInt64 :=
  Float64.add (Float64.mul (Float64.ofInt (16 * turn)) (hsvR (hueF place turn thirds n big) (qF share 4) (qF level 4) c)) 4602678819172646912
def colI (place turn thirds share level : Int) (n : Nat) (big : Bool) (c : Nat) : Int := Flt.toInt Float64.truncOf (colF place turn thirds share level n big c)
def bigAt (letters : Str) (n : Nat) : Bool := (⟨#[letters.cps.getD n 0]⟩ : Str) == Str.ofString "A"
def mixS (letters : Str) (place turn thirds share level : Int) : Nat → Nat → Int
  | 0, _ => 0
  | n + 1, c => mixS letters place turn thirds share level n c + colI place turn thirds share level n (bigAt letters n) c
structure MixOk (letters : Str) (place turn thirds share level : Int) : Prop where
  len : letters.length ≤ 60
  tu : 5 ≤ turn ∧ turn ≤ 16
  th : 1 ≤ thirds ∧ thirds ≤ 2
  i1 : Float64.isInf (qF place turn) = false
  i2 : ∀ n : Nat, n < letters.length → Float64.isInf (qF (thirds * (n : Int)) 3) = false
  i3 : Float64.isInf (qF share 4) = false
  i4 : Float64.isInf (qF level 4) = false
  i5 : (Float64.cmp (qF share 4) 0 == some .eq) = false
  f1 : ∀ n : Nat, n < letters.length → Float64.isFinite (Float64.mul (hueF place turn thirds n (bigAt letters n)) 4618441417868443648) = true
  f2 : ∀ n : Nat, n < letters.length → (hsvI (hueF place turn thirds n (bigAt letters n))).natAbs ≤ 1000000
  f3 : ∀ n c : Nat, n < letters.length → c < 3 → Float64.isFinite (colF place turn thirds share level n (bigAt letters n) c) = true
theorem half_inf : Float64.isInf (qF 1 2) = false := by decide +kernel
/-- rows of sums, as the mixtures leave them -/
def RowsAre (f : Nat → Nat → Int) (as : List (Addr × Obj)) : Prop := ∀ (k : Nat) p, as[k]? = some p → ∃ vs n, p.2 = ({ cls := .type "list", data := .seq vs.toArray n } : Obj) ∧ IntsAre vs ((List.range 3).map (f (k + 1)))
theorem RowsAre.snoc {f : Nat → Nat → Int} {as : List (Addr × Obj)} (h : RowsAre f as) {D : Addr} {vs : List Value} {n : Nat} (hi : IntsAre vs ((List.range 3).map (f (as.length + 1)))) : RowsAre f (as ++ [(D, { cls := .type "list", data := .seq vs.toArray n })]) := by
  intro k p hp
  rw [List.getElem?_append] at hp
  split at hp
  · exact h k p hp
  · rename_i hk
    have : k = as.length := by
      rcases Nat.lt_or_ge (k - as.length) 1 with h | h
      · omega
      · rw [List.getElem?_eq_none (by simpa using h)] at hp; cases hp
    subst this
    rw [Nat.sub_self] at hp
    cases hp
    exact ⟨vs, n, rfl, hi⟩
end Mine
end
section
open PySem PySem.W PyProof.Rows PySem.Spec PySem.Calls PySem.Flt PySem.SeqAt
set_option Elab.async false
set_option maxRecDepth 100000
set_option maxHeartbeats 8000000
namespace Mine
local macro_rules | `(tactic| walk_at "vl") => `(tactic| first | assumption | exact upd_self | (refine (upd_ne (by decide)).trans ?_; walk_at "vl"))
theorem St.perm {g h : Heap} {ev : Env} {V : Str → Option Value} {ob ob' : List (Addr × Obj)} (S : St g ev h V ob) (hp : ob'.Perm ob) : St g ev h V ob' :=
  S.sub (fun _ hm => hp.subset hm) ((hp.map _).nodup_iff.mpr S.nd)
theorem St.envIs {g h : Heap} {ev : Env} {V : Str → Option Value} {ob : List (Addr × Obj)} (_ : St g ev h V ob) : ∃ e, e = ev := ⟨ev, rfl⟩
theorem mix_tells {w : World} {p : Program} {loose : List Str} {mean : ExcName → Option Value} {mg mb : Str → Option Value}
  {dp un : Nat} {gd : Option (List Code)} {cn : Str} {cs : Scope} {a : Addr} {ccd : Value} {cl : List (Str × Addr)} {outer : List Env} {A₀ : Around} {base h₀ : Heap} {L : Addr} {m : Str → Option Value} {s : Shared} {Q E : Value → Shared → Prop}
  {letters : Str} {place turn thirds share level : Int} {t0 t1 t2 t3 t4 t5 : Tok} (ok : MixOk letters place turn thirds share level)
  (B : Below A₀ base outer h₀) (F : Fr h₀ L s.heap m) (X : (hd.heap_39 w.params).In h₀) (T : Top p loose mean mg mb h₀) (hk : cs.kind = .function)
  (hdp : dp + 3 < recursionLimit) (hu : un + 40 < cLine)
  (hret : ∀ R as n (h' : Heap) (tk' : Nat), as.length = letters.length → RowsAre (mixS letters place turn thirds share level) as → Ext s.heap h' → Fr h₀ L h' m → News h₀ L h' ((R, { cls := .type "list", data := .seq (as.map fun q => Value.ref q.1).toArray n }) :: as) → (∀ q ∈ as, s.heap.get? q.1 = none) → s.heap.get? R = none → ((R :: as.map Prod.fst).Nodup) → Q (.ref R) { s with heap := h', toks := tk' }) :
      wpAny (model Challenge.rw_pw0001_01.row.prog w) (ktrTop dp un gd cn cs L a ccd cl outer) (call (.ref 41) [.str letters t0, .int place t1, .int turn t2, .int thirds t3, .int share t4, .int level t5]) Q E s := by
  revert X
  k_fill
  intro X
  refine wpAny_call ?_
  refine' enter_St ?k1 ?k2 ?k3 ?k5 ?kA ?kF ?kK ?k6 ?k7 ?k8 ?k9 ?kB ?kD ?kE ?_ ?c2 ?c3 ?c4; (case kA => exact rfl); (case kF => exact rfl); (case kK => first | assumption | exact rfl); (case k1 => k_asm); (case k2 => k_asm); (case k3 => k_asm); (case k5 => k_asm); (case k6 => k_dflt k_is); (case k7 => k_dflt k_is); (case k8 => ktr_room); (case k9 => exact BindsTo.of_eq rfl); (case kB => exact rfl); (case kD => decide +kernel); (case kE => exact rfl); (case c2 => exact rfl); (case c3 => exact rfl); (case c4 => exact rfl)
  intro L' h₁ tk S B' X' T'
  generalize hV : entV _ _ = V at S
  have vl : V (Str.ofString "letters") = some (.str letters t0) := by rw [← hV]; rfl
  have vp : V (Str.ofString "place") = some (.int place t1) := by rw [← hV]; rfl
  have vt : V (Str.ofString "turn") = some (.int turn t2) := by rw [← hV]; rfl
  have vh : V (Str.ofString "thirds") = some (.int thirds t3) := by rw [← hV]; rfl
  have vs : V (Str.ofString "share") = some (.int share t4) := by rw [← hV]; rfl
  have ve : V (Str.ofString "level") = some (.int level t5) := by rw [← hV]; rfl
  clear hV
  have hlen := ok.len
  have htu := ok.tu
  have hthi := ok.th
  generalize hA : Around.deeper _ _ = A1
  have hh : A1.handled = none := by rw [← hA]; rfl
  obtain ⟨ev0, hev0⟩ := S.envIs
  have hcall : ∀ (s₁ : Shared) (E Q : Value → Shared → Prop) V ob (x y z : UInt64) tx ty tz, St s.heap ev0 s₁.heap V ob → (Float64.cmp y 0 == some .eq) = false → Float64.isFinite (Float64.mul x 4618441417868443648) = true → (hsvI x).natAbs ≤ 1000000 →
      (∀ D u1 u2 u3 h' tk', St s.heap ev0 h' V ((D, tup3 (hsvR x y z 0) (hsvR x y z 1) (hsvR x y z 2) u1 u2 u3) :: ob) → Q (.ref D) { s₁ with heap := h', toks := tk' }) →
      wpAny (model Challenge.rw_pw0001_01.row.prog w) A1 (call (.ref 36) [.float x tx, .float y ty, .float z tz]) Q E s₁ := by
    intro s₁ E Q V ob x y z tx ty tz S₁ g1 g2 g3 q
    rw [← hA]
    subst hev0
    obtain ⟨m₁, F₁, N₁, _, k2⟩ := S₁.open
    exact hsv_tells (s := s₁) g1 g2 (Nat.lt_of_le_of_lt g3 big_line) B' F₁ X' N₁ T' rfl (by ktr_room) (by ktr_units) fun D u1 u2 u3 h' tk' F' N' hlt => q D u1 u2 u3 h' tk' (k2 h' D _ F' N' hlt)
  subst hev0
  clear hA
  have lrange : ∀ h, Ext s.heap h → ∀ (e : Env), e.globals = mainGlobals → e.builtins = builtinsNs → e.scope.kind = .function → e.kindOf (Str.ofString "range") = some .globalImplicit → Ld Challenge.rw_pw0001_01.row.prog w A1 e h (Str.ofString "range") (.type "range") := fun h e0 e a1 a2 a3 a4 => (Ld_built T' X' (by k_dflt k_is) (by boot_by_name) (by decide) a1 a2 a3 a4).up e0
  have llen : ∀ h, Ext s.heap h → ∀ (e : Env), e.globals = mainGlobals → e.builtins = builtinsNs → e.scope.kind = .function → e.kindOf (Str.ofString "len") = some .globalImplicit → Ld Challenge.rw_pw0001_01.row.prog w A1 e h (Str.ofString "len") (.builtin "len") := fun h e0 e a1 a2 a3 a4 => (Ld_built T' X' (by k_dflt k_is) (by boot_by_name) (by decide) a1 a2 a3 a4).up e0
  have lint : ∀ h, Ext s.heap h → ∀ (e : Env), e.globals = mainGlobals → e.builtins = builtinsNs → e.scope.kind = .function → e.kindOf (Str.ofString "int") = some .globalImplicit → Ld Challenge.rw_pw0001_01.row.prog w A1 e h (Str.ofString "int") (.type "int") := fun h e0 e a1 a2 a3 a4 => (Ld_built T' X' (by k_dflt k_is) (by boot_by_name) (by decide) a1 a2 a3 a4).up e0
  have lhsv : ∀ h, Ext s.heap h → ∀ (e : Env), e.globals = mainGlobals → e.scope.kind = .function → e.kindOf (Str.ofString "hsv_to_rgb") = some .globalImplicit → Ld Challenge.rw_pw0001_01.row.prog w A1 e h (Str.ofString "hsv_to_rgb") (.ref 36) := fun h e0 e a1 a3 a4 => (Ld_global T' X' (by k_dflt k_is) a1 a3 a4).up e0
  -- added, rows = [0, 0, 0], []
  refine wpAny_execs_cons (Assign_T2 hh ?_)
  refine EvN.go (EvN.list3 EvI.const EvI.const EvI.const) (Ext.refl _) fun D vs n h₂ tk₂ e₂ hD hl hi => ?_
  refine List_ (Calls.spliced_nil (wpAny_newObj_type ?_ (by show 0 ≤ sizeLine; exact Nat.zero_le _)))
  intro H eH
  have S := S.add e₂ hD hl
  have S := S.add (h' := H) (d := h₂.objs.size) (o := { cls := .type "list", data := .seq #[] }) ((Ext.push _ _).trans eH) (fresh_ge (Nat.le_refl _)) (eH _ _ (Heap.get?_push_size _ rfl))
  refine St.store (s := { s with heap := H, toks := tk₂ }) S rfl (.inr ⟨rfl, _, rfl⟩) fun h₅ tk₅ S _ _ => ?_
  refine St.store (s := { s with heap := h₅, toks := tk₅ }) S rfl (.inl ⟨rfl, rfl⟩) fun h₆ tk₆ S _ _ => ?_
  generalize h₂.objs.size = R at S
  clear e₂ eH hD hl
  -- the loop
  refine wpAny_execs_cons ?_
  refine St.for_range (s := { s with heap := h₆, toks := tk₆ }) (n := letters.length) (fun i V ob => ∃ R l0 as l vs n nR, as.length = i ∧ RowsAre (mixS letters place turn thirds share level) as ∧ ob = (R, ({ cls := .type "list", data := .seq (as.map fun q => Value.ref q.1).toArray nR } : Obj)) :: l0 :: as
    ∧ (l, ({ cls := .type "list", data := .seq vs.toArray n } : Obj)) ∈ ob ∧ IntsAre vs ((List.range 3).map (mixS letters place turn thirds share level i)) ∧ V (Str.ofString "added") = some (.ref l) ∧ V (Str.ofString "rows") = some (.ref R)
    ∧ V (Str.ofString "letters") = some (.str letters t0) ∧ V (Str.ofString "place") = some (.int place t1) ∧ V (Str.ofString "turn") = some (.int turn t2) ∧ V (Str.ofString "thirds") = some (.int thirds t3) ∧ V (Str.ofString "share") = some (.int share t4) ∧ V (Str.ofString "level") = some (.int level t5)) S rfl (.inl ⟨rfl, rfl⟩)
    (SrcR.range (N := (letters.length : Int)) hh (lrange _ S.keep _ rfl rfl rfl rfl) (EvI.lenS (llen _ S.keep _ rfl rfl rfl rfl) (EvS.name (S.ld (by walk_at "vl") rfl rfl)) (by omega)) (by omega) (by omega))
    ⟨R, _, [], D, vs, n, 0, rfl, (fun k p h => by simp at h), rfl, .tail _ (.head _), hi, by walk_at "vl", by walk_at "vl", by walk_at "vl", by walk_at "vl", by walk_at "vl", by walk_at "vl", by walk_at "vl", by walk_at "vl"⟩ ?turn ?done
  case done =>
    rintro h₂ tk₂ V ob ⟨R, l0, as, l, vs, n, nR, hal, hro, rfl, hm, hi, va, vr, vl, vp, vt, vh, vs', ve⟩ S
    refine wpAny_execs_cons (wpAny_Return_some ((S.ld (prog := Challenge.rw_pw0001_01.row.prog) (w := w) (A := A1) vr rfl rfl) _ _ _ _ (Ext.refl _) ?_))
    have S := S.drop (ob' := (R, { cls := .type "list", data := .seq (as.map fun q => Value.ref q.1).toArray nR }) :: as) (List.Sublist.cons_cons _ (List.sublist_cons_self _ _))
    exact ⟨_, _, S, fun e F N => hret R as nR h₂ tk₂ hal hro e F N (fun q hq => (S.obs q (.tail _ hq)).2.2.2) (S.obs _ (.head _)).2.2.2 S.nd⟩
  case turn =>
    rintro i V ob I io v s₁ E' hi ⟨t, rfl⟩ ⟨R, l0, as, l, vs, n, nR, hal, hro, rfl, hm, hi', va, vr, vl, vp, vt, vh, vs', ve⟩ S
    have vn : upd V (Str.ofString "n") (.int (i : Int) t) (Str.ofString "n") = some (.int (i : Int) t) := upd_self
    have hcps : letters.cps[i]? = some (letters.cps.getD i 0) := by
      have : i < letters.cps.size := hi
      simp [Array.getD, this]
    have htn : 0 ≤ thirds * (i : Int) ∧ thirds * (i : Int) ≤ 1000 := by
      have : thirds = 1 ∨ thirds = 2 := by omega
      rcases this with rfl | rfl <;> omega
    -- hue
    refine wpAny_execs_cons (St.assign_float (s := s₁) (i := hueF place turn thirds i (bigAt letters i)) S rfl (.inl ⟨rfl, rfl⟩)
      (EvF.addIf hh (EvF.add (EvF.div (EvI.name (S.ld (by walk_at "vl") rfl rfl)) (EvI.name (S.ldc (by walk_at "vl") rfl rfl rfl)) (by omega) ok.i1) (EvF.div (EvI.mul (EvI.name (S.ld (by walk_at "vl") rfl rfl)) (EvI.name (S.ld vn rfl rfl)) (by omega)) EvI.const (by decide) (ok.i2 i hi)))
        (Tst.eqS (EvS.item (EvS.name (S.ld (by walk_at "vl") rfl rfl)) (EvI.name (S.ld vn rfl rfl)) (by omega) hcps) EvS.const) EvI.const (EvF.div EvI.const EvI.const (by decide) half_inf)) fun h₂ tk₂ tu S => ?_)
    -- colour
    refine wpAny_execs_cons (wpAny_Assign_Name (wpAny_Call_NameR (lhsv _ S.keep _ rfl rfl rfl _ _ _ _ (Ext.refl _) ?_)))
    refine callWith_K (X'.keeps S.keep) (by k_dflt k_is) ?_
    refine spliced_more (EvF.go (EvF.name (S.ld (by walk_at "vl") rfl rfl)) (Ext.refl _) fun uh h₃ tk₃ e₃ => ?_)
    refine spliced_more (EvF.go (EvF.div (EvI.name ((S.ext e₃).ld (by walk_at "vl") rfl rfl)) EvI.const (by decide) ok.i3) (Ext.refl _) fun us h₄ tk₄ e₄ => ?_)
    refine spliced_more (EvF.go (EvF.div (EvI.name ((S.ext (e₃.trans e₄)).ld (by walk_at "vl") rfl rfl)) EvI.const (by decide) ok.i4) (Ext.refl _) fun ul h₅ tk₅ e₅ => ?_)
    refine spliced_none ⟨X'.keeps (S.ext ((e₃.trans e₄).trans e₅)).keep, ?_⟩
    refine hcall { s₁ with heap := h₅, toks := tk₅ } _ _ _ _ _ _ _ _ _ _ (S.ext ((e₃.trans e₄).trans e₅)) ok.i5 (ok.f1 i hi) (ok.f2 i hi) fun C u1 u2 u3 h₆ tk₆ S => ?_
    refine St.store (s := { s₁ with heap := h₆, toks := tk₆ }) S rfl (.inr ⟨rfl, _, rfl⟩) fun h₇ tk₇ S _ _ => ?_
    -- added
    have hm7 : (l, ({ cls := .type "list", data := .seq vs.toArray n } : Obj)) ∈ (C, tup3 (hsvR (hueF place turn thirds i (bigAt letters i)) (qF share 4) (qF level 4) 0) (hsvR (hueF place turn thirds i (bigAt letters i)) (qF share 4) (qF level 4) 1) (hsvR (hueF place turn thirds i (bigAt letters i)) (qF share 4) (qF level 4) 2) u1 u2 u3) :: (I, io) :: (R, ({ cls := .type "list", data := .seq (as.map fun q => Value.ref q.1).toArray nR } : Obj)) :: l0 :: as := .tail _ (.tail _ hm)
    refine wpAny_execs_cons (St.assign_new (s := { s₁ with heap := h₇, toks := tk₇ }) S rfl (.inr ⟨rfl, _, rfl⟩) (EvN.comp (CmpOk.range (n := (3 : Int).toNat) (fun c => mixS letters place turn thirds share level (i + 1) c)
        (SrcR.toSrc (SrcR.range hh (lrange _ S.keep _ rfl rfl rfl rfl) EvI.const (by decide) (by decide))) (by decide) fun C' c tc h₈ hc e₈ lc => ?_)) fun h₉ tk₉ De ve' ne hei S => ?_)
    · have S8 := S.ext e₈
      have hc3 : c < 3 := hc
      have hT : IsTup h₈ C #[.float (hsvR (hueF place turn thirds i (bigAt letters i)) (qF share 4) (qF level 4) 0) u1, .float (hsvR (hueF place turn thirds i (bigAt letters i)) (qF share 4) (qF level 4) 1) u2, .float (hsvR (hueF place turn thirds i (bigAt letters i)) (qF share 4) (qF level 4) 2) u3] := ⟨_, S8.get (.head _), rfl, 0, rfl⟩
      refine EvI.add (i := mixS letters place turn thirds share level i c) (j := colI place turn thirds share level i (bigAt letters i) c) ?_ ?_
      · exact EvI.cast (EvI.item (EvL.name (S8.ldk (by walk_at "vl") rfl rfl rfl rfl) (S8.isList (d := l) hm7) hi') (EvI.name lc) (by omega) (by simp; omega) (by simp)) (getD_map3 hc3)
      · exact EvI.ofF hh (lint _ S8.keep _ rfl rfl rfl rfl) (EvF.add (EvF.mulI hh (EvI.mul EvI.const (EvI.name (S8.ldk (by walk_at "vl") rfl rfl rfl rfl)) (by decide)) (EvF.cast (EvF.tupItem (S8.ldk (v := .ref C) (by walk_at "vl") rfl rfl rfl rfl) hT (EvI.name lc) hc3 rfl) (getD_3 (f := fun c => hsvR (hueF place turn thirds i (bigAt letters i)) (qF share 4) (qF level 4) c) hc3)) (by omega)) EvF.const) (ok.f3 i c hi hc3)
    -- rows.append(added)
    have S := (S.drop (ob' := (De, { cls := .type "list", data := .seq ve'.toArray ne }) :: (I, io) :: (R, { cls := .type "list", data := .seq (as.map fun q => Value.ref q.1).toArray nR }) :: l0 :: as) (List.Sublist.cons_cons _ (List.sublist_cons_self _ _))).perm (ob' := (R, { cls := .type "list", data := .seq (as.map fun q => Value.ref q.1).toArray nR }) :: (De, { cls := .type "list", data := .seq ve'.toArray ne }) :: (I, io) :: l0 :: as)
      (List.perm_middle (l₁ := [(De, _), (I, io)])).symm
    refine wpAny_execs_cons (St.append (s := { s₁ with heap := h₉, toks := tk₉ }) S (S.ld (by walk_at "vl") rfl rfl) (S.ldc (by walk_at "vl") rfl rfl rfl) (by simp; omega) fun h₁₀ tk₁₀ S => ?_)
    refine wpAny_execs_nil ?_
    have S := S.perm (ob' := (I, io) :: (R, { cls := .type "list", data := .seq ((as ++ [(De, ({ cls := .type "list", data := .seq ve'.toArray ne } : Obj))]).map fun q => Value.ref q.1).toArray (nR + 1) }) :: l0 :: (as ++ [(De, { cls := .type "list", data := .seq ve'.toArray ne })])) (by
      simp only [List.map_append, List.map_cons, List.map_nil, List.push_toArray]
      exact (List.perm_append_singleton (De, _) ((I, io) :: (R, _) :: l0 :: as)).trans (List.perm_middle (l₁ := [(De, _), (I, io)])))
    refine ⟨rfl, h₁₀, tk₁₀, _, _, _, rfl, S, .head _, List.sublist_cons_self _ _, ?_, R, l0, as ++ [(De, _)], De, ve', ne, nR + 1, by simp [hal], RowsAre.snoc hro (by rw [hal]; exact hei), rfl, by simp, hei, by walk_at "vl", by walk_at "vl", by walk_at "vl", by walk_at "vl", by walk_at "vl", by walk_at "vl", by walk_at "vl", by walk_at "vl"⟩
    intro p hp e
    have nd := S.nd
    rw [List.map_cons, List.nodup_cons] at nd
    exact nd.1 (List.mem_map.mpr ⟨p, hp, e⟩)
end Mine
end
section
open PySem PySem.W PyProof.Rows PySem.Spec PySem.Calls
set_option Elab.async false
set_option maxRecDepth 100000
namespace Mine
theorem mp_owner : Manifest.owners.lookup (String.ofList ['p', 'a', 'm'].reverse) = some Manifest.sig_map := by kernel_rfl
theorem mp_init : Slot "map" "__init__" "object.__init__" :=
  .of (owner := "object") (n := "__init__") (by rw [typeLookup_type, builtinLookup_eq_fast]; kernel_rfl) (by decide +kernel) (by decide +kernel) (by decide +kernel)
    (by first | exact .inl (by decide +kernel) | exact .inr (by decide +kernel)) (by rw [isSubtype_type]; kernel_rfl)
theorem mp_iter : Slot "map" "__iter__" "map.__iter__" :=
  .of (owner := "map") (n := "__iter__") (by rw [typeLookup_type, builtinLookup_eq_fast]; kernel_rfl) (by decide +kernel) (by decide +kernel) (by decide +kernel)
    (by first | exact .inl (by decide +kernel) | exact .inr (by decide +kernel)) (by rw [isSubtype_type]; kernel_rfl)
theorem mp_args_iter (a : Value) : argsOk "map.__iter__" ⟨[a], []⟩ := by
  unfold argsOk; rw [signature?_of (id := "map.__iter__") (n := ['_', '_', 'r', 'e', 't', 'i', '_', '_']) (o := ['p', 'a', 'm']) (by kernel_rfl) mp_owner]; kernel_rfl
theorem mp_next : Slot "map" "__next__" "map.__next__" :=
  .of (owner := "map") (n := "__next__") (by rw [typeLookup_type, builtinLookup_eq_fast]; kernel_rfl) (by decide +kernel) (by decide +kernel) (by decide +kernel)
    (by first | exact .inl (by decide +kernel) | exact .inr (by decide +kernel)) (by rw [isSubtype_type]; kernel_rfl)
theorem mp_entry_next : entryFor table "map.__next__" = some Builtin.«map.__next__» := entryFor_of_tree (by kernel_rfl)
theorem mp_args_next (a : Value) : argsOk "map.__next__" ⟨[a], []⟩ := by
  unfold argsOk; rw [signature?_of (id := "map.__next__") (n := ['_', '_', 't', 'x', 'e', 'n', '_', '_']) (o := ['p', 'a', 'm']) (by kernel_rfl) mp_owner]; kernel_rfl
theorem mp_entry_iter : entryFor table "map.__iter__" = some Builtin.«dict_keyiterator.__iter__» :=
  entryFor_alias (id' := "dict_keyiterator.__iter__") (by kernel_rfl) (by first | rfl | decide +kernel | (unfold String.splitOn; simp +decide [String.splitOnAux])) (by decide +kernel) (by kernel_rfl)
theorem mp_mro : mroOf (.type "map") = pure [.type "map", .type "object"] := by rw [mroOf_type]; kernel_rfl
theorem mp_lookup_new : typeLookup (.type "map") "__new__" = pure (some (.builtin "map.__new__")) := by rw [typeLookup_type, builtinLookup_eq_fast]; kernel_rfl
theorem mp_called : TypeCalled "map" "map.__new__" "object.__init__" :=
  ⟨by decide +kernel, by decide +kernel, ⟨_, _, mp_mro⟩, madeBy_type mp_mro mp_lookup_new (by decide +kernel), by decide +kernel, by rw [isSubtype_type]; kernel_rfl, mp_init⟩
theorem mp_typeCall (a b : Value) : checkTypeCall "map" ⟨[a, b], []⟩ = pure () := by kernel_rfl
theorem mp_newCall (a b : Value) : checkBuiltinCall "map.__new__" ⟨[.type "map", a, b], []⟩ = pure () := by kernel_rfl
theorem mp_entry_new : entryFor table "map.__new__" = some Builtin.«map.__new__» := entryFor_of_tree (by kernel_rfl)
theorem mp_sub : isSubtype (.type "map") (.type "map") = pure true := by rw [isSubtype_type]; kernel_rfl
theorem mp_no_len : typeLookup (.type "map") "__len__" = pure none := by rw [typeLookup_type, builtinLookup_eq_fast]; kernel_rfl
theorem mp_no_hint : typeLookup (.type "map") "__length_hint__" = pure none := by rw [typeLookup_type, builtinLookup_eq_fast]; kernel_rfl
end Mine
end
section
open PySem PySem.W PyProof.Rows PySem.Spec PySem.Calls
set_option Elab.async false
set_option maxRecDepth 100000
namespace Mine
abbrev IsMap (h : Heap) (z TI : Addr) (f : Value) : Prop := h.get? z = some { cls := .type "map", data := .fields #[.ref TI, f] }
abbrev IsOne (h : Heap) (T : Addr) (a : Value) : Prop := h.get? T = some { cls := .type "tuple", data := .seq #[a] }
section
variable {prog : Program} {w : World} {A : Around} {E : Value → Shared → Prop} {s : Shared}
theorem map_next_item {z TI I l : Addr} {k : Nat} {xs : Array Value} {x : Str} {t : Tok} {Q : Fin → Shared → Prop}
    (hz : IsMap s.heap z TI (.builtin "str.capitalize")) (hTI : IsOne s.heap TI (.ref I)) (h1 : s.heap.IsListIter I l k) (hl : s.heap.IsList l xs) (hx : xs[k]? = some (.str x t)) (hfit : x.length ≤ 5592405)
    (hzI : z ≠ I) (hQ : ∀ h' t' tk, h'.IsListIter I l (k + 1) → Heap.SameBut I s.heap h' → Q (.done (.ret (.str (Txt.capitalize x) t'))) { s with heap := h', toks := tk }) :
    wpAny (model prog w) A (Builtin.«map.__next__» ⟨[.ref z], []⟩) Q E s := by
  show wpAny _ _ (field (.ref z) 0 >>= _) _ _ _
  refine wpAny_bind (wpAny_field hz rfl (x := .ref TI) rfl ?_)
  refine wpAny_bind (wpAny_seqItems hTI rfl ?_)
  dsimp only
  refine wpAny_bind ?_
  simp only [Array.forIn_toList.symm, List.forIn_cons, List.forIn_nil]
  refine wpAny_bind (wpAny_bind (wpAny_holding (wpAny_nextOf_list_item h1 hl hx fun h₂ h1₂ hs₂ => wpAny_pure (wpAny_pure ?_))))
  have hz₂ : IsMap h₂ z TI (.builtin "str.capitalize") := hs₂.extBut _ _ hzI hz
  refine wpAny_bind (wpAny_field (s := { s with heap := h₂ }) hz₂ rfl (x := .builtin "str.capitalize") rfl ?_)
  refine wpAny_bind (wpAny_holding ?_)
  show wpAny _ _ (call (.builtin "str.capitalize") [.str x t]) _ _ _
  refine PyProof.Rows.SCL.capitalize hfit fun t' tk _ => ?_
  refine wpAny_bind (wpAny_letGo (wpAny_pure (hQ h₂ t' tk h1₂ hs₂)))
theorem map_next_end {z TI I l : Addr} {k : Nat} {xs : Array Value} {f : Value} {Q : Fin → Shared → Prop} (hh : A.handled = none)
    (hz : IsMap s.heap z TI f) (hTI : IsOne s.heap TI (.ref I)) (h1 : s.heap.IsListIter I l k) (hl : s.heap.IsList l xs) (hx : xs[k]? = none)
    (hE : ∀ h' e, Heap.ExtBut I s.heap h' → (∃ o, h'.get? e = some o ∧ o.cls = .type "StopIteration") → E (.ref e) { s with heap := h' }) :
    wpAny (model prog w) A (Builtin.«map.__next__» ⟨[.ref z], []⟩) Q E s := by
  show wpAny _ _ (field (.ref z) 0 >>= _) _ _ _
  refine wpAny_bind (wpAny_field hz rfl (x := .ref TI) rfl ?_)
  refine wpAny_bind (wpAny_seqItems hTI rfl ?_)
  dsimp only
  refine wpAny_bind ?_
  simp only [Array.forIn_toList.symm, List.forIn_cons, List.forIn_nil]
  exact wpAny_bind (wpAny_bind (wpAny_holding (wpAny_nextOf_list_end hh h1 hl hx hE)))
theorem pyNext_map_item {z TI I l : Addr} {k : Nat} {xs : Array Value} {x : Str} {t : Tok} {Q : Option Value → Shared → Prop}
    (hz : IsMap s.heap z TI (.builtin "str.capitalize")) (hTI : IsOne s.heap TI (.ref I)) (h1 : s.heap.IsListIter I l k) (hl : s.heap.IsList l xs) (hx : xs[k]? = some (.str x t)) (hfit : x.length ≤ 5592405)
    (hzI : z ≠ I) (hQ : ∀ h' t' tk, h'.IsListIter I l (k + 1) → Heap.SameBut I s.heap h' → Q (some (.str (Txt.capitalize x) t')) { s with heap := h', toks := tk }) :
    wpAny (model prog w) A (pyNext (.ref z)) Q E s := by
  have hT : s.TypeIs (.ref z) "map" := ⟨_, hz, rfl⟩
  unfold pyNext
  exact wpAny_bind (wpAny_attempt (wpAny_callSpecial?_slot (name := Str.ofString "__next__") hT mp_next
    (wpAny_call_entry mp_next hT mp_entry_next
      (map_next_item hz hTI h1 hl hx hfit hzI fun h' t' tk a b => ⟨_, rfl, wpAny_pure (hQ h' t' tk a b)⟩) (mp_args_next _))))
theorem pyNext_map_end {z TI I l : Addr} {k : Nat} {xs : Array Value} {f : Value} {Q : Option Value → Shared → Prop} (hh : A.handled = none)
    (hz : IsMap s.heap z TI f) (hTI : IsOne s.heap TI (.ref I)) (h1 : s.heap.IsListIter I l k) (hl : s.heap.IsList l xs) (hx : xs[k]? = none)
    (hQ : ∀ h', Heap.ExtBut I s.heap h' → Q none { s with heap := h' }) : wpAny (model prog w) A (pyNext (.ref z)) Q E s := by
  have hT : s.TypeIs (.ref z) "map" := ⟨_, hz, rfl⟩
  unfold pyNext
  refine wpAny_bind (wpAny_attempt (wpAny_callSpecial?_slot (name := Str.ofString "__next__") hT mp_next
    (wpAny_call_entry mp_next hT mp_entry_next (map_next_end hh hz hTI h1 hl hx fun h' e hk he => ?_) (mp_args_next _))))
  obtain ⟨o, ho, hc⟩ := he
  refine wpAny_bind (wpAny_isInstance (T := "StopIteration") (b := true) ⟨o, ho, hc⟩ isSubtype_stop ?_)
  exact wpAny_pure (hQ _ hk)
theorem pyIter_map {z TI : Addr} {f : Value} {Q : Value → Shared → Prop} (hz : IsMap s.heap z TI f) (h : Q (.ref z) s) : wpAny (model prog w) A (pyIter (.ref z)) Q E s := by
  have hT : s.TypeIs (.ref z) "map" := ⟨_, hz, rfl⟩
  refine wpAny_pyIter_slot hT mp_iter (wpAny_call_entry mp_iter hT mp_entry_iter ?_ (mp_args_iter _))
  show wpAny _ _ (ret (.ref z)) _ _ s
  exact wpAny_pure ⟨_, rfl, "map", _, hT, mp_next.lookup, h⟩
/-- what the map over a list of texts gives -/
theorem walks_map (hh : A.handled = none) (z TI I l : Addr) (hzI : z ≠ I) (hTI : TI ≠ I) (hlI : l ≠ I) (xs : Array Value) (hfit : ∀ (i : Nat) v, xs[i]? = some v → ∃ x t, v = .str x t ∧ x.length ≤ 5592405) :
    Walks prog w A z [z, TI, I, l] [I] xs.size (fun i v => ∃ x t t', xs[i]? = some (.str x t) ∧ v = .str (Txt.capitalize x) t')
      (fun i h => IsMap h z TI (.builtin "str.capitalize") ∧ IsOne h TI (.ref I) ∧ h.IsListIter I l i ∧ h.IsList l xs) where
  sub := fun b hb => by simp at hb; simp [hb]
  frame := fun i h h' ⟨a, b, c, d⟩ hk => ⟨hk z (by simp) _ a, hk TI (by simp) _ b, c.at fun o e => hk I (by simp) o e, d.at fun o e => hk l (by simp) o e⟩
  item := fun i s Q E hi ⟨a, b, c, d⟩ hQ => by
    obtain ⟨x, t, e, hf⟩ := hfit i xs[i] (Array.getElem?_eq_getElem hi)
    have hx : xs[i]? = some (.str x t) := by rw [Array.getElem?_eq_getElem hi, e]
    refine pyNext_map_item a b c d hx hf hzI fun h' t' tk c' hs => ?_
    exact hQ _ h' tk ⟨x, t, t', hx, rfl⟩ ⟨hs.extBut _ _ hzI a, hs.extBut _ _ hTI b, c', d.extBut hs.extBut hlI⟩ fun b o hb e => hs.extBut b o (by simpa using hb) e
  done := fun s Q E ⟨a, b, c, d⟩ hQ => pyNext_map_end hh a b c d (by simp) fun h' hk => hQ h' s.toks fun b o hb e => hk b o (by simpa using hb) e
  self := fun i s Q E ⟨a, _, _, _⟩ hQ => pyIter_map a hQ
end
end Mine
end
section
open PySem PySem.W PyProof.Rows PySem.Spec PySem.Calls
set_option Elab.async false
set_option maxRecDepth 100000
namespace Mine
abbrev mapH1 (h : Heap) (l : Addr) : Heap := h.push { cls := .type "list_iterator", data := .fields #[.ref l, .int 0 0] }
abbrev mapH2 (h : Heap) (l : Addr) : Heap := (mapH1 h l).push { cls := .type "tuple", data := .seq #[.ref h.objs.size] }
abbrev mapH3 (h : Heap) (l : Addr) (f : Value) : Heap := (mapH2 h l).push { cls := .type "map", data := .fields #[.ref (mapH1 h l).objs.size, f] }
theorem meets_map_new (f : String) (l : Addr) (xs : Array Value) :
    Meets (Builtin.«map.__new__» ⟨[.type "map", .builtin f, .ref l], []⟩) (fun _ R s => s.heap.IsList l xs ∧
      R (.ok (.ret (.ref (mapH2 s.heap l).objs.size))) { s with heap := mapH3 s.heap l (.builtin f) }) :=
  .of_wp fun prog w A R s h => by
    obtain ⟨hp, g, d, tk, os⟩ := s; obtain ⟨hl, h⟩ := h
    have hsub := mp_sub
    have hL : Heap.IsList (Shared.heap ⟨hp, g, d, tk, os⟩) l xs := hl
    wp_walk using wpAny_pyIter_list hL
    exact ⟨_, rfl, h⟩
section
variable {prog : Program} {w : World} {A : Around} {E : Value → Shared → Prop} {s : Shared}
theorem call_map {f : String} {l : Addr} {xs : Array Value} {Q : Value → Shared → Prop} (hl : s.heap.IsList l xs)
    (h : ∀ h' z TI I, IsMap h' z TI (.builtin f) → IsOne h' TI (.ref I) → h'.IsListIter I l 0 → z ≠ I → TI ≠ I → l ≠ I → z < h'.objs.size → TI < h'.objs.size → I < h'.objs.size → (∀ c o, s.heap.get? c = some o → h'.get? c = some o) → s.heap.objs.size ≤ I → Q (.ref z) { s with heap := h' }) :
    wpAny (model prog w) A (call (.type "map") [.builtin f, .ref l]) Q E s := by
  refine callType_new mp_called (by decide) (mp_typeCall _ _) (mp_newCall _ _) (fun obj => F.args_object_init_3 obj _ _) mp_entry_new (meets_map_new f l xs) ⟨hl, ?_⟩
  have z1 : (mapH1 s.heap l).objs.size = s.heap.objs.size + 1 := Heap.size_push ..
  have z2 : (mapH2 s.heap l).objs.size = s.heap.objs.size + 2 := by rw [Heap.size_push, z1]
  have z3 : (mapH3 s.heap l (.builtin f)).objs.size = s.heap.objs.size + 3 := by rw [Heap.size_push, z2]
  have g3 : (mapH3 s.heap l (.builtin f)).get? (mapH2 s.heap l).objs.size = some _ := Heap.get?_push_size _ rfl
  have g2 : (mapH3 s.heap l (.builtin f)).get? (mapH1 s.heap l).objs.size = some _ := Heap.get?_push_of_some _ (Heap.get?_push_size _ rfl)
  have g1 : (mapH3 s.heap l (.builtin f)).get? s.heap.objs.size = some _ := Heap.get?_push_of_some _ (Heap.get?_push_of_some _ (Heap.get?_push_size _ rfl))
  have hlt : l < s.heap.objs.size := by obtain ⟨_, e, _⟩ := hl; exact Heap.lt_size e
  refine ⟨⟨_, g3, rfl⟩, h _ _ _ _ g3 g2 ⟨_, g1, rfl, rfl⟩ ?_ ?_ (Nat.ne_of_lt hlt) ?_ ?_ ?_ (fun c o x => Heap.get?_push_of_some _ (Heap.get?_push_of_some _ (Heap.get?_push_of_some _ x))) (Nat.le_refl _)⟩
  · rw [z2]; exact Nat.ne_of_gt (Nat.lt_add_of_pos_right (by decide))
  · rw [z1]; exact Nat.ne_of_gt (Nat.lt_succ_self _)
  · exact Heap.lt_size g3
  · exact Heap.lt_size g2
  · exact Heap.lt_size g1
/-- str.join over a map -/
theorem collect_map {I : Addr} {fp wr : List Addr} {G : Array GenState → Array GenState → Prop} {n : Nat} {P : Nat → Value → Prop} {St : Nat → Shared → Prop} {Q : List Value → Shared → Prop} (W : WalksS prog w A.in1 I fp wr G n P St) (hT : ∀ i s, St i s → s.TypeIs (.ref I) "map") (hst : St 0 s) (hfp : ∀ b ∈ fp, b < s.heap.objs.size) (hI : I ∈ fp)
    (hQ : ∀ s' acc, Moved wr G s s' → ItemsOf P acc n → Q acc.toList s') (hn : n ≤ sizeLine) : wpAny (model prog w) A (collect (.ref I)) Q E s := by
  have hSf : s.heap.objs.size ∉ fp := fun hm => Nat.lt_irrefl _ (hfp _ hm)
  have hSI : s.heap.objs.size ≠ I := fun e => hSf (e ▸ hI)
  unfold collect
  refine wpAny_bind (wpAny_runValue (codeAny_builtin F.entry_proto_collect ?_))
  rw [Around.under_plainId F.plain_proto_collect _]
  show wpAny _ A.in1 (newList [] >>= fun l => again (.builtin "list.__iadd__" ⟨[l, .ref I], []⟩)) _ _ s
  refine wpAny_bind (wpAny_newObj_type ?_)
  refine wpAny_pure ⟨plainId_quiet F.plain_list_iadd _, codeAny_builtin F.entry_list_iadd ?_⟩
  rw [Around.under_plainId F.plain_list_iadd _]
  have hst₁ := W.frame 0 s (s.heap.push { cls := .type "list", data := .seq ([] : List Value).toArray }) s.toks hst (Nat.le_refl _) fun b _ o e => Heap.get?_push_of_some _ e
  show wpAny _ A.in1 (Builtin.List.listExtendWith (.ref s.heap.objs.size) (.ref I) (.ref s.heap.objs.size)) _ _ _
  unfold Builtin.List.listExtendWith
  refine wpAny_bind (wpAny_typeOf (hT 0 _ hst₁) ?_)
  have h1 : Builtin.List.listSameRef (.ref s.heap.objs.size) (.ref I) = false := by simp [Builtin.List.listSameRef, hSI]
  have h2 : (Value.type "map" == Value.type "list") = false := by decide
  have h3 : (Value.type "map" == Value.type "tuple") = false := by decide
  simp only [h1, h2, h3, Bool.or_false, Bool.false_eq_true, if_false]
  refine wpAny_bind (W.self 0 _ _ _ hst₁ ?_)
  refine wpAny_bind (wpAny_holding ?_)
  unfold Builtin.List.listLengthHint
  refine wpAny_bind (wpAny_specialOf (hT 0 _ hst₁) mp_no_len ?_)
  show wpAny _ A.in1 (specialOf (Value.ref I) (Str.ofString "__length_hint__") >>= _) _ _ _
  refine wpAny_bind (wpAny_specialOf (hT 0 _ hst₁) mp_no_hint ?_)
  refine wpAny_pure ?_
  show wpAny _ A.in1 (rule "list.extend.makes-room" >>= fun _ => Builtin.List.listTouch (.ref s.heap.objs.size) >>= fun _ =>
    again (.builtin "list.extend.loop" ⟨[.ref s.heap.objs.size, .ref I, .ref s.heap.objs.size], []⟩)) _ _ _
  refine wpAny_bind (wpAny_rule ?_)
  have hS₁ : (s.heap.push { cls := .type "list", data := .seq ([] : List Value).toArray }).get? s.heap.objs.size = some { cls := .type "list", data := .seq ([] : List Value).toArray } := Heap.get?_push_size _ rfl
  refine wpAny_bind ?_
  show wpAny _ A.in1 (updateSeq s.heap.objs.size (·.push .none) >>= fun _ => updateSeq s.heap.objs.size (·.pop)) _ _ _
  refine wpAny_bind (wpAny_updateSeq hS₁ rfl ?_)
  have hS₂ := Heap.get?_update_self (Obj.mapSeq (·.push Value.none)) hS₁ rfl
  refine wpAny_updateSeq hS₂ rfl ?_
  have hS₃ := Heap.get?_update_self (Obj.mapSeq (·.pop)) hS₂ rfl
  have oth : ∀ b o, b ≠ s.heap.objs.size → (s.heap.push { cls := .type "list", data := .seq ([] : List Value).toArray }).get? b = some o →
      (((s.heap.push { cls := .type "list", data := .seq ([] : List Value).toArray }).update s.heap.objs.size (Obj.mapSeq (·.push Value.none))).update s.heap.objs.size (Obj.mapSeq (·.pop))).get? b = some o :=
    fun b o hb e => (Heap.get?_update_other _ _ (Ne.symm hb)).trans ((Heap.get?_update_other _ _ (Ne.symm hb)).trans e)
  refine wpAny_pure ⟨plainId_quiet F.plain_extend_loop _, codeAny_extend_loopS W hn _ hSf _ n 0 _ _ _ rfl (Nat.zero_le _)
    (W.frame 0 ({ s with heap := s.heap.push { cls := .type "list", data := .seq ([] : List Value).toArray } } : Shared) _ s.toks hst₁ (Nat.le_refl _) fun b hb o e => oth b o (fun h => hSf (h ▸ hb)) e) hS₃ (ItemsOf.nil P) fun s' acc' c' hm hS' hacc => ?_⟩
  show wpAny _ A (load s.heap.objs.size >>= _) _ _ s'
  refine wpAny_bind (wpAny_load hS' ?_)
  refine wpAny_pure (hQ s' acc' (Moved.drop_new (o := { cls := .type "list", data := .seq ([] : List Value).toArray }) (tk := s.toks) (Moved.trans W.gtrans ((Moved.refl W.grefl).then_heap (by first | exact Nat.le_refl _ | exact Nat.le_succ _ | omega) fun b o hb e => ?_) hm) (Nat.le_refl _)) hacc)
  exact oth b o (fun h => hb (h ▸ List.mem_cons_self)) e
theorem joinMap {I : Addr} {fp wr : List Addr} {n : Nat} {P : Nat → Value → Prop} {St : Nat → Heap → Prop} {x : Str} {t : Tok} {Q : Value → Shared → Prop} (W : Walks prog w A.in1.in1 I fp wr n P St) (hT : ∀ i (s : Shared), St i s.heap → s.TypeIs (.ref I) "map") (hst : St 0 s.heap) (hfp : ∀ b ∈ fp, b < s.heap.objs.size) (hI : I ∈ fp)
    (hstr : ∀ i v, P i v → ∃ y u, v = Value.str y u)
    (hq : ∀ s' (l : List (Str × Tok)), Moved wr (fun a b => b = a) s s' → ItemsOf P (strValues l).toArray n → JoinOk x (l.map (·.1)) = true ∧ ∀ t' k, Q (.str (Txt.join x (l.map (·.1))) t') { s' with toks := k })
    (hsz : n ≤ sizeLine) :
    wpAny (model prog w) A (call (.builtin "str.join") [.str x t, .ref I]) Q E s := by
  refine wpAny_call (codeAny_call_builtin F.slot_str_join.plain F.entry_str_join (F.slot_str_join.check _ _ _ _ _ _ _ _ (typeIs_str _ _ _) (F.args_str_join_2 _ _) ?_))
  rw [join_tree_other]
  refine wpAny_bind (wpAny_typeOf (hT 0 s hst) ?_)
  show wpAny _ A.in1 ((pyIter (.ref I)).tryCatch _ >>= fun it => collect it >>= fun items => joinTail x items) _ _ s
  refine wpAny_bind (wpAny_tryCatch (W.of_in1.self 0 s _ _ hst ?_))
  refine wpAny_bind (collect_map W.toS hT hst hfp hI (fun s' acc hm hacc => ?_) hsz)
  obtain ⟨l, hl⟩ := exists_strValues acc.toList fun v hv => by
    obtain ⟨j, hj, rfl⟩ := Array.mem_iff_getElem.mp (Array.mem_toList_iff.mp hv)
    exact hstr j _ (hacc.2 j _ (Array.getElem?_eq_getElem hj))
  rw [← hl]
  have hacc' : ItemsOf P (strValues l).toArray n := by rw [hl]; simpa using hacc
  obtain ⟨hok, hpost⟩ := hq s' l hm hacc'
  unfold JoinOk at hok
  rw [Bool.not_eq_true'] at hok
  have g : Gives (joinTail x (strValues l)) (joinMade x l) := by
    have g0 := gives_joinTail x l hok
    cases l with
    | nil => exact g0
    | cons p r => cases r with
      | nil => exact g0
      | cons q r' => exact g0
  exact g prog w A (wants Q E) s' (post_join l ⟨joinFit_length hok, hpost⟩)
end
end Mine
end
section
open PySem PySem.W PyProof.Rows PySem.Spec PySem.Calls
set_option Elab.async false
set_option maxRecDepth 100000
set_option maxHeartbeats 8000000
namespace Mine
theorem Ld.go {prog : Program} {w : World} {A : Around} {ev : Env} {h : Heap} {x : Str} {v : Value} {pos : Pos} {s : Shared} {E Q : Value → Shared → Prop} (l : Ld prog w A ev h x v) (hs : Ext h s.heap) (q : Q v s) : wpAny (model prog w) A (eval (.Name x pos) ev) Q E s := l pos s E Q hs q
theorem attr_capitalize {prog : Program} {w : World} {A : Around} {s : Shared} {K : Frag} {E Q : Value → Shared → Prop} (X : K.In s.heap)
    (e : findCls K (.type "str") (.type "type") (Str.ofString "capitalize") = some (.val (.builtin "str.capitalize")))
    (h : ∀ u, Q (.builtin "str.capitalize") { s with toks := u }) : wpAny (model prog w) A (getAttr (.type "str") (Str.ofString "capitalize") true) Q E s := by
  have hstub : opaqueClassAbove (.type "str") = pure none := by unfold opaqueClassAbove; dsimp only; rw [show Manifest.isStub "str" = false by decide +kernel]; rfl
  have ht : typeOf (.type "str") = pure (.type "type") := kitMeta_of (by decide +kernel)
  have L0 : Looks (model prog w) s.heap (typeOf (.type "str")) (.type "type") := Looks.of_pure ht
  have LO : Looks (model prog w) s.heap (opaqueClassAbove (.type "str")) none := Looks.of_pure hstub
  have hg : findIn K (.type "type") "__getattribute__" = some (some (.builtin "type.__getattribute__")) := type_tga
  refine cls_open X LO L0 hg (looks_hook X (r := none) (by rfl)) (by show subIn K _ _ = _; rfl) e ?_
  exact wpAny_pure (handed_on rfl (h _))
def capF (x : Str) : Str := Txt.join (Str.ofString "--") ((Txt.split x (Str.ofString "--")).map Txt.capitalize)
theorem cap_tells {w : World} {p : Program} {loose : List Str} {mean : ExcName → Option Value} {mg mb : Str → Option Value}
  {dp un : Nat} {gd : Option (List Code)} {cn : Str} {cs : Scope} {a : Addr} {ccd : Value} {cl : List (Str × Addr)} {outer : List Env} {A₀ : Around} {base h₀ : Heap} {L : Addr} {m : Str → Option Value} {s : Shared} {Q E : Value → Shared → Prop}
  {x : Str} {t1 t2 : Tok} (hx : x.length ≤ 100000) (hp : ∀ y ∈ Txt.split x (Str.ofString "--"), y.length ≤ 100000) (hps : (Txt.split x (Str.ofString "--")).length ≤ 100000)
  (hpb : (Builtin.Str.partsBetween x (Builtin.Str.occurrences x (Str.ofString "--") 0 x.length (x.length + 1)) (Str.ofString "--").length).length ≤ sizeLine)
  (hj : JoinOk (Str.ofString "--") ((Txt.split x (Str.ofString "--")).map Txt.capitalize) = true)
  (B : Below A₀ base outer h₀) (F : Fr h₀ L s.heap m) (X : (hd.heap_39 w.params).In h₀) (T : Top p loose mean mg mb h₀) (hk : cs.kind = .function)
  (hdp : dp + 3 < recursionLimit) (hu : un + 40 < cLine)
  (hret : ∀ r (h' : Heap) (tk' : Nat), Ext s.heap h' → Fr h₀ L h' m → Q (.str (capF x) r) { s with heap := h', toks := tk' }) :
      wpAny (model Challenge.rw_pw0001_01.row.prog w) (ktrTop dp un gd cn cs L a ccd cl outer) (call (.ref 22) [.str x t1, .str (Str.ofString "--") t2]) Q E s := by
  revert X
  k_fill
  intro X
  refine wpAny_call ?_
  refine' enter_St ?k1 ?k2 ?k3 ?k5 ?kA ?kF ?kK ?k6 ?k7 ?k8 ?k9 ?kB ?kD ?kE ?_ ?c2 ?c3 ?c4; (case kA => exact rfl); (case kF => exact rfl); (case kK => first | assumption | exact rfl); (case k1 => k_asm); (case k2 => k_asm); (case k3 => k_asm); (case k5 => k_asm); (case k6 => k_dflt k_is); (case k7 => k_dflt k_is); (case k8 => ktr_room); (case k9 => (have hX9 := Frag.In.keeps X (Fr.keep F)); first | exact binds_K hX9 rfl (by k_is) rfl rfl rfl | (refine' kp_binds ?kx ?ke; (case kx => exact hX9); (case ke => exact fun _ => rfl))); (case kB => exact rfl); (case kD => decide +kernel); (case kE => exact rfl); (case c2 => exact rfl); (case c3 => exact rfl); (case c4 => exact rfl)
  intro L' h₁ tk S B' X' T'
  generalize hV : entV _ _ = V at S
  have vs : V (Str.ofString "s") = some (.str x t1) := by rw [← hV]; rfl
  have ve : V (Str.ofString "sep") = some (.str (Str.ofString "--") t2) := by rw [← hV]; rfl
  clear hV
  generalize hA : Around.deeper _ _ = A1
  have hh : A1.handled = none := by rw [← hA]; rfl
  clear hA
  have hsl : (Str.ofString "--").length = 2 := by decide
  refine wpAny_execs_cons (wpAny_Return_some (Call_method1 (by rfl) (by rfl) (by rfl) ?_))
  refine BoolOp_or ((S.ld ve rfl rfl).go (Ext.refl _) ?_)
  refine PyProof.Rows.SBL.truthy (by rw [hsl]; decide) ?_
  rw [show (((Str.ofString "--").length : Int) != 0) = true by rw [hsl]; decide]
  simp only [if_true]
  refine ⟨"str", "str.join", PySem.F.plainAttrs_str, PySem.F.slot_str_join, PySem.F.type_str_join, typeIs_str _ _ _, nofun, ?_⟩
  refine Calls.callWith_builtin rfl (Calls.evalArgs_plain (Calls.spliced_cons ?_))
  -- map(str.capitalize, s.split(sep))
  refine wpAny_Call_NameR ((Ld_built (v := .type "map") T' X' (by k_dflt k_is) (by boot_by_name) (by decide) rfl rfl rfl rfl).go S.keep ?_)
  refine PySem.callWith_type rfl (Calls.evalArgs_plain (Calls.spliced_cons ?_))
  refine Attribute_name ((Ld_built (v := .type "str") T' X' (by k_dflt k_is) (by boot_by_name) (by decide) rfl rfl rfl rfl).go S.keep ?_)
  refine attr_capitalize (X'.keeps S.keep) (by k_dflt k_is) fun u => ?_
  refine Calls.spliced_cons (Call_method1 (by rfl) (by rfl) (by rfl) ?_)
  refine (S.ld vs rfl rfl).go (Ext.refl _) ?_
  refine ⟨"str", "str.split", PySem.F.plainAttrs_str, PySem.F.slot_str_split, PySem.F.type_str_split, typeIs_str _ _ _, nofun, ?_⟩
  refine Calls.callWith_builtin rfl (Calls.evalArgs_plain (Calls.spliced_cons ((S.ld ve rfl rfl).go (Ext.refl _) (Calls.spliced_nil ?_))))
  refine SCG.split1 (Fm := fun s' => ∃ h' k, s' = { s with heap := h', toks := k } ∧ Ext h₁ h') (by rintro s' ob k ⟨h', k', rfl, x⟩; exact ⟨_, k, rfl, x.trans (Ext.push _ _)⟩) ⟨_, _, rfl, Ext.refl _⟩ (by rw [hsl]; rfl) (fun D l s' hl ⟨h₂, tk₂, e, e₂⟩ hD => ?_) (Nat.le_trans hx (by rw [sizeLine_eq]; decide)) hpb
  subst e
  refine Calls.spliced_nil ?_
  -- the map
  refine call_map (s := { s with heap := h₂, toks := tk₂ }) hD fun h₃ z TI I g1 g2 g3 n1 n2 n3 l1 l2 l3 e₃ hI => ?_
  refine Calls.spliced_nil ?_
  have hlen : l.length = (Txt.split x (Str.ofString "--")).length := by rw [← hl, List.length_map]
  have hD₃ : h₃.IsList D (strValues l).toArray := isList_ext hD e₃
  have hDlt : D < h₃.objs.size := by obtain ⟨_, e, _⟩ := hD₃; exact Heap.lt_size e
  have hsz : (strValues l).toArray.size = l.length := by simp [strValues]
  have hget : ∀ (i : Nat) v, (strValues l).toArray[i]? = some v → ∃ y u, l[i]? = some (y, u) ∧ v = .str y u := by
    intro i v hv
    simp only [strValues, List.getElem?_toArray, List.getElem?_map, Option.map_eq_some_iff] at hv
    obtain ⟨⟨y, u⟩, e1, e2⟩ := hv
    exact ⟨y, u, e1, e2.symm⟩
  refine joinMap (s := { s with heap := h₃, toks := tk₂ }) (walks_map (A := A1.in1.in1) hh z TI I D n1 n2 n3 (strValues l).toArray (fun i v hv => ?_)) (fun i s' st => ⟨_, st.1, rfl⟩) ⟨g1, g2, g3, hD₃⟩ (fun b hb => ?_) (by simp) (fun i v ⟨y, t, t', _, e⟩ => ⟨_, _, e⟩) (fun s' l' hm hit => ?_) ?_
  · obtain ⟨y, u, e1, e2⟩ := hget i v hv
    refine ⟨y, u, e2, Nat.le_trans (hp y ?_) (by decide)⟩
    rw [← hl]
    exact List.mem_map_of_mem (f := (·.1)) (List.mem_of_getElem? e1)
  · simp only [List.mem_cons, List.not_mem_nil, or_false] at hb
    rcases hb with rfl | rfl | rfl | rfl
    · exact l1
    · exact l2
    · exact l3
    · exact hDlt
  · have e5 : l'.map (·.1) = (Txt.split x (Str.ofString "--")).map Txt.capitalize := by
      rw [← hl, List.map_map]
      refine List.ext_getElem? fun i => ?_
      have hlen' : l'.length = l.length := by have := hit.1; simpa [strValues] using this
      rw [List.getElem?_map, List.getElem?_map]
      rcases Nat.lt_or_ge i l.length with hi | hi
      · have hi' : i < l'.length := hlen' ▸ hi
        have h5 := hit.2 i (.str (l'[i]).1 (l'[i]).2) (by simp [strValues, hi'])
        obtain ⟨y, u, u', e1, e2⟩ := h5
        obtain ⟨y', v', e3, e4⟩ := hget i _ e1
        cases e4
        rw [e3, List.getElem?_eq_getElem hi']
        simp only [Option.map_some, Function.comp]
        rw [(Value.str.inj e2).1]
      · rw [List.getElem?_eq_none hi, List.getElem?_eq_none (hlen' ▸ hi)]; rfl
    rw [e5]
    refine ⟨hj, fun t' k => ?_⟩
    have e6 : Ext h₁ s'.heap := fun b o eb => hm.heap b o (fun hb => by
      rw [List.mem_singleton.mp hb] at eb
      exact absurd (Heap.lt_size (e₂ _ _ eb)) (Nat.not_lt.mpr hI)) (e₃ _ _ (e₂ _ _ eb))
    obtain ⟨hp', gg, dd, tt, oo⟩ := s'
    have q1 : gg = s.gens := hm.gens
    have q2 : dd = s.drawn := hm.drawn
    have q3 : oo = s.os := hm.os
    subst q1 q2 q3
    exact ⟨_, [], S.ext e6, fun e F _ => hret t' hp' k e F⟩
  · rw [hsz, hlen]; exact Nat.le_trans hps (by rw [sizeLine_eq]; decide)
end Mine
end
section
open PySem PySem.W PyProof.Rows PySem.Spec PySem.Calls
set_option Elab.async false
set_option maxRecDepth 100000
set_option maxHeartbeats 8000000
namespace Mine
abbrev addrOf {h : Heap} {a : Addr} {its : Array Value} (_ : h.IsList a its) : Addr := a
abbrev nsOf {vs : List Value} {ns : List Int} (_ : IntsAre vs ns) : List Int := ns
theorem St.envIs' {g h : Heap} {ev : Env} {V : Str → Option Value} {ob : List (Addr × Obj)} (_ : St g ev h V ob) : ∃ e, e = ev := ⟨ev, rfl⟩
theorem St.addList {g h h' : Heap} {ev : Env} {V : Str → Option Value} {ob : List (Addr × Obj)} (S : St g ev h V ob) (e : Ext h h') : ∀ {l : List (Addr × Obj)}, (∀ p ∈ l, h.get? p.1 = none) → (∀ p ∈ l, h'.get? p.1 = some p.2) → (l.map Prod.fst).Nodup → St g ev h' V (l ++ ob)
  | [], _, _, _ => S.ext e
  | (d, o) :: l, hn, hg, nd => by
    rw [List.map_cons, List.nodup_cons] at nd
    have S' := St.addList S e (l := l) (fun p hp => hn p (.tail _ hp)) (fun p hp => hg p (.tail _ hp)) nd.2
    have S1 := S.add e (hn _ (.head _)) (hg _ (.head _))
    refine ⟨S'.keep, S'.above, S'.ns, S'.cell, S'.apart, fun p hp => ?_, ?_⟩
    · rcases List.mem_cons.mp hp with rfl | hp
      · exact S1.obs _ (.head _)
      · exact S'.obs p hp
    · rw [List.cons_append, List.map_cons, List.nodup_cons]
      refine ⟨fun hm => ?_, S'.nd⟩
      rw [List.map_append, List.mem_append] at hm
      rcases hm with hm | hm
      · exact nd.1 hm
      · obtain ⟨p, hp, e1⟩ := List.mem_map.mp hm
        have := (S.obs p hp).1
        rw [e1] at this
        have h2 : h.get? d = none := hn _ (.head _)
        rw [h2] at this; cases this
theorem law_enter {M : Model} {A : Around} {body : List Stmt} {env : Env} {Q : Flow → Shared → Prop} {E : Value → Shared → Prop} {s : Shared} {g : Heap} {m : Str → Option Value} (V : Str → Option Value) {n1 n2 n3 n4 : Str} {c1 c2 c3 c4 : Addr} {o1 o2 o3 o4 : Obj}
    (F : Fr g env.locals s.heap m) (N : News g env.locals s.heap [(c1, o1), (c2, o2), (c3, o3), (c4, o4)]) (hc : env.cells = [(n1, c1), (n2, c2), (n3, c3), (n4, c4)]) (hm : ∀ x, env.kindOf x = some .local → m x = V x)
    (d1 : o1.data = .cell (V n1)) (d2 : o2.data = .cell (V n2)) (d3 : o3.data = .cell (V n3)) (d4 : o4.data = .cell (V n4))
    (l4 : c4 = env.locals + 1) (l3 : c3 = env.locals + 1 + 1) (l2 : c2 = env.locals + 1 + 1 + 1) (l1 : c1 = env.locals + 1 + 1 + 1 + 1)
    (k : St g env s.heap V [] → wpAny M A (execs body env) Q E s) : wpAny M A (execs body env) Q E s := by
  have lt4 : ∀ a b : Nat, b = a + 1 + 1 + 1 + 1 → a < b := fun a b h => by omega
  have lt3 : ∀ a b : Nat, b = a + 1 + 1 + 1 → a < b := fun a b h => by omega
  have lt2 : ∀ a b : Nat, b = a + 1 + 1 → a < b := fun a b h => by omega
  have lt1 : ∀ a b : Nat, b = a + 1 → a < b := fun a b h => by omega
  have ap : env.cells.Pairwise fun x y => x.2 ≠ y.2 := by
    have n1 : ∀ a : Nat, a + 1 + 1 + 1 + 1 ≠ a + 1 + 1 + 1 := fun a => by omega
    have n2 : ∀ a : Nat, a + 1 + 1 + 1 + 1 ≠ a + 1 + 1 := fun a => by omega
    have n3 : ∀ a : Nat, a + 1 + 1 + 1 + 1 ≠ a + 1 := fun a => by omega
    have n4 : ∀ a : Nat, a + 1 + 1 + 1 ≠ a + 1 + 1 := fun a => by omega
    have n5 : ∀ a : Nat, a + 1 + 1 + 1 ≠ a + 1 := fun a => by omega
    have n6 : ∀ a : Nat, a + 1 + 1 ≠ a + 1 := fun a => by omega
    rw [hc]
    subst l1 l2 l3 l4
    refine List.pairwise_cons.mpr ⟨?_, List.pairwise_cons.mpr ⟨?_, List.pairwise_cons.mpr ⟨?_, List.pairwise_cons.mpr ⟨fun _ hp => (List.not_mem_nil hp).elim, List.Pairwise.nil⟩⟩⟩⟩
    · intro y hy
      simp only [List.mem_cons, List.not_mem_nil, or_false] at hy
      rcases hy with rfl | rfl | rfl
      · exact n1 _
      · exact n2 _
      · exact n3 _
    · intro y hy
      simp only [List.mem_cons, List.not_mem_nil, or_false] at hy
      rcases hy with rfl | rfl
      · exact n4 _
      · exact n5 _
    · intro y hy
      rw [List.mem_singleton.mp hy]
      exact n6 _
  refine k ⟨F.keep, F.above, ⟨m, F.ns, hm⟩, fun x c hx => ?_, ap, fun _ hp => (List.not_mem_nil hp).elim, List.Pairwise.nil⟩
  have hmem := mem_of_lookup hx
  rw [hc] at hmem
  simp only [List.mem_cons, List.not_mem_nil, or_false, Prod.mk.injEq] at hmem
  rcases hmem with ⟨rfl, rfl⟩ | ⟨rfl, rfl⟩ | ⟨rfl, rfl⟩ | ⟨rfl, rfl⟩
  · exact ⟨⟨o1, (N _ (.head _)).1, d1⟩, lt4 _ _ l1⟩
  · exact ⟨⟨o2, (N _ (.tail _ (.head _))).1, d2⟩, lt3 _ _ l2⟩
  · exact ⟨⟨o3, (N _ (.tail _ (.tail _ (.head _)))).1, d3⟩, lt2 _ _ l3⟩
  · exact ⟨⟨o4, (N _ (.tail _ (.tail _ (.tail _ (.head _))))).1, d4⟩, lt1 _ _ l4⟩
end Mine
end
section
open PySem PySem.W PyProof.Rows PySem.Spec PySem.Calls
set_option Elab.async false
set_option maxRecDepth 100000
namespace Mine
section
variable {prog : Program} {w : World} {A : Around} {ev : Env} {h : Heap}
theorem EvN.upto {a : Expr} {xs : List Int} {k : Int} {c : Nat} {p q pos : Pos} (x : EvL prog w A ev a h xs) (hk : 0 ≤ k) (hl : xs.length ≤ 1000000) (ht : ∀ o r, letTemporaryGo a o r = pure () := by intro _ _; rfl) :
    EvN prog w A ev (.Subscript a (.Slice none (some (.Constant (.int k) c p)) none q) pos) h (xs.take k.toNat) := fun s E Q hs qq => by
  refine wpAny_Subscript_list_slice (x s _ _ hs fun v h₁ tk₁ e₁ ⟨l, vs, hv, hl', hi⟩ => ?_) ht
  subst hv
  refine wpAny_evalPart_none (wpAny_evalPart_some (wpAny_Constant_int ?_))
  refine ⟨l, vs.toArray, none, some k, rfl, hl', ?_, .none, .int _ _, ?_⟩
  · rw [List.size_toArray, hi.length]; exact Nat.le_trans hl (by rw [sizeLine_eq]; decide)
  · refine qq _ _ _ ((e₁.trans (Ext.push _ _)).trans (Ext.push _ _)) ⟨_, (slicePick vs.toArray none (some k) none).toList, 0, rfl, ?_, ?_, slice_ints_uptoW hi hk⟩
    · cases e : s.heap.get? (h₁.objs.size + 1) with
      | none => rfl
      | some o => exact absurd (Heap.lt_size (e₁ _ _ e)) (Nat.not_lt.mpr (Nat.le_succ _))
    · have e1 := Heap.get?_push_size (h₁.push { cls := .type "slice", data := .fields #[.none, .int k tk₁, .none] }) (o := { cls := .type "list", data := .seq (slicePick vs.toArray none (some k) none) }) rfl
      rw [Heap.size_push] at e1
      rw [Array.toArray_toList]
      exact e1
theorem EvI.lenL {f : Str} {a : Expr} {xs : List Int} {fp pos : Pos} (lf : Ld prog w A ev h f (.builtin "len")) (x' : EvL prog w A ev a h xs) (hl : xs.length ≤ 1000000)
    (he : starEach [a] ev = [(false, eval a ev)] := by rfl) : EvI prog w A ev (.Call (.Name f fp) [a] [] pos) h xs.length := fun s E Q hs q => by
  refine wpAny_Call_NameR (lf _ s _ _ hs ?_)
  rw [he]
  refine callWith_builtin1 (x' s _ _ hs fun v h₁ tk₁ e₁ ⟨l, vs, hv, hl', hi⟩ => ?_)
  subst hv
  have hsz : vs.toArray.size = xs.length := by rw [List.size_toArray, hi.length]
  refine len_list (s := { s with heap := h₁, toks := tk₁ }) hl' (by rw [hsz]; omega) ?_
  rw [hsz]
  exact q _ h₁ _ e₁ ⟨_, rfl⟩
/-- x.lower() -/
theorem EvS.lower {a : Expr} {x : Str} {apos pos : Pos} (x' : EvS prog w A ev a h x) (hx : x.length ≤ 1000000)
    (hbase : attributeBase a (Str.ofString "lower") ev (eval a ev) = eval a ev := by rfl) (hline : (apos.endLine == pos.line) = true := by rfl) :
    EvS prog w A ev (.Call (.Attribute a (Str.ofString "lower") apos) [] [] pos) h (Txt.lower x) := fun s E Q hs q => by
  refine Call_method0 hbase hline (EvS.go x' hs fun t h₁ tk₁ e₁ => ?_)
  exact PyProof.Rows.SBL.lower (by omega) fun _ => q _ h₁ _ e₁ ⟨_, rfl⟩
theorem Tst.neS {a b : Expr} {x y : Str} {pos : Pos} (x' : EvS prog w A ev a h x) (y' : EvS prog w A ev b h y) (hm : behindInMarks .NotEq b = false := by with_unfolding_all rfl) : Tst prog w A ev (.Compare a [.NotEq] [b] pos) h (x != y) := fun s E Q hs q => by
  refine wpAny_isTrue_Compare1 (EvS.go x' hs fun t h₁ tk₁ e₁ => EvS.go y' (hs.trans e₁) fun u h₂ tk₂ e₂ => ?_) hm
  exact ne_str (wpAny_truthy_bool (q h₂ tk₂ (e₁.trans e₂)))
end
/-- what told asks of three parts and their whole -/
structure ToldOk (r g b whole : Int) : Prop where
  hw : 0 < whole
  hr : 0 ≤ r ∧ r ≤ whole
  hg : 0 ≤ g ∧ g ≤ whole
  hb : 0 ≤ b ∧ b ≤ whole
  hwb : whole ≤ 15360
  hmm : mn3 r g b < mx3 r g b
  f1 : Float64.isInf (qF r whole) = false
  f2 : Float64.isInf (qF g whole) = false
  f3 : Float64.isInf (qF b whole) = false
  f6 : Float64.isInf (qF (mx3 r g b) whole) = false
  f7 : Float64.cmp (max3F (qF r whole) (qF g whole) (qF b whole)) (qF (mx3 r g b) whole) = some .eq
  f4 : Float64.isFinite (Float64.add (Float64.mul (Float64.ofInt (6 * (mx3 r g b - mn3 r g b))) (rgbH (qF r whole) (qF g whole) (qF b whole))) 4602678819172646912) = true
  f5 : Float64.isFinite (Float64.add (Float64.mul (Float64.ofInt (mx3 r g b)) (rgbS (qF r whole) (qF g whole) (qF b whole))) 4602678819172646912) = true
  h1 : (Float64.cmp (min3F (qF r whole) (qF g whole) (qF b whole)) (max3F (qF r whole) (qF g whole) (qF b whole)) == some .eq) = false
  h2 : Float64.isZero (max3F (qF r whole) (qF g whole) (qF b whole)) = false
  h3 : Float64.isZero (Float64.sub (max3F (qF r whole) (qF g whole) (qF b whole)) (min3F (qF r whole) (qF g whole) (qF b whole))) = false
  hB : toldB r g b whole = true
def turnOf (t : Int) : Int := 5 + t.fmod 12
def placeOf (t : Int) : Int := (2 + t.fdiv 12).fmod (turnOf t)
def thirdsOf (t : Int) : Int := 1 + (t.fdiv 192).fmod 2
def shareOf (t : Int) : Int := 4 - (t.fdiv 384).fmod 4
def levelOf (t : Int) : Int := 4 - (t.fdiv 1536).fmod 4
def countOf (ns : List Int) : Int := 12 + 4 * ((ns.take 12).length : Int)
def textOf (ns : List Int) : Str := rowF (ns.take 12) (countOf ns).toNat
def lettersOf (ns : List Int) : Str := Txt.replace (capF (textOf ns)) (Str.ofString "-") (Str.ofString "")
def dueOf (t : Int) (below : Int) (part : Int) : Int := below * turnOf t * levelOf t * (4 - shareOf t) + levelOf t * shareOf t * part
def pureT (t : Int) (below : Int) (c : Nat) : Int := pureOf below (placeOf t) (turnOf t) (thirdsOf t) c
/-- what the law's walk asks of its script -/
structure LawOk (ns : List Int) : Prop where
  hx : (textOf ns).length ≤ 100000
  hp : ∀ y ∈ Txt.split (textOf ns) (Str.ofString "--"), y.length ≤ 100000
  hps : (Txt.split (textOf ns) (Str.ofString "--")).length ≤ 100000
  hpb : (Builtin.Str.partsBetween (textOf ns) (Builtin.Str.occurrences (textOf ns) (Str.ofString "--") 0 (textOf ns).length ((textOf ns).length + 1)) (Str.ofString "--").length).length ≤ sizeLine
  hj : JoinOk (Str.ofString "--") ((Txt.split (textOf ns) (Str.ofString "--")).map Txt.capitalize) = true
  hc : (capF (textOf ns)).length ≤ 100000
  low : (Txt.lower (capF (textOf ns)) != Txt.lower (textOf ns)) = false
  mix : MixOk (lettersOf ns) (placeOf (ns.take 12).sum) (turnOf (ns.take 12).sum) (thirdsOf (ns.take 12).sum) (shareOf (ns.take 12).sum) (levelOf (ns.take 12).sum)
  llen : ((lettersOf ns).length : Int) = countOf ns
  eqs : ∀ k : Nat, (k : Int) < countOf ns → (List.range 3).map (mixS (lettersOf ns) (placeOf (ns.take 12).sum) (turnOf (ns.take 12).sum) (thirdsOf (ns.take 12).sum) (shareOf (ns.take 12).sum) (levelOf (ns.take 12).sum) (k + 1)) =
    ((List.range 3).map (pureT (ns.take 12).sum ((k : Int) + 1))).map (dueOf (ns.take 12).sum ((k : Int) + 1))
  told : ∀ k : Nat, (k : Int) < countOf ns → ToldOk (dueOf (ns.take 12).sum ((k : Int) + 1) (pureT (ns.take 12).sum ((k : Int) + 1) 0)) (dueOf (ns.take 12).sum ((k : Int) + 1) (pureT (ns.take 12).sum ((k : Int) + 1) 1)) (dueOf (ns.take 12).sum ((k : Int) + 1) (pureT (ns.take 12).sum ((k : Int) + 1) 2)) (16 * turnOf (ns.take 12).sum * ((k : Int) + 1))
theorem turnOf_ok (t : Int) : 5 ≤ turnOf t ∧ turnOf t ≤ 16 := by
  have h1 := Int.fmod_nonneg_of_pos t (b := 12) (by decide)
  have h2 := Int.fmod_lt_of_pos t (b := 12) (by decide)
  unfold turnOf; omega
theorem placeOf_ok (t : Int) : 0 ≤ placeOf t ∧ placeOf t < turnOf t := by
  have h := turnOf_ok t
  have h1 := Int.fmod_nonneg_of_pos (2 + t.fdiv 12) (b := turnOf t) (by omega)
  have h2 := Int.fmod_lt_of_pos (2 + t.fdiv 12) (b := turnOf t) (by omega)
  exact ⟨h1, h2⟩
theorem thirdsOf_ok (t : Int) : 1 ≤ thirdsOf t ∧ thirdsOf t ≤ 2 := by
  have h1 := Int.fmod_nonneg_of_pos (t.fdiv 192) (b := 2) (by decide)
  have h2 := Int.fmod_lt_of_pos (t.fdiv 192) (b := 2) (by decide)
  unfold thirdsOf; omega
theorem shareOf_ok (t : Int) : 1 ≤ shareOf t ∧ shareOf t ≤ 4 := by
  have h1 := Int.fmod_nonneg_of_pos (t.fdiv 384) (b := 4) (by decide)
  have h2 := Int.fmod_lt_of_pos (t.fdiv 384) (b := 4) (by decide)
  unfold shareOf; omega
theorem levelOf_ok (t : Int) : 1 ≤ levelOf t ∧ levelOf t ≤ 4 := by
  have h1 := Int.fmod_nonneg_of_pos (t.fdiv 1536) (b := 4) (by decide)
  have h2 := Int.fmod_lt_of_pos (t.fdiv 1536) (b := 4) (by decide)
  unfold levelOf; omega
theorem countOf_ok (ns : List Int) : 12 ≤ countOf ns ∧ countOf ns ≤ 60 := by
  have : (ns.take 12).length ≤ 12 := by simp; omega
  unfold countOf; omega
end Mine
end
section
open PySem PySem.W PyProof.Rows PySem.Spec PySem.Calls
set_option Elab.async false
set_option maxRecDepth 100000
set_option maxHeartbeats 8000000
namespace Mine
local macro_rules | `(tactic| walk_at "vl") => `(tactic| first | assumption | exact upd_self | (refine (upd_ne (by decide)).trans ?_; walk_at "vl"))
theorem law_from (ok : ∀ ns : List Int, ns.length ≤ 63 → LawOk ns) : Challenge.rw_pw0001_01.Holds := hd (by
  k_go0
  (all_goals try k_fold)
  (rename Fr _ _ _ _ => F9)
  (rename News _ _ _ _ => N9)
  (rename IntsAre _ _ => hI9)
  (rename Heap.IsList _ _ _ => hL9)
  (rename Below _ _ _ _ => B')
  (rename Top _ _ _ _ _ _ => T')
  (rename Frag.In _ _ => X')
  (rename ¬ _ => hn9)
  (rename _ = #[] => hg9)
  (rename Shared => sb)
  refine law_enter (fun x => if x = Str.ofString "script" then some (.ref (addrOf hL9)) else none) F9 N9 rfl ?hm (by assumption) (by assumption) (by assumption) (by assumption) rfl rfl rfl rfl ?_
  case hm => exact fun _ _ => rfl
  intro S
  have vscr : (fun x => if x = Str.ofString "script" then some (Value.ref (addrOf hL9)) else none) (Str.ofString "script") = some (.ref (addrOf hL9)) := if_pos rfl
  (rename List Int => ns)
  have hlen : ns.length ≤ 63 := Nat.not_lt.mp fun h => hn9 (by exact_mod_cast h)
  have ok := ok ns hlen
  generalize hV : (fun x => if x = Str.ofString "script" then some (Value.ref (addrOf hL9)) else none) = V at S vscr
  clear hV F9 N9
  generalize hA : Around.deeper _ _ = A1
  obtain ⟨ev0, hev0⟩ := S.envIs'
  (rename World => w)
  have c58 : ∀ (s₁ : Shared) (E Q : Value → Shared → Prop) V ob D vs n (count : Int) t1 (xs : List Int), St sb.heap ev0 s₁.heap V ((D, ({ cls := .type "list", data := .seq vs.toArray n } : Obj)) :: ob) → IntsAre vs xs → xs.length ≤ 12 → 0 ≤ count → count ≤ 60 →
      (∀ r h' tk', St sb.heap ev0 h' V ((D, ({ cls := .type "list", data := .seq vs.toArray n } : Obj)) :: ob) → Q (.str (rowF xs count.toNat) r) { s₁ with heap := h', toks := tk' }) →
      wpAny (model Challenge.rw_pw0001_01.row.prog w) A1 (call (.ref 58) [.ref D, .int count t1]) Q E s₁ := by
    intro s₁ E Q V ob D vs n count t1 xs S₁ hi h1 h2 h3 q
    rw [← hA]
    subst hev0
    obtain ⟨m₁, F₁, N₁, k1, _⟩ := S₁.open
    exact row_tells (s := s₁) hi h1 h2 h3 rfl B' F₁ X' N₁ T' rfl (by decide) (by decide) fun r h' tk' F' N' => q r h' tk' (k1 h' F' N')
  have c22 : ∀ (s₁ : Shared) (E Q : Value → Shared → Prop) V ob x t1 t2, St sb.heap ev0 s₁.heap V ob → x.length ≤ 100000 → (∀ y ∈ Txt.split x (Str.ofString "--"), y.length ≤ 100000) → (Txt.split x (Str.ofString "--")).length ≤ 100000 →
      (Builtin.Str.partsBetween x (Builtin.Str.occurrences x (Str.ofString "--") 0 x.length (x.length + 1)) (Str.ofString "--").length).length ≤ sizeLine → JoinOk (Str.ofString "--") ((Txt.split x (Str.ofString "--")).map Txt.capitalize) = true →
      (∀ r h' tk', St sb.heap ev0 h' V ob → Q (.str (capF x) r) { s₁ with heap := h', toks := tk' }) →
      wpAny (model Challenge.rw_pw0001_01.row.prog w) A1 (call (.ref 22) [.str x t1, .str (Str.ofString "--") t2]) Q E s₁ := by
    intro s₁ E Q V ob x t1 t2 S₁ h1 h2 h3 h4 h5 q
    rw [← hA]
    subst hev0
    obtain ⟨m₁, F₁, N₁, k1, _⟩ := S₁.open
    exact cap_tells (s := s₁) h1 h2 h3 h4 h5 B' F₁ X' T' rfl (by decide) (by decide) fun r h' tk' e F' => q r h' tk' (S₁.ext e)
  have c41 : ∀ (s₁ : Shared) (E Q : Value → Shared → Prop) V ob letters place turn thirds share level t0 t1 t2 t3 t4 t5, St sb.heap ev0 s₁.heap V ob → MixOk letters place turn thirds share level →
      (∀ R as n h' tk', as.length = letters.length → RowsAre (mixS letters place turn thirds share level) as → St sb.heap ev0 h' V (((R, ({ cls := .type "list", data := .seq (as.map fun q => Value.ref q.1).toArray n } : Obj)) :: as) ++ ob) → Q (.ref R) { s₁ with heap := h', toks := tk' }) →
      wpAny (model Challenge.rw_pw0001_01.row.prog w) A1 (call (.ref 41) [.str letters t0, .int place t1, .int turn t2, .int thirds t3, .int share t4, .int level t5]) Q E s₁ := by
    intro s₁ E Q V ob letters place turn thirds share level t0 t1 t2 t3 t4 t5 S₁ h1 q
    rw [← hA]
    subst hev0
    obtain ⟨m₁, F₁, N₁, k1, _⟩ := S₁.open
    refine mix_tells (s := s₁) h1 B' F₁ X' T' rfl (by decide) (by decide) fun R as n h' tk' a b e F' N' f1 f2 nd => q R as n h' tk' a b (S₁.addList e (fun p hp => ?_) (fun p hp => (N' p hp).1) nd)
    rcases List.mem_cons.mp hp with rfl | hp
    · exact f2
    · exact f1 p hp
  have c46 : ∀ (s₁ : Shared) (E Q : Value → Shared → Prop) V ob count place turn thirds t1 t2 t3 t4, St sb.heap ev0 s₁.heap V ob → 0 ≤ count ∧ count ≤ 60 → 5 ≤ turn ∧ turn ≤ 16 → 0 ≤ place ∧ place < turn → 1 ≤ thirds ∧ thirds ≤ 2 →
      (∀ D vs n h' tk', IntsAre vs ((List.range 3).map (pureOf count place turn thirds)) → St sb.heap ev0 h' V ((D, ({ cls := .type "list", data := .seq vs.toArray n } : Obj)) :: ob) → Q (.ref D) { s₁ with heap := h', toks := tk' }) →
      wpAny (model Challenge.rw_pw0001_01.row.prog w) A1 (call (.ref 46) [.int count t1, .int place t2, .int turn t3, .int thirds t4]) Q E s₁ := by
    intro s₁ E Q V ob count place turn thirds t1 t2 t3 t4 S₁ h1 h2 h3 h4 q
    rw [← hA]
    subst hev0
    obtain ⟨m₁, F₁, N₁, k1, _⟩ := S₁.open
    exact due_tells (s := s₁) h1 h2 h3 h4 B' F₁ X' T' rfl (by decide) (by decide) fun D vs n h' tk' hi e F' N' hn => q D vs n h' tk' hi (S₁.add e hn (N' _ (.head _)).1)
  have c53 : ∀ (s₁ : Shared) (E Q : Value → Shared → Prop) V ob D vs n r g b whole tw, St sb.heap ev0 s₁.heap V ((D, ({ cls := .type "list", data := .seq vs.toArray n } : Obj)) :: ob) → IntsAre vs [r, g, b] → ToldOk r g b whole →
      (∀ h' tk', St sb.heap ev0 h' V ((D, ({ cls := .type "list", data := .seq vs.toArray n } : Obj)) :: ob) → Q (.bool true) { s₁ with heap := h', toks := tk' }) →
      wpAny (model Challenge.rw_pw0001_01.row.prog w) A1 (call (.ref 53) [.ref D, .int whole tw]) Q E s₁ := by
    intro s₁ E Q V ob D vs n r g b whole tw S₁ hi k q
    rw [← hA]
    subst hev0
    obtain ⟨m₁, F₁, N₁, k1, _⟩ := S₁.open
    cases hi with | cons r tr hi => cases hi with | cons g tg hi => cases hi with | cons b tb hi => cases hi with | nil =>
    exact told_tells (s := s₁) rfl k.hw k.hr k.hg k.hb k.hwb k.hmm k.f1 k.f2 k.f3 k.f6 k.f7 k.f4 k.f5 k.h1 k.h2 k.h3 k.hB B' F₁ X' N₁ T' rfl (by decide) (by decide) fun h' tk' F' N' => q h' tk' (k1 h' F' N')
  subst hev0
  have hh : A1.handled = none := by rw [← hA]; rfl
  have hun : A1.units + 64 < cLine := by rw [← hA]; show callerA.units + 3 + 64 < cLine; decide
  clear hA
  have lt1 := turnOf_ok (ns.take 12).sum
  have lt2 := placeOf_ok (ns.take 12).sum
  have lt3 := thirdsOf_ok (ns.take 12).sum
  have lt4 := shareOf_ok (ns.take 12).sum
  have lt5 := levelOf_ok (ns.take 12).sum
  have lt6 := countOf_ok ns
  have htake : (ns.take 12).length ≤ 12 := by simp; omega
  -- drawn
  refine wpAny_execs_cons (St.assign_new S rfl (.inl ⟨rfl, rfl⟩) (EvN.upto (k := 12) (EvL.name (S.ld vscr rfl rfl) (isList_ext hL9 S.keep) hI9) (by decide) (by omega)) fun h₂ tk₂ D vd nd hid S => ?_)
  have bi : ∀ (x : Str) (v : Value), nsIn (hd.heap_39 w.params) mainGlobals x = some none → bootBuiltins x = some v → x ≠ "__name__" → ∀ h, Ext _ h → ∀ (e : Env), e.globals = mainGlobals → e.builtins = builtinsNs → e.scope.kind = .function → e.kindOf x = some .globalImplicit → (x == ("__debug__" : Str)) = false → Ld Challenge.rw_pw0001_01.row.prog w A1 e h x v := fun x v e1 e2 e3 h e0 e a1 a2 a3 a4 a5 => (Ld_built T' X' e1 e2 e3 a1 a2 a3 a4 a5).up e0
  have bin : ∀ {K : Prop}, K → K := fun x => x
  -- total, count
  refine wpAny_execs_cons (St.assign_int (s := { sb with heap := h₂, toks := tk₂ }) (i := (ns.take 12).sum) S rfl (.inl ⟨rfl, rfl⟩) (EvI.sum hh (bi _ _ (by k_dflt k_is) (by boot_by_name) (by decide) _ S.keep _ rfl rfl rfl rfl (by decide)) (EvL.name (S.ld (by walk_at "vl") rfl rfl) (S.isList (d := D) (.head _)) hid)) fun h₃ tk₃ u1 S => ?_)
  refine wpAny_execs_cons (St.assign_int (s := { sb with heap := h₃, toks := tk₃ }) (i := countOf ns) S rfl (.inl ⟨rfl, rfl⟩) (EvI.add EvI.const (EvI.mul EvI.const (EvI.lenL (bi _ _ (by k_dflt k_is) (by boot_by_name) (by decide) _ S.keep _ rfl rfl rfl rfl (by decide)) (EvL.name (S.ld (by walk_at "vl") rfl rfl) (S.isList (d := D) (.head _)) hid) (Nat.le_trans htake (by decide))) (by decide))) fun h₄ tk₄ u2 S => ?_)
  -- turn, place, thirds, share, level
  refine wpAny_execs_cons (St.assign_int (s := { sb with heap := h₄, toks := tk₄ }) (i := turnOf (ns.take 12).sum) S rfl (.inr ⟨rfl, _, rfl⟩) (EvI.add EvI.const (EvI.mod (EvI.name (S.ld (by walk_at "vl") rfl rfl)) EvI.const (by decide))) fun h₅ tk₅ u3 S => ?_)
  refine wpAny_execs_cons (St.assign_int (s := { sb with heap := h₅, toks := tk₅ }) (i := placeOf (ns.take 12).sum) S rfl (.inl ⟨rfl, rfl⟩) (EvI.mod (EvI.add EvI.const (EvI.fdiv (EvI.name (S.ld (by walk_at "vl") rfl rfl)) EvI.const (by decide))) (EvI.name (S.ldc (by walk_at "vl") rfl rfl rfl)) (by omega)) fun h₆ tk₆ u4 S => ?_)
  refine wpAny_execs_cons (St.assign_int (s := { sb with heap := h₆, toks := tk₆ }) (i := thirdsOf (ns.take 12).sum) S rfl (.inl ⟨rfl, rfl⟩) (EvI.add EvI.const (EvI.mod (EvI.fdiv (EvI.name (S.ld (by walk_at "vl") rfl rfl)) EvI.const (by decide)) EvI.const (by decide))) fun h₇ tk₇ u5 S => ?_)
  refine wpAny_execs_cons (St.assign_int (s := { sb with heap := h₇, toks := tk₇ }) (i := shareOf (ns.take 12).sum) S rfl (.inr ⟨rfl, _, rfl⟩) (EvI.sub EvI.const (EvI.mod (EvI.fdiv (EvI.name (S.ld (by walk_at "vl") rfl rfl)) EvI.const (by decide)) EvI.const (by decide))) fun h₈ tk₈ u6 S => ?_)
  refine wpAny_execs_cons (St.assign_int (s := { sb with heap := h₈, toks := tk₈ }) (i := levelOf (ns.take 12).sum) S rfl (.inr ⟨rfl, _, rfl⟩) (EvI.sub EvI.const (EvI.mod (EvI.fdiv (EvI.name (S.ld (by walk_at "vl") rfl rfl)) EvI.const (by decide)) EvI.const (by decide))) fun h₉ tk₉ u7 S => ?_)
  -- text
  refine wpAny_execs_cons (wpAny_Assign_Name (wpAny_Call_NameR ((Ld_global T' X' (by k_dflt k_is) rfl rfl rfl).go S.keep ?_)))
  refine callWith_K (X'.keeps S.keep) (by k_dflt k_is) ?_
  refine spliced_more ((S.ld (v := .ref D) (by walk_at "vl") rfl rfl).go (Ext.refl _) ?_)
  refine spliced_more ((S.ld (v := .int (countOf ns) u2) (by walk_at "vl") rfl rfl).go (Ext.refl _) ?_)
  refine spliced_none ⟨X'.keeps S.keep, ?_⟩
  refine c58 { sb with heap := h₉, toks := tk₉ } _ _ _ _ D vd nd _ _ _ S hid htake (by omega) (by omega) fun ur h₁₀ tk₁₀ S => ?_
  refine St.store (s := { sb with heap := h₁₀, toks := tk₁₀ }) S rfl (.inl ⟨rfl, rfl⟩) fun h₁₁ tk₁₁ S _ _ => ?_
  -- told
  refine wpAny_execs_cons (wpAny_Assign_Name (wpAny_Call_NameR ((Ld_global T' X' (by k_dflt k_is) rfl rfl rfl).go S.keep ?_)))
  refine callWith_K (X'.keeps S.keep) (by k_dflt k_is) ?_
  refine spliced_more ((S.ld (v := .str (textOf ns) ur) (by walk_at "vl") rfl rfl).go (Ext.refl _) ?_)
  refine spliced_more (PySem.wpAny_Constant_str ?_)
  refine spliced_none ⟨X'.keeps S.keep, ?_⟩
  refine wpAny_with_toks (n := 1) (Nat.succ_pos _) ?_
  refine c22 { sb with heap := h₁₁, toks := tk₁₁ + 1 } _ _ _ _ _ _ _ S ok.hx ok.hp ok.hps ok.hpb ok.hj fun ut h₁₂ tk₁₂ S htk => ?_
  refine wpAny_with_toks (n := 1) htk ?_
  refine St.store (s := { sb with heap := h₁₂, toks := tk₁₂ }) S rfl (.inl ⟨rfl, rfl⟩) fun h₁₃ tk₁₃ S _ _ htk => ?_
  -- the lower texts
  refine wpAny_execs_cons (wpAny_If ?_)
  refine wpAny_with_toks (n := 1) htk ?_
  refine Tst.go (Tst.neS (EvS.lower (EvS.name (S.ld (v := .str (capF (textOf ns)) ut) (by walk_at "vl") rfl rfl)) (Nat.le_trans ok.hc (by decide))) (EvS.lower (EvS.name (S.ld (v := .str (textOf ns) ur) (by walk_at "vl") rfl rfl)) (Nat.le_trans ok.hx (by decide)))) (Ext.refl _) fun h₁₄ tk₁₄ e₁₄ htk => ?_
  have S := S.ext e₁₄
  rw [ok.low]
  simp only [Bool.false_eq_true, if_false]
  refine wpAny_execs_nil ?_
  -- rows
  refine wpAny_execs_cons (wpAny_Assign_Name (wpAny_Call_NameR ((Ld_global T' X' (by k_dflt k_is) rfl rfl rfl).go S.keep ?_)))
  refine callWith_K (X'.keeps S.keep) (by k_dflt k_is) ?_
  refine spliced_more (Call_method2 rfl rfl rfl ((S.ld (v := .str (capF (textOf ns)) ut) (by walk_at "vl") rfl rfl).go (Ext.refl _) ?_))
  refine ⟨"str", "str.replace", PySem.F.plainAttrs_str, PySem.F.slot_str_replace, PySem.F.type_str_replace, typeIs_str _ _ _, (fun _ h => by cases h), ?_⟩
  refine Calls.callWith_builtin rfl (Calls.evalArgs_plain (Calls.spliced_cons (PySem.wpAny_Constant_str (Calls.spliced_cons (PySem.wpAny_Constant_str (Calls.spliced_nil ?_))))))
  refine PySem.SC.replaceA (Nat.ne_of_gt htk) (Nat.succ_ne_zero _) (Nat.ne_of_lt (Nat.lt_succ_self _)) ?hb (fun ul tk₁₅ => ?_) (booked_of (X'.keeps S.keep))
  case hb =>
    have h1 := ok.hc
    have h2 : (Str.ofString "").length = 0 := by decide
    rw [h2, Nat.mul_zero]
    omega
  refine spliced_more ((S.ld (v := .int (placeOf (ns.take 12).sum) u4) (by walk_at "vl") rfl rfl).go (Ext.refl _) ?_)
  refine spliced_more ((S.ldc (v := .int (turnOf (ns.take 12).sum) u3) (by walk_at "vl") rfl rfl rfl).go (Ext.refl _) ?_)
  refine spliced_more ((S.ld (v := .int (thirdsOf (ns.take 12).sum) u5) (by walk_at "vl") rfl rfl).go (Ext.refl _) ?_)
  refine spliced_more ((S.ldc (v := .int (shareOf (ns.take 12).sum) u6) (by walk_at "vl") rfl rfl rfl).go (Ext.refl _) ?_)
  refine spliced_more ((S.ldc (v := .int (levelOf (ns.take 12).sum) u7) (by walk_at "vl") rfl rfl rfl).go (Ext.refl _) ?_)
  refine spliced_none ⟨X'.keeps S.keep, ?_⟩
  refine c41 { sb with heap := h₁₄, toks := tk₁₅ } _ _ _ _ (lettersOf ns) _ _ _ _ _ _ _ _ _ _ _ S ok.mix fun R as nR h₁₆ tk₁₆ hal hro S => ?_
  have S := S.drop (List.sublist_append_left _ _)
  refine St.store (s := { sb with heap := h₁₆, toks := tk₁₆ }) S rfl (.inl ⟨rfl, rfl⟩) fun h₁₇ tk₁₇ S _ _ => ?_
  -- the loop
  refine wpAny_execs_cons ?_
  have hcn : (countOf ns + 1 - 1).toNat = (countOf ns).toNat := by omega
  refine St.for_range (s := { sb with heap := h₁₇, toks := tk₁₇ }) (n := (countOf ns + 1 - 1).toNat) (fun i V ob => ob = (R, ({ cls := .type "list", data := .seq (as.map fun q => Value.ref q.1).toArray nR } : Obj)) :: as ∧ V (Str.ofString "rows") = some (.ref R)
    ∧ V (Str.ofString "place") = some (.int (placeOf (ns.take 12).sum) u4) ∧ V (Str.ofString "turn") = some (.int (turnOf (ns.take 12).sum) u3) ∧ V (Str.ofString "thirds") = some (.int (thirdsOf (ns.take 12).sum) u5) ∧ V (Str.ofString "share") = some (.int (shareOf (ns.take 12).sum) u6) ∧ V (Str.ofString "level") = some (.int (levelOf (ns.take 12).sum) u7)) S rfl (.inr ⟨rfl, _, rfl⟩)
    (SrcR.range2 hh (bi _ _ (by k_dflt k_is) (by boot_by_name) (by decide) _ S.keep _ rfl rfl rfl rfl (by decide)) EvI.const (EvI.add (EvI.name (S.ld (by walk_at "vl") rfl rfl)) EvI.const) (by omega))
    ⟨rfl, by walk_at "vl", by walk_at "vl", by walk_at "vl", by walk_at "vl", by walk_at "vl", by walk_at "vl"⟩ ?turn ?done
  case done =>
    rintro h' tk' V ob ⟨rfl, _⟩ S
    refine wpAny_execs_cons (wpAny_Return_some (Constant_bool ?_))
    obtain ⟨m₁, F₁⟩ := S.fr
    exact goodW_bool F₁ hg9 (fun _ => rfl) (by first | rfl | (with_unfolding_all rfl) | decide | (simp [Challenge.rw_pw0001_01, OpenLaw.row, RowW.claim]; done) | (show (_ == _) = true; simp) ) rfl
  case turn =>
    rintro i V ob I io v s₁ E' hi ⟨tv, rfl⟩ ⟨rfl, vr, vp, vt, vh, vs', ve⟩ S
    have hi' : (i : Int) < countOf ns := by omega
    have vb : upd V (Str.ofString "below") (.int (1 + (i : Int)) tv) (Str.ofString "below") = some (.int (1 + (i : Int)) tv) := upd_self
    have hb1 : 0 ≤ (1 + (i : Int)) * turnOf (ns.take 12).sum ∧ (1 + (i : Int)) * turnOf (ns.take 12).sum ≤ 60 * 16 := ⟨Int.mul_nonneg (by omega) (by omega), Int.mul_le_mul (by omega) (by omega) (by omega) (by omega)⟩
    have hb2 : 0 ≤ (1 + (i : Int)) * turnOf (ns.take 12).sum * levelOf (ns.take 12).sum ∧ (1 + (i : Int)) * turnOf (ns.take 12).sum * levelOf (ns.take 12).sum ≤ 60 * 16 * 4 := ⟨Int.mul_nonneg (by omega) (by omega), Int.mul_le_mul (by omega) (by omega) (by omega) (by omega)⟩
    have hb3 : 0 ≤ levelOf (ns.take 12).sum * shareOf (ns.take 12).sum ∧ levelOf (ns.take 12).sum * shareOf (ns.take 12).sum ≤ 4 * 4 := ⟨Int.mul_nonneg (by omega) (by omega), Int.mul_le_mul (by omega) (by omega) (by omega) (by omega)⟩
    have hcom : 1 + (i : Int) = (i : Int) + 1 := Int.add_comm _ _
    -- pure
    refine wpAny_execs_cons (wpAny_Assign_Name (wpAny_Call_NameR ((Ld_global T' X' (by k_dflt k_is) rfl rfl rfl).go S.keep ?_)))
    refine callWith_K (X'.keeps S.keep) (by k_dflt k_is) ?_
    refine spliced_more ((S.ldc vb rfl rfl rfl).go (Ext.refl _) ?_)
    refine spliced_more ((S.ld (v := .int (placeOf (ns.take 12).sum) u4) (by walk_at "vl") rfl rfl).go (Ext.refl _) ?_)
    refine spliced_more ((S.ldc (v := .int (turnOf (ns.take 12).sum) u3) (by walk_at "vl") rfl rfl rfl).go (Ext.refl _) ?_)
    refine spliced_more ((S.ld (v := .int (thirdsOf (ns.take 12).sum) u5) (by walk_at "vl") rfl rfl).go (Ext.refl _) ?_)
    refine spliced_none ⟨X'.keeps S.keep, ?_⟩
    refine c46 s₁ _ _ _ _ _ _ _ _ _ _ _ _ S (by omega) lt1 lt2 lt3 fun Dp vp' np k₁ t₁ hip S => ?_
    refine St.store (s := { s₁ with heap := k₁, toks := t₁ }) S rfl (.inl ⟨rfl, rfl⟩) fun k₂ t₂ S _ _ => ?_
    -- due
    refine wpAny_execs_cons (St.assign_comp (s := { s₁ with heap := k₂, toks := t₂ }) S rfl (.inl ⟨rfl, rfl⟩) (CmpOk.list (fun z => dueOf (ns.take 12).sum (1 + (i : Int)) z)
        (Src.list hh (EvL.name (S.ld (by walk_at "vl") rfl rfl) (S.isList (d := Dp) (.head _)) hip)) (by simp) fun C z tz k₃ hz e₃ lz => ?_) fun k₄ t₄ Du vu nu hiu S => ?_)
    · have S3 := S.ext e₃
      exact EvI.add (EvI.mul (EvI.mul (EvI.mul (EvI.name (S3.ldk (by walk_at "vl") rfl rfl rfl rfl)) (EvI.name (S3.ldk (by walk_at "vl") rfl rfl rfl rfl)) (by omega)) (EvI.name (S3.ldk (by walk_at "vl") rfl rfl rfl rfl)) (by omega)) (EvI.sub EvI.const (EvI.name (S3.ldk (by walk_at "vl") rfl rfl rfl rfl))) (by omega))
        (EvI.mul (EvI.mul (EvI.name (S3.ldk (by walk_at "vl") rfl rfl rfl rfl)) (EvI.name (S3.ldk (by walk_at "vl") rfl rfl rfl rfl)) (by omega)) (EvI.name lz) (by omega))
    -- the test
    have hia : i < as.length := by have := ok.llen; omega
    obtain ⟨va, na, eo, hva⟩ := hro i as[i] (List.getElem?_eq_getElem hia)
    have hma : (as[i].1, ({ cls := .type "list", data := .seq va.toArray na } : Obj)) ∈ as := by rw [← eo]; exact List.getElem_mem hia
    refine wpAny_execs_cons (wpAny_If (isTrue_or (wpAny_isTrue_Compare1 (Subscript_ ((S.ld (v := .ref R) (by walk_at "vl") rfl rfl).go (Ext.refl _) (EvI.go (EvI.sub (EvI.name (S.ldc (by walk_at "vl") rfl rfl rfl)) EvI.const) (Ext.refl _) fun ub k₅ t₅ e₅ => ?_))))))
    have S := S.ext e₅
    refine getItem_list_at (s := { s₁ with heap := k₅, toks := t₅ }) (x := .ref as[i].1) (S.isList (d := R) (.tail _ (.tail _ (.tail _ (.head _))))) (by omega) (by omega) ?hx ?_ (by with_unfolding_all rfl)
    case hx =>
      have e1 : (1 + (i : Int) - 1).toNat = i := by omega
      rw [e1]
      simp [hia]
    refine (S.ld (v := .ref Du) (by walk_at "vl") rfl rfl).go (Ext.refl _) ?_
    refine ne_intsK (s := { s₁ with heap := k₅, toks := t₅ }) (S.isList (d := as[i].1) (.tail _ (.tail _ (.tail _ (.tail _ hma))))) hva (S.isList (d := Du) (.head _)) hiu hun ?_
    have heq := ok.eqs i hi'
    rw [← hcom] at heq
    rw [show (!decide ((List.range 3).map (mixS (lettersOf ns) (placeOf (ns.take 12).sum) (turnOf (ns.take 12).sum) (thirdsOf (ns.take 12).sum) (shareOf (ns.take 12).sum) (levelOf (ns.take 12).sum) (i + 1)) = ((List.range 3).map (pureOf (1 + (i : Int)) (placeOf (ns.take 12).sum) (turnOf (ns.take 12).sum) (thirdsOf (ns.take 12).sum))).map (fun z => dueOf (ns.take 12).sum (1 + (i : Int)) z))) = false from by
      rw [Bool.not_eq_false', decide_eq_true_eq]; exact heq]
    refine wpAny_truthy_bool ?_
    simp only [Bool.false_eq_true, if_false]
    -- told
    refine isTrue_or (isTrue_not (isTrue_plain (wpAny_Call_NameR ((Ld_global T' X' (by k_dflt k_is) rfl rfl rfl).go S.keep ?_))))
    refine callWith_K (X'.keeps S.keep) (by k_dflt k_is) ?_
    refine spliced_more ((S.ld (v := .ref Du) (by walk_at "vl") rfl rfl).go (Ext.refl _) ?_)
    refine spliced_more (EvI.go (EvI.mul (EvI.mul EvI.const (EvI.name (S.ldc (by walk_at "vl") rfl rfl rfl)) (by decide)) (EvI.name (S.ldc (by walk_at "vl") rfl rfl rfl)) (by omega)) (Ext.refl _) fun uw k₆ t₆ e₆ => ?_)
    have S := S.ext e₆
    refine spliced_none ⟨X'.keeps S.keep, ?_⟩
    have htold := ok.told i hi'
    rw [← hcom] at htold
    refine c53 { s₁ with heap := k₆, toks := t₆ } _ _ _ _ Du vu nu _ _ _ _ _ S hiu htold fun k₇ t₇ S => ?_
    refine wpAny_truthy_bool ?_
    simp only [Bool.not_true, Bool.false_eq_true, if_false]
    refine isTrue_or_nil ?_
    simp only [Bool.false_eq_true, if_false]
    refine wpAny_execs_nil (wpAny_execs_nil ⟨rfl, _, _, _, (R, _) :: as, _, rfl, S, .tail _ (.tail _ (.head _)), (List.sublist_cons_self _ _).trans ((List.sublist_cons_self _ _).trans (List.sublist_cons_self _ _)), ?_, rfl, by walk_at "vl", by walk_at "vl", by walk_at "vl", by walk_at "vl", by walk_at "vl", by walk_at "vl"⟩)
    intro p hp e
    have nd := S.nd
    simp only [List.map_cons, List.nodup_cons] at nd
    have hm9 : I ∈ List.map Prod.fst ((R, ({ cls := .type "list", data := .seq (as.map fun q => Value.ref q.1).toArray nR } : Obj)) :: as) := List.mem_map.mpr ⟨p, hp, e⟩
    exact nd.2.2.1 hm9)
end Mine
end
section
open PySem PySem.Float64
set_option Elab.async false
namespace Mine
theorem V_hit (j : Nat) : ∀ m : Nat, m ≤ 2 ^ 53 → ∃ t, V t = m * 2 ^ j := by
  induction j with
  | zero => intro m h; exact ⟨m, by have := V_at (k := 0) h (.inr rfl); simpa using this⟩
  | succ j ih =>
    intro m h
    by_cases h2 : 2 ^ 52 ≤ m
    · exact ⟨(j + 1) * 2 ^ 52 + m, V_at h (.inl h2)⟩
    · obtain ⟨t, ht⟩ := ih (2 * m) (by omega)
      exact ⟨t, by rw [ht, Nat.pow_succ, Nat.mul_comm 2 m, Nat.mul_assoc, Nat.mul_comm (2 ^ j) 2]⟩
theorem big_num : 2 * (2 ^ 1074 * 2 ^ 60) < (2 ^ 54 - 1) * 2 ^ 2045 := by decide +kernel
theorem right_near {r : UInt64} {neg : Bool} {W D k : Nat} (h : Right r neg W D) (hD : 0 < D) (hk : k ≤ 60) (hW : W ≤ D * (2 ^ 1074 * 2 ^ k)) :
    isFinite r = true ∧ ∃ X : Nat, val r = sgn neg X ∧ dist W (D * X) ≤ D * 2 ^ (1022 + k) := by
  obtain ⟨t, rfl, ht, hi, hn⟩ := h
  have hlt : t < infMag := by
    refine Nat.lt_of_le_of_ne ht fun e => ?_
    have h1 := hi.mp e
    have h2 : 2 * W ≤ D * (2 * (2 ^ 1074 * 2 ^ 60)) := by
      have h3 : D * (2 ^ 1074 * 2 ^ k) ≤ D * (2 ^ 1074 * 2 ^ 60) := Nat.mul_le_mul_left _ (Nat.mul_le_mul_left _ (Nat.pow_le_pow_right (by decide) hk))
      calc 2 * W ≤ 2 * (D * (2 ^ 1074 * 2 ^ 60)) := Nat.mul_le_mul_left _ (Nat.le_trans hW h3)
        _ = D * (2 * (2 ^ 1074 * 2 ^ 60)) := by rw [Nat.mul_left_comm]
    have h4 := Nat.le_of_mul_le_mul_left (Nat.le_trans h1 h2) hD
    exact absurd big_num (Nat.not_lt.mpr h4)
  refine ⟨?_, V t, val_pack neg hlt, ?_⟩
  · obtain ⟨m, e, hd, _⟩ := decode_pack neg hlt
    unfold isFinite; rw [hd]
  · have hj : 2 ^ 1074 * 2 ^ k = 2 ^ (1022 + k) * 2 ^ 52 := by rw [← Nat.pow_add, ← Nat.pow_add]; congr 1; omega
    have hpos : 0 < D * 2 ^ (1022 + k) := Nat.mul_pos hD (Nat.two_pow_pos _)
    have hm : W / (D * 2 ^ (1022 + k)) ≤ 2 ^ 52 := by
      refine Nat.div_le_of_le_mul ?_
      rw [Nat.mul_assoc, ← hj]; exact hW
    obtain ⟨t', ht'⟩ := V_hit (1022 + k) (W / (D * 2 ^ (1022 + k))) (Nat.le_trans hm (by decide))
    refine Nat.le_trans (hn hlt t').1 ?_
    rw [ht', Nat.mul_left_comm, Nat.mul_comm _ (D * 2 ^ (1022 + k))]
    have e1 := Nat.div_add_mod W (D * 2 ^ (1022 + k))
    have e2 := Nat.mod_lt W hpos
    unfold dist
    generalize D * 2 ^ (1022 + k) * (W / (D * 2 ^ (1022 + k))) = a at *
    generalize D * 2 ^ (1022 + k) = b at *
    omega
def P : Nat := 2 ^ 1074
theorem P_pos : 0 < P := Nat.two_pow_pos _
theorem P_posQ : (0 : Rat) < (P : Rat) := by exact_mod_cast P_pos
/-- what a word is worth -/
def R (x : UInt64) : Rat := (val x : Rat) / (P : Rat)
def Nr (x y e : Rat) : Prop := x - y ≤ e ∧ y - x ≤ e
theorem R_mul (x : UInt64) : R x * (P : Rat) = (val x : Rat) := by
  have := P_posQ
  unfold R; grind
theorem isFin_iff {x : UInt64} (h : isFinite x = true) : ∃ a m e, decode x = .fin a m e := by
  unfold isFinite at h
  split at h
  · exact ⟨_, _, _, by assumption⟩
  · cases h
end Mine
end
section
open PySem PySem.Float64
set_option Elab.async false
namespace Mine
theorem sgn_cases (neg : Bool) (W : Nat) : (neg = false ∧ sgn neg W = (W : Int)) ∨ (neg = true ∧ sgn neg W = -(W : Int)) := by
  cases neg
  · exact .inl ⟨rfl, rfl⟩
  · exact .inr ⟨rfl, rfl⟩
theorem near_core {q z d p w x j k : Rat} (hd : 0 < d) (hp : 0 < p) (h1 : q * d * p = w) (h2 : z * p = x) (h3 : w - d * x ≤ d * j) (h4 : d * x - w ≤ d * j) (h5 : j * 2 ^ 52 = p * k) : Nr z q (k / 2 ^ 52) := by
  have hdp : 0 < d * p := Rat.mul_pos hd hp
  have e : (k / 2 ^ 52) * (d * p) = d * j := by grind
  constructor
  · refine Rat.le_of_mul_le_mul_right (c := d * p) ?_ hdp
    have e1 : (z - q) * (d * p) = d * x - w := by grind
    rw [e, e1]; exact h4
  · refine Rat.le_of_mul_le_mul_right (c := d * p) ?_ hdp
    have e1 : (q - z) * (d * p) = w - d * x := by grind
    rw [e, e1]; exact h3
theorem right_nearQ {r : UInt64} {neg : Bool} {W D k : Nat} {q : Rat} (h : Right r neg W D) (hD : 0 < D) (hk : k ≤ 60) (hq : q * (D : Rat) * (P : Rat) = ((sgn neg W : Int) : Rat)) (hb : q ≤ 2 ^ k ∧ -(2 ^ k) ≤ q) :
    isFinite r = true ∧ Nr (R r) q (2 ^ k / 2 ^ 52) := by
  have hDq : (0 : Rat) < (D : Rat) := by exact_mod_cast hD
  have hP := P_posQ
  have hDP : (0 : Rat) < (D : Rat) * (P : Rat) := Rat.mul_pos hDq hP
  have hW : W ≤ D * (2 ^ 1074 * 2 ^ k) := by
    have h1 : (W : Rat) ≤ (D : Rat) * (P : Rat) * 2 ^ k := by
      rcases sgn_cases neg W with ⟨_, e⟩ | ⟨_, e⟩
      · rw [e] at hq
        have h2 : q * ((D : Rat) * (P : Rat)) ≤ 2 ^ k * ((D : Rat) * (P : Rat)) := Rat.mul_le_mul_of_nonneg_right hb.1 (Rat.le_of_lt hDP)
        have h3 : (((W : Int)) : Rat) = (W : Rat) := rfl
        grind
      · rw [e] at hq
        have h2 : -(2 ^ k) * ((D : Rat) * (P : Rat)) ≤ q * ((D : Rat) * (P : Rat)) := Rat.mul_le_mul_of_nonneg_right hb.2 (Rat.le_of_lt hDP)
        have h3 : (((-(W : Int) : Int)) : Rat) = -(W : Rat) := by exact Rat.intCast_neg _
        grind
    have h2 : ((W : Nat) : Rat) ≤ ((D * P * 2 ^ k : Nat) : Rat) := by
      push_cast
      exact h1
    have h3 : W ≤ D * P * 2 ^ k := by exact_mod_cast h2
    unfold P at h3
    rw [Nat.mul_assoc] at h3
    exact h3
  obtain ⟨hf, X, hv, hd⟩ := right_near h hD hk hW
  refine ⟨hf, ?_⟩
  have hj : 2 ^ (1022 + k) * 2 ^ 52 = P * 2 ^ k := by
    have e : 1022 + k + 52 = 1074 + k := by omega
    unfold P
    rw [← Nat.pow_add, ← Nat.pow_add, e]
  generalize 2 ^ (1022 + k) = j at *
  have hjq : (j : Rat) * 2 ^ 52 = (P : Rat) * 2 ^ k := by exact_mod_cast hj
  have d1q : (W : Rat) - D * X ≤ D * j := by
    have h1 : W ≤ D * X + D * j := by unfold dist at hd; omega
    have h2 : (W : Rat) ≤ ((D * X + D * j : Nat) : Rat) := by exact_mod_cast h1
    push_cast at h2
    grind
  have d2q : (D : Rat) * X - W ≤ D * j := by
    have h1 : D * X ≤ W + D * j := by unfold dist at hd; omega
    have h2 : ((D * X : Nat) : Rat) ≤ ((W + D * j : Nat) : Rat) := by exact_mod_cast h1
    push_cast at h2
    grind
  have hR := R_mul r
  rw [hv] at hR
  rcases sgn_cases neg W with ⟨en, e⟩ | ⟨en, e⟩
  · subst en
    refine near_core hDq hP (w := (W : Rat)) (x := (X : Rat)) (j := j) hq hR d1q d2q hjq
  · subst en
    have hq' : q * (D : Rat) * (P : Rat) = -(W : Rat) := by rw [hq]; exact Rat.intCast_neg _
    have hR' : R r * (P : Rat) = -(X : Rat) := by rw [hR]; exact Rat.intCast_neg _
    refine near_core hDq hP (w := -(W : Rat)) (x := -(X : Rat)) (j := j) hq' hR' (by grind) (by grind) hjq
theorem R_zero (b : Bool) : isFinite (zero b) = true ∧ R (zero b) = 0 := by
  refine ⟨by cases b <;> decide +kernel, ?_⟩
  have e : val (zero b) = 0 := by cases b <;> decide +kernel
  unfold R; rw [e]; grind
theorem dec_sgn (v : Int) : sgn (decide (v < 0)) v.natAbs = v := by
  unfold sgn
  by_cases h : v < 0 <;> simp [h] <;> omega
theorem add_near {x y : UInt64} {k : Nat} (hx : isFinite x = true) (hy : isFinite y = true) (hk : k ≤ 60) (hb : R x + R y ≤ 2 ^ k ∧ -(2 ^ k) ≤ R x + R y) : isFinite (add x y) = true ∧ Nr (R (add x y)) (R x + R y) (2 ^ k / 2 ^ 52) := by
  obtain ⟨a, m, e, dx⟩ := isFin_iff hx
  obtain ⟨b, n, f, dy⟩ := isFin_iff hy
  obtain ⟨h0, h1⟩ := add_right dx dy
  have ex := R_mul x
  have ey := R_mul y
  have hP := P_posQ
  have es : (R x + R y) * (P : Rat) = ((val x + val y : Int) : Rat) := by push_cast; grind
  by_cases hz : val x + val y = 0
  · rw [h0 hz]
    obtain ⟨f0, r0⟩ := R_zero (a && b)
    refine ⟨f0, ?_⟩
    rw [hz] at es
    have e0 : R x + R y = 0 := by
      have : ((0 : Int) : Rat) = 0 := rfl
      rw [this] at es
      rcases Rat.mul_eq_zero.mp es with h | h
      · exact h
      · exact absurd h (by grind)
    rw [r0, e0]
    have hp : (0 : Rat) < 2 ^ k := Rat.pow_pos (by decide)
    constructor <;> grind
  · refine right_nearQ (h1 hz) (by decide) hk ?_ hb
    rw [dec_sgn, ← es]
    grind
theorem R_neg {y : UInt64} (hy : isFinite y = true) : isFinite (neg y) = true ∧ R (neg y) = -R y := by
  obtain ⟨b, n, f, dy⟩ := isFin_iff hy
  refine ⟨by unfold isFinite; rw [neg_decode dy], ?_⟩
  unfold R; rw [neg_val dy]; push_cast; grind
theorem sub_near {x y : UInt64} {k : Nat} (hx : isFinite x = true) (hy : isFinite y = true) (hk : k ≤ 60) (hb : R x - R y ≤ 2 ^ k ∧ -(2 ^ k) ≤ R x - R y) : isFinite (sub x y) = true ∧ Nr (R (sub x y)) (R x - R y) (2 ^ k / 2 ^ 52) := by
  obtain ⟨hn, en⟩ := R_neg hy
  have := add_near (k := k) hx hn hk (by rw [en]; grind)
  rw [en] at this
  have e : Float64.sub x y = Float64.add x (neg y) := by unfold Float64.sub; rfl
  rw [show R x - R y = R x + -R y by grind, e]
  exact this
theorem sgn_xor (a b : Bool) (m n : Nat) : sgn (a != b) (m * n) = sgn a m * sgn b n := by
  cases a <;> cases b <;> simp [sgn, Int.neg_mul, Int.mul_neg]
theorem val_sgn {x : UInt64} {a : Bool} {m : Nat} {e : Int} (h : decode x = .fin a m e) : sgn a (val x).natAbs = val x := by rw [val_natAbs h, val_eq h]
theorem mul_near {x y : UInt64} {k : Nat} (hx : isFinite x = true) (hy : isFinite y = true) (hk : k ≤ 60) (hb : R x * R y ≤ 2 ^ k ∧ -(2 ^ k) ≤ R x * R y) : isFinite (mul x y) = true ∧ Nr (R (mul x y)) (R x * R y) (2 ^ k / 2 ^ 52) := by
  obtain ⟨a, m, e, dx⟩ := isFin_iff hx
  obtain ⟨b, n, f, dy⟩ := isFin_iff hy
  refine right_nearQ (mul_right dx dy) (Nat.two_pow_pos _) hk ?_ hb
  rw [sgn_xor, val_sgn dx, val_sgn dy]
  have ex := R_mul x
  have ey := R_mul y
  show R x * R y * (P : Rat) * (P : Rat) = _
  push_cast
  grind
theorem div_near {x y : UInt64} {k : Nat} (hx : isFinite x = true) (hy : isFinite y = true) (hk : k ≤ 60) (h0 : 0 < R y) (hb : R x / R y ≤ 2 ^ k ∧ -(2 ^ k) ≤ R x / R y) : isFinite (div x y) = true ∧ Nr (R (div x y)) (R x / R y) (2 ^ k / 2 ^ 52) := by
  obtain ⟨a, m, e, dx⟩ := isFin_iff hx
  obtain ⟨b, n, f, dy⟩ := isFin_iff hy
  have hP := P_posQ
  have ex := R_mul x
  have ey := R_mul y
  have hv : (0 : Rat) < (val y : Rat) := by rw [← ey]; exact Rat.mul_pos h0 hP
  have hvi : 0 < val y := by exact_mod_cast hv
  have hn : n ≠ 0 := by
    intro e0
    rw [val_eq dy, e0] at hvi
    cases b <;> simp [sgn] at hvi
  have hb' : b = false := by
    cases b
    · rfl
    · rw [val_eq dy] at hvi
      unfold sgn at hvi
      rw [if_pos rfl] at hvi
      generalize n * 2 ^ (f + 1074).toNat = u at hvi
      omega
  have ha : (((val y).natAbs : Nat) : Rat) = (val y : Rat) := by
    have h1 : (((val y).natAbs : Nat) : Int) = val y := by omega
    have h2 : (((((val y).natAbs : Nat) : Int)) : Rat) = (val y : Rat) := by rw [h1]
    exact h2
  refine right_nearQ (div_right dx dy hn) (by omega) hk ?_ hb
  rw [ha]
  have e1 : sgn (a != b) ((val x).natAbs * 2 ^ 1074) = val x * (P : Int) := by
    rw [hb']
    have : (a != false) = a := by cases a <;> rfl
    rw [this, sgn_mul, val_sgn dx]
    rfl
  rw [e1]
  push_cast
  have e2 : R x / R y * R y = R x := by grind
  grind
end Mine
end
section
open PySem PySem.Float64
set_option Elab.async false
namespace Mine
theorem div_nonneg' {a b : Rat} (ha : 0 ≤ a) (hb : 0 < b) : 0 ≤ a / b := by
  refine Rat.le_of_mul_le_mul_right (c := b) ?_ hb
  have : a / b * b = a := by grind
  rw [this]; grind
theorem cancel {a b c : Rat} (hc : 0 < c) (h : a * c = b * c) : a = b := by
  have : (a - b) * c = 0 := by grind
  rcases Rat.mul_eq_zero.mp this with h | h
  · grind
  · exact absurd h (by grind)
theorem frac_near {n d k : Nat} (hd : 0 < d) (hk : k ≤ 60) (hb : (n : Rat) / (d : Rat) ≤ 2 ^ k) : isFinite (ofFrac false n d) = true ∧ Nr (R (ofFrac false n d)) ((n : Rat) / (d : Rat)) (2 ^ k / 2 ^ 52) := by
  have hdq : (0 : Rat) < (d : Rat) := by exact_mod_cast hd
  have hn : (0 : Rat) ≤ (n : Rat) := by exact_mod_cast Nat.zero_le n
  have h0 : 0 ≤ (n : Rat) / (d : Rat) := div_nonneg' hn hdq
  refine right_nearQ (ofFrac_right (W := n * 2 ^ 1074) (D := d) hd rfl hd) hd hk ?_ ⟨hb, ?_⟩
  · have e : ((sgn false (n * 2 ^ 1074) : Int) : Rat) = (n : Rat) * (P : Rat) := by
      show (((n * P : Nat)) : Rat) = _
      push_cast; rfl
    rw [e]
    have : (n : Rat) / (d : Rat) * (d : Rat) = n := by grind
    rw [this]
  · have hp : (0 : Rat) < 2 ^ k := Rat.pow_pos (by decide)
    grind
theorem int_near {i : Int} {k : Nat} (hi : 0 ≤ i) (hk : k ≤ 60) (hb : (i : Rat) ≤ 2 ^ k) : isFinite (ofInt i) = true ∧ Nr (R (ofInt i)) (i : Rat) (2 ^ k / 2 ^ 52) := by
  obtain ⟨n, rfl⟩ : ∃ n : Nat, i = n := ⟨i.toNat, by omega⟩
  have h := frac_near (n := n) (d := 1) (k := k) (by decide) hk (by
    have : (n : Rat) / ((1 : Nat) : Rat) = n := by
      have : ((1 : Nat) : Rat) = 1 := rfl
      rw [this]; grind
    rw [this]; exact hb)
  have e : (n : Rat) / ((1 : Nat) : Rat) = ((n : Int) : Rat) := by
    have : ((1 : Nat) : Rat) = 1 := rfl
    have h2 : ((n : Int) : Rat) = (n : Rat) := rfl
    rw [this, h2]; grind
  rw [e] at h
  have : ofInt (n : Int) = ofFrac false n 1 := by
    unfold ofInt
    have : decide ((n : Int) < 0) = false := by simp
    rw [this]; rfl
  rw [this]; exact h
theorem R_const {x : UInt64} {i : Int} {j : Nat} (hf : isFinite x = true) (h : val x * 2 ^ j = i * (2 ^ 1074)) : isFinite x = true ∧ R x * 2 ^ j = (i : Rat) := by
  refine ⟨hf, ?_⟩
  have hP := P_posQ
  have h1 : ((val x * 2 ^ j : Int) : Rat) = ((i * (P : Int) : Int) : Rat) := by
    have : val x * 2 ^ j = i * (P : Int) := by rw [h]; unfold P; push_cast; rfl
    rw [this]
  push_cast at h1
  have h2 := R_mul x
  have h3 : (R x * 2 ^ j) * (P : Rat) = i * (P : Rat) := by
    rw [← h1, ← h2]; grind
  exact cancel hP h3
theorem R_1 : isFinite 4607182418800017408 = true ∧ R 4607182418800017408 = 1 := by
  obtain ⟨a, b⟩ := R_const (x := 4607182418800017408) (i := 1) (j := 0) (by decide +kernel) (by decide +kernel)
  exact ⟨a, by grind⟩
theorem R_2 : isFinite 4611686018427387904 = true ∧ R 4611686018427387904 = 2 := by
  obtain ⟨a, b⟩ := R_const (x := 4611686018427387904) (i := 2) (j := 0) (by decide +kernel) (by decide +kernel)
  exact ⟨a, by grind⟩
theorem R_4 : isFinite 4616189618054758400 = true ∧ R 4616189618054758400 = 4 := by
  obtain ⟨a, b⟩ := R_const (x := 4616189618054758400) (i := 4) (j := 0) (by decide +kernel) (by decide +kernel)
  exact ⟨a, by grind⟩
theorem R_6 : isFinite 4618441417868443648 = true ∧ R 4618441417868443648 = 6 := by
  obtain ⟨a, b⟩ := R_const (x := 4618441417868443648) (i := 6) (j := 0) (by decide +kernel) (by decide +kernel)
  exact ⟨a, by grind⟩
theorem R_half : isFinite 4602678819172646912 = true ∧ R 4602678819172646912 = 1 / 2 := by
  obtain ⟨a, b⟩ := R_const (x := 4602678819172646912) (i := 1) (j := 1) (by decide +kernel) (by decide +kernel)
  exact ⟨a, by grind⟩
theorem R_lt {x y : UInt64} : R x < R y ↔ val x < val y := by
  have hP := P_posQ
  have ex := R_mul x
  have ey := R_mul y
  constructor
  · intro h
    have h1 : R x * (P : Rat) < R y * (P : Rat) := Rat.mul_lt_mul_of_pos_right h hP
    rw [ex, ey] at h1
    exact_mod_cast h1
  · intro h
    have h1 : (val x : Rat) < (val y : Rat) := by exact_mod_cast h
    rw [← ex, ← ey] at h1
    exact Rat.lt_of_mul_lt_mul_right h1 (Rat.le_of_lt hP)
theorem cmp_lt {x y : UInt64} (hx : isFinite x = true) (hy : isFinite y = true) (h : R x < R y) : cmp x y = some .lt := by
  obtain ⟨a, m, e, dx⟩ := isFin_iff hx
  obtain ⟨b, n, f, dy⟩ := isFin_iff hy
  rw [cmp_right dx dy, Int.compare_eq_lt.mpr (R_lt.mp h)]
theorem cmp_gt {x y : UInt64} (hx : isFinite x = true) (hy : isFinite y = true) (h : R y < R x) : cmp x y = some .gt := by
  obtain ⟨a, m, e, dx⟩ := isFin_iff hx
  obtain ⟨b, n, f, dy⟩ := isFin_iff hy
  rw [cmp_right dx dy, Int.compare_eq_gt.mpr (R_lt.mp h)]
theorem cmp_self {x : UInt64} (hx : isFinite x = true) : cmp x x = some .eq := by
  obtain ⟨a, m, e, dx⟩ := isFin_iff hx
  rw [cmp_right dx dx, Int.compare_eq_eq.mpr rfl]
theorem fin_notInf {x : UInt64} (hx : isFinite x = true) : isInf x = false := by
  obtain ⟨a, m, e, dx⟩ := isFin_iff hx
  unfold isInf; rw [dx]
theorem val_isZero {x : UInt64} (h : isZero x = true) : R x = 0 := by
  have : val x = 0 := by
    unfold isZero at h
    split at h
    · rename_i e1; rw [val_eq e1]; unfold sgn; simp
    · cases h
  unfold R; rw [this]; grind
theorem notZero {x : UInt64} (h : R x ≠ 0) : isZero x = false := by
  cases e : isZero x
  · rfl
  · exact absurd (val_isZero e) h
theorem trunc_core {n m a b : Int} (hb : 0 < b) (h1 : n * b ≤ m) (h2 : m < (n + 1) * b) : m.fdiv b = n := by
  have : m.fdiv b = m / b := by
    rw [Int.fdiv_eq_ediv_of_nonneg _ (Int.le_of_lt hb)]
  rw [this]
  apply Int.le_antisymm
  · have := Int.ediv_lt_of_lt_mul hb h2
    omega
  · exact Int.le_ediv_of_mul_le hb h1
theorem trunc_is {x : UInt64} {n : Int} (hx : isFinite x = true) (hn : 0 ≤ n) (h1 : (n : Rat) ≤ R x) (h2 : R x < (n : Rat) + 1) : Flt.toInt truncOf x = n := by
  obtain ⟨a, m, e, dx⟩ := isFin_iff hx
  have hP := P_posQ
  have ex := R_mul x
  have i1 : n * (P : Int) ≤ val x := by
    have : (n : Rat) * (P : Rat) ≤ R x * (P : Rat) := Rat.mul_le_mul_of_nonneg_right h1 (Rat.le_of_lt hP)
    rw [ex] at this
    have h3 : ((n * (P : Int) : Int) : Rat) ≤ (val x : Rat) := by push_cast; exact this
    exact_mod_cast h3
  have i2 : val x < (n + 1) * (P : Int) := by
    have : R x * (P : Rat) < ((n : Rat) + 1) * (P : Rat) := Rat.mul_lt_mul_of_pos_right h2 hP
    rw [ex] at this
    have h3 : (val x : Rat) < (((n + 1) * (P : Int) : Int) : Rat) := by push_cast; exact this
    exact_mod_cast h3
  have he := decode_ge dx
  have hPi : (0 : Int) < (P : Int) := by exact_mod_cast P_pos
  unfold Flt.toInt
  rw [dx]
  show truncOf a m e = n
  have hv := val_eq dx
  cases a
  · have hv' : val x = (m : Int) * 2 ^ (e + 1074).toNat := by rw [hv]; unfold sgn; simp
    unfold truncOf floorOf
    rw [if_neg (by decide)]
    have hs : sgn false m = (m : Int) := rfl
    rw [hs]
    split
    · rename_i h
      have e1 : (e + 1074).toNat = e.toNat + 1074 := by omega
      have hv2 : val x = (m : Int) * 2 ^ e.toNat * (P : Int) := by
        rw [hv', e1, Int.pow_add, ← Int.mul_assoc]
        have : ((P : Nat) : Int) = 2 ^ 1074 := by unfold P; push_cast; rfl
        rw [this]
      rw [hv2] at i1 i2
      have j1 := Int.le_of_mul_le_mul_right i1 hPi
      have j2 := Int.lt_of_mul_lt_mul_right i2 (Int.le_of_lt hPi)
      omega
    · rename_i h
      have e1 : 1074 = (-e).toNat + (e + 1074).toNat := by omega
      have hP2 : (P : Int) = 2 ^ (-e).toNat * 2 ^ (e + 1074).toNat := by
        rw [← Int.pow_add, ← e1]
        unfold P; push_cast; rfl
      have hpos : (0 : Int) < 2 ^ (e + 1074).toNat := Int.pow_pos (by decide)
      have hpos2 : (0 : Int) < 2 ^ (-e).toNat := Int.pow_pos (by decide)
      rw [hv', hP2, ← Int.mul_assoc] at i1 i2
      exact trunc_core (a := 0) hpos2 (Int.le_of_mul_le_mul_right i1 hpos) (Int.lt_of_mul_lt_mul_right i2 (Int.le_of_lt hpos))
  · have hv' : val x = -((m : Int) * 2 ^ (e + 1074).toNat) := by rw [hv]; unfold sgn; simp
    have hpos : (0 : Int) < 2 ^ (e + 1074).toNat := Int.pow_pos (by decide)
    have h0 : 0 ≤ val x := Int.le_trans (Int.mul_nonneg hn (Int.le_of_lt hPi)) i1
    have hm : m = 0 := by
      rcases Nat.eq_zero_or_pos m with h | h
      · exact h
      · have : (0 : Int) < (m : Int) * 2 ^ (e + 1074).toNat := Int.mul_pos (by omega) hpos
        omega
    subst hm
    have hx0 : val x = 0 := by rw [hv']; simp
    have hn0 : n = 0 := by
      rw [hx0] at i1
      rcases Int.lt_or_le 0 n with h | h
      · have := Int.mul_pos h hPi; omega
      · omega
    subst hn0
    unfold truncOf ceilOf floorOf sgn
    simp
end Mine
end
section
open PySem PySem.Float64
set_option Elab.async false
namespace Mine
theorem abs_mul {u v e c : Rat} (h1 : -e ≤ u) (h2 : u ≤ e) (h3 : -c ≤ v) (h4 : v ≤ c) : -(e * c) ≤ u * v ∧ u * v ≤ e * c := by
  have a1 : 0 ≤ (e - u) * (c + v) := Rat.mul_nonneg (by grind) (by grind)
  have a2 : 0 ≤ (e + u) * (c - v) := Rat.mul_nonneg (by grind) (by grind)
  have a3 : 0 ≤ (e - u) * (c - v) := Rat.mul_nonneg (by grind) (by grind)
  have a4 : 0 ≤ (e + u) * (c + v) := Rat.mul_nonneg (by grind) (by grind)
  constructor <;> grind
theorem mul_nr {x y a b e f A B : Rat} (hx : Nr x a e) (hy : Nr y b f) (a1 : -A ≤ a) (a2 : a ≤ A) (b1 : -B ≤ b) (b2 : b ≤ B) : Nr (x * y) (a * b) (e * (B + f) + A * f) := by
  have h1 := abs_mul (u := x - a) (v := y) (e := e) (c := B + f) (by have := hx.2; grind) hx.1 (by have := hy.2; grind) (by have := hy.1; grind)
  have h2 := abs_mul (u := a) (v := y - b) (e := A) (c := f) a1 a2 (by have := hy.2; grind) hy.1
  have e1 : x * y - a * b = (x - a) * y + a * (y - b) := by grind
  constructor
  · rw [e1]; grind
  · have e2 : a * b - x * y = -((x - a) * y) - a * (y - b) := by grind
    rw [e2]; grind
theorem Nr.trans {x y z e f g : Rat} (h1 : Nr x y e) (h2 : Nr y z f) (hg : e + f ≤ g) : Nr x z g := by
  obtain ⟨a, b⟩ := h1; obtain ⟨c, d⟩ := h2; constructor <;> grind
theorem Nr.wide {x y e f : Rat} (h1 : Nr x y e) (hg : e ≤ f) : Nr x y f := by
  obtain ⟨a, b⟩ := h1; constructor <;> grind
theorem Nr.add {x y a b e f g : Rat} (h1 : Nr x a e) (h2 : Nr y b f) (hg : e + f ≤ g) : Nr (x + y) (a + b) g := by
  obtain ⟨p, q⟩ := h1; obtain ⟨c, d⟩ := h2; constructor <;> grind
theorem Nr.sub {x y a b e f g : Rat} (h1 : Nr x a e) (h2 : Nr y b f) (hg : e + f ≤ g) : Nr (x - y) (a - b) g := by
  obtain ⟨p, q⟩ := h1; obtain ⟨c, d⟩ := h2; constructor <;> grind
/-- a finite word near an exact number -/
def Ap (x : UInt64) (q e : Rat) : Prop := isFinite x = true ∧ Nr (R x) q e
theorem Ap.add {x y : UInt64} {a b e f g : Rat} (k : Nat) (hx : Ap x a e) (hy : Ap y b f) (hk : k ≤ 60) (h1 : a + b + e + f ≤ 2 ^ k) (h2 : -(2 ^ k) ≤ a + b - e - f) (hg : e + f + 2 ^ k / 2 ^ 52 ≤ g) : Ap (Float64.add x y) (a + b) g := by
  obtain ⟨fx, p, q⟩ := hx; obtain ⟨fy, c, d⟩ := hy
  obtain ⟨ff, n1, n2⟩ := add_near (k := k) fx fy hk (by constructor <;> grind)
  exact ⟨ff, by constructor <;> grind⟩
theorem Ap.sub {x y : UInt64} {a b e f g : Rat} (k : Nat) (hx : Ap x a e) (hy : Ap y b f) (hk : k ≤ 60) (h1 : a - b + e + f ≤ 2 ^ k) (h2 : -(2 ^ k) ≤ a - b - e - f) (hg : e + f + 2 ^ k / 2 ^ 52 ≤ g) : Ap (Float64.sub x y) (a - b) g := by
  obtain ⟨fx, p, q⟩ := hx; obtain ⟨fy, c, d⟩ := hy
  obtain ⟨ff, n1, n2⟩ := sub_near (k := k) fx fy hk (by constructor <;> grind)
  exact ⟨ff, by constructor <;> grind⟩
theorem Ap.mul {x y : UInt64} {a b e f g : Rat} (k : Nat) (A B : Rat) (hx : Ap x a e) (hy : Ap y b f) (hk : k ≤ 60) (a1 : -A ≤ a) (a2 : a ≤ A) (b1 : -B ≤ b) (b2 : b ≤ B) (h1 : a * b + (e * (B + f) + A * f) ≤ 2 ^ k) (h2 : -(2 ^ k) ≤ a * b - (e * (B + f) + A * f)) (hg : (e * (B + f) + A * f) + 2 ^ k / 2 ^ 52 ≤ g) :
    Ap (Float64.mul x y) (a * b) g := by
  have hm := mul_nr hx.2 hy.2 a1 a2 b1 b2
  generalize e * (B + f) + A * f = m at *
  obtain ⟨m1, m2⟩ := hm
  obtain ⟨ff, n1, n2⟩ := mul_near (k := k) hx.1 hy.1 hk (by constructor <;> grind)
  exact ⟨ff, by constructor <;> grind⟩
theorem Ap.cong {x : UInt64} {a b e : Rat} (h : Ap x a e) (hab : a = b) : Ap x b e := hab ▸ h
theorem Ap.wide {x : UInt64} {a e f : Rat} (h : Ap x a e) (hf : e ≤ f) : Ap x a f := ⟨h.1, h.2.wide hf⟩
theorem Ap.exact {x : UInt64} {a : Rat} (h : isFinite x = true ∧ R x = a) : Ap x a 0 := ⟨h.1, by rw [h.2]; constructor <;> grind⟩
theorem Ap.frac {n d : Nat} (k : Nat) (hd : 0 < d) (hk : k ≤ 60) (hb : (n : Rat) / (d : Rat) ≤ 2 ^ k) : Ap (ofFrac false n d) ((n : Rat) / (d : Rat)) (2 ^ k / 2 ^ 52) := frac_near hd hk hb
theorem Ap.int {i : Int} (k : Nat) (hi : 0 ≤ i) (hk : k ≤ 60) (hb : (i : Rat) ≤ 2 ^ k) : Ap (ofInt i) (i : Rat) (2 ^ k / 2 ^ 52) := int_near hi hk hb
theorem trunc_neg {x : UInt64} (hx : isFinite x = true) : Flt.toInt truncOf (neg x) = -Flt.toInt truncOf x := by
  obtain ⟨a, m, e, dx⟩ := isFin_iff hx
  unfold Flt.toInt
  rw [neg_decode dx, dx]
  show truncOf (!a) m e = -truncOf a m e
  cases a
  · unfold truncOf ceilOf; simp
  · unfold truncOf ceilOf; simp
theorem floor_ex (q : Rat) (hq : 0 ≤ q) : ∃ i : Int, 0 ≤ i ∧ (i : Rat) ≤ q ∧ q < (i : Rat) + 1 := by
  refine ⟨q.floor, ?_, Rat.floor_le q, by have := Rat.lt_floor_add_one q; push_cast at this; exact this⟩
  exact Rat.le_floor_iff.mpr (by simpa using hq)
/-- the whole part of a word that is not far below nought -/
theorem trunc_ex {y : UInt64} {e : Rat} (hy : isFinite y = true) (h0 : -e ≤ R y) (he : 0 ≤ e ∧ e < 1) : ∃ i : Int, Flt.toInt truncOf y = i ∧ 0 ≤ i ∧ (i : Rat) - e ≤ R y ∧ R y < (i : Rat) + 1 := by
  by_cases hn : 0 ≤ R y
  · obtain ⟨i, i0, i1, i2⟩ := floor_ex (R y) hn
    exact ⟨i, trunc_is hy i0 i1 i2, i0, by grind, i2⟩
  · obtain ⟨fn, rn⟩ := R_neg hy
    have h1 := trunc_is (n := 0) fn (by decide) (by rw [rn]; show (0 : Rat) ≤ _; grind) (by rw [rn]; show _ < (0 : Rat) + 1; grind)
    rw [trunc_neg hy] at h1
    refine ⟨0, by omega, by decide, ?_, ?_⟩
    · show (0 : Rat) - e ≤ _; grind
    · show _ < (0 : Rat) + 1; grind
end Mine
end
section
open PySem PySem.Float64
set_option Elab.async false
namespace Mine
theorem Ap.qF {r w : Int} (k : Nat) (hr : 0 ≤ r) (hw : 0 < w) (hk : k ≤ 60) (hb : (r : Rat) / (w : Rat) ≤ 2 ^ k) : Ap (qF r w) ((r : Rat) / (w : Rat)) (2 ^ k / 2 ^ 52) := by
  obtain ⟨n, rfl⟩ : ∃ n : Nat, r = n := ⟨r.toNat, by omega⟩
  obtain ⟨d, rfl⟩ : ∃ d : Nat, w = d := ⟨w.toNat, by omega⟩
  have e : Mine.qF (n : Int) (d : Int) = ofFrac false n d := by
    unfold Mine.qF
    have h1 : decide ((n : Int) < 0) = false := by simp
    have h2 : decide ((d : Int) < 0) = false := by simp
    rw [h1, h2]; rfl
  rw [e]
  exact Ap.frac k (by omega) hk hb
theorem div_le {a b c : Rat} (hb : 0 < b) (h : a ≤ c * b) : a / b ≤ c := by
  refine Rat.le_of_mul_le_mul_right (c := b) ?_ hb
  have : a / b * b = a := by grind
  rw [this]; exact h
theorem castQ {a b : Int} (h : a ≤ b) : (a : Rat) ≤ (b : Rat) := by exact_mod_cast h
/-- six times the hue, in parts of the turn -/
def spot (place turn thirds : Int) (n : Nat) (big : Bool) : Int := 6 * place + turn * (2 * (thirds * (n : Int)) + 3 * (if big then 0 else 1))
theorem hue_near {place turn thirds : Int} {n : Nat} {big : Bool} (tu : 5 ≤ turn ∧ turn ≤ 16) (pl : 0 ≤ place ∧ place < turn) (th : 1 ≤ thirds ∧ thirds ≤ 2) (hn : n < 60) :
    Ap (Float64.mul (hueF place turn thirds n big) 4618441417868443648) ((spot place turn thirds n big : Rat) / (turn : Rat)) (1 / 2 ^ 41) ∧ (0 : Rat) ≤ (spot place turn thirds n big : Rat) / (turn : Rat) ∧ (spot place turn thirds n big : Rat) / (turn : Rat) ≤ 250 := by
  have t0 : (0 : Rat) < (turn : Rat) := by
    have : (0 : Int) < turn := by omega
    exact_mod_cast this
  have hp : (place : Rat) / (turn : Rat) ≤ 1 := div_le t0 (by have := castQ (Int.le_of_lt pl.2); grind)
  have hp0 : 0 ≤ (place : Rat) / (turn : Rat) := div_nonneg' (castQ pl.1) t0
  have hm : thirds * (n : Int) ≤ 2 * 59 := Int.mul_le_mul th.2 (by omega) (by omega) (by omega)
  have hm0 : 0 ≤ thirds * (n : Int) := Int.mul_nonneg (by omega) (by omega)
  have es : (spot place turn thirds n big : Rat) / (turn : Rat) = ((place : Rat) / (turn : Rat) + ((thirds * (n : Int) : Int) : Rat) / ((3 : Int) : Rat) + (if big then 0 else 1 / 2)) * 6 := by
    unfold spot
    cases big
    · simp only [Bool.false_eq_true, if_false]
      push_cast
      grind
    · simp only [if_true]
      push_cast
      grind
  unfold hueF
  generalize thirds * (n : Int) = m at *
  have hmq := castQ hm
  have hmq0 := castQ hm0
  have c118 : ((2 * 59 : Int) : Rat) = 118 := rfl
  have c0 : ((0 : Int) : Rat) = 0 := rfl
  have h3 : ((3 : Int) : Rat) = 3 := rfl
  rw [c118] at hmq
  rw [c0] at hmq0
  have hq : (m : Rat) / ((3 : Int) : Rat) ≤ 40 := by rw [h3]; exact div_le (by decide) (by grind)
  have hq0 : 0 ≤ (m : Rat) / ((3 : Int) : Rat) := by rw [h3]; exact div_nonneg' hmq0 (by decide)
  have a1 := Ap.qF (r := place) (w := turn) 0 pl.1 (by omega) (by decide) (by grind)
  have a2 := Ap.qF (r := m) (w := 3) 6 hm0 (by decide) (by decide) (by grind)
  have a3 : Ap (Float64.add (Mine.qF place turn) (Mine.qF m 3)) _ (130 / 2 ^ 52) := a1.add 6 a2 (by decide) (by grind) (by grind) (by grind)
  have a5 : Ap (if big then Float64.add (Float64.add (Mine.qF place turn) (Mine.qF m 3)) (Float64.ofInt 0) else Float64.add (Float64.add (Mine.qF place turn) (Mine.qF m 3)) (Mine.qF 1 2)) ((place : Rat) / (turn : Rat) + (m : Rat) / ((3 : Int) : Rat) + (if big then 0 else 1 / 2)) (200 / 2 ^ 52) := by
    cases big
    · have a4 : Ap (Mine.qF 1 2) (1 / 2) (2 ^ 0 / 2 ^ 52) := Ap.qF (r := 1) (w := 2) 0 (by decide) (by decide) (by decide) (by decide +kernel)
      exact a3.add 6 a4 (by decide) (by grind) (by grind) (by grind)
    · have a4 : Ap (Float64.ofInt 0) 0 (2 ^ 0 / 2 ^ 52) := Ap.int (i := 0) 0 (by decide) (by decide) (by decide +kernel)
      exact a3.add 6 a4 (by decide) (by grind) (by grind) (by grind)
  rw [es]
  have hb0 : (0 : Rat) ≤ (if big then 0 else 1 / 2) ∧ (if big then 0 else 1 / 2) ≤ (1 : Rat) / 2 := by
    cases big
    · exact ⟨by decide +kernel, by decide +kernel⟩
    · exact ⟨by decide +kernel, by decide +kernel⟩
  generalize (if big = true then (0 : Rat) else 1 / 2) = u at *
  refine ⟨a5.mul 8 42 6 (Ap.exact R_6) (by decide) (by grind) (by grind) (by grind) (by grind) (by grind) (by grind) (by grind), by grind, by grind⟩
end Mine
end
section
open PySem PySem.Float64
set_option Elab.async false
namespace Mine
theorem hue_parts {h : UInt64} {X turn : Int} (tu : 5 ≤ turn ∧ turn ≤ 16) (hy : Ap (Float64.mul h 4618441417868443648) ((X : Rat) / (turn : Rat)) (1 / 2 ^ 41)) (q0 : (0 : Rat) ≤ (X : Rat) / (turn : Rat)) (q1 : (X : Rat) / (turn : Rat) ≤ 250) :
    ∃ i : Int, hsvI h = i ∧ 0 ≤ i ∧ i ≤ 251 ∧ i * turn ≤ X ∧ X ≤ (i + 1) * turn ∧ Ap (hsvF h) (((X - i * turn : Int) : Rat) / (turn : Rat)) (1 / 2 ^ 39) := by
  have t0 : (0 : Rat) < (turn : Rat) := by
    have : (0 : Int) < turn := by omega
    exact_mod_cast this
  have t16 : (turn : Rat) ≤ 16 := castQ tu.2
  obtain ⟨fy, n1, n2⟩ := hy
  obtain ⟨i, hi, i0, i1, i2⟩ := trunc_ex (e := 1 / 2 ^ 41) fy (by grind) ⟨by decide +kernel, by decide +kernel⟩
  have hX : (X : Rat) / (turn : Rat) * (turn : Rat) = (X : Rat) := by grind
  have hi0 : (0 : Rat) ≤ (i : Rat) := castQ i0
  have hi251 : i ≤ 251 := by
    have : (i : Rat) < ((252 : Int) : Rat) := by
      have : ((252 : Int) : Rat) = 252 := rfl
      rw [this]; grind
    have h2 : i < 252 := Rat.intCast_lt_intCast.mp this
    omega
  have l1 : i * turn ≤ X := by
    have h1 : ((i : Rat) - (X : Rat) / (turn : Rat)) * (turn : Rat) ≤ (1 / 2 ^ 40) * (turn : Rat) := Rat.mul_le_mul_of_nonneg_right (by grind) (by grind)
    have h2 : ((i * turn : Int) : Rat) < ((X + 1 : Int) : Rat) := by push_cast; grind
    have h3 : i * turn < X + 1 := by exact_mod_cast h2
    omega
  have l2 : X ≤ (i + 1) * turn := by
    have h1 : ((X : Rat) / (turn : Rat) - ((i : Rat) + 1)) * (turn : Rat) ≤ (1 / 2 ^ 40) * (turn : Rat) := Rat.mul_le_mul_of_nonneg_right (by grind) (by grind)
    have h2 : ((X : Int) : Rat) < (((i + 1) * turn + 1 : Int) : Rat) := by push_cast; grind
    have h3 : X < (i + 1) * turn + 1 := by exact_mod_cast h2
    omega
  refine ⟨i, hi, i0, hi251, l1, l2, ?_⟩
  have eq : ((X - i * turn : Int) : Rat) / (turn : Rat) = (X : Rat) / (turn : Rat) - (i : Rat) := by push_cast; grind
  have hI : hsvI h = i := hi
  unfold hsvF
  rw [hI, eq]
  have a2 := Ap.int (i := i) 8 i0 (by decide) (by have := castQ hi251; have e : ((251 : Int) : Rat) = 251 := rfl; rw [e] at this; grind)
  have D0 : (0 : Rat) ≤ ((X - i * turn : Int) : Rat) / (turn : Rat) := div_nonneg' (castQ (show (0 : Int) ≤ X - i * turn by omega)) t0
  have D1 : ((X - i * turn : Int) : Rat) / (turn : Rat) ≤ 1 := div_le t0 (by
    have : X - i * turn ≤ turn := by rw [Int.add_mul] at l2; omega
    have := castQ this; grind)
  rw [eq] at D0 D1
  have hy : Ap (Float64.mul h 4618441417868443648) ((X : Rat) / (turn : Rat)) (1 / 2 ^ 41) := ⟨fy, n1, n2⟩
  exact hy.sub 1 a2 (by decide) (by grind) (by grind) (by grind)
/-- a colour's word, times sixteen turns, rounds to the number told -/
def Good (turn level share : Int) (x : UInt64) (T : Int) : Prop :=
  isFinite (Float64.add (Float64.mul (Float64.ofInt (16 * turn)) x) 4602678819172646912) = true ∧ Flt.toInt truncOf (Float64.add (Float64.mul (Float64.ofInt (16 * turn)) x) 4602678819172646912) = turn * level * (4 - share) + level * share * T
theorem good_of {turn level share T : Int} {x : UInt64} {c : Rat} (tu : 5 ≤ turn ∧ turn ≤ 16) (hx : Ap x c (1 / 2 ^ 36)) (c0 : 0 ≤ c) (c1 : c ≤ 1) (hc : 16 * (turn : Rat) * c = ((turn * level * (4 - share) + level * share * T : Int) : Rat)) : Good turn level share x T := by
  have t5 : (5 : Rat) ≤ (turn : Rat) := castQ tu.1
  have t16 : (turn : Rat) ≤ 16 := castQ tu.2
  have e16 : ((16 * turn : Int) : Rat) = 16 * (turn : Rat) := by push_cast; rfl
  have a1 := Ap.int (i := 16 * turn) 8 (by omega) (by decide) (by rw [e16]; grind)
  rw [e16] at a1
  have hcn : (0 : Rat) ≤ 16 * (turn : Rat) * c := Rat.mul_nonneg (by grind) c0
  have hcm : (16 * (turn : Rat)) * c ≤ (16 * (turn : Rat)) * 1 := Rat.mul_le_mul_of_nonneg_left c1 (by grind)
  have a2 : Ap (Float64.mul (Float64.ofInt (16 * turn)) x) (16 * (turn : Rat) * c) (1 / 2 ^ 20) := a1.mul 9 256 1 hx (by decide) (by grind) (by grind) (by grind) c1 (by grind) (by grind) (by grind)
  have a3 : Ap (Float64.add (Float64.mul (Float64.ofInt (16 * turn)) x) 4602678819172646912) (16 * (turn : Rat) * c + 1 / 2) (1 / 4) := a2.add 9 (Ap.exact R_half) (by decide) (by grind) (by grind) (by grind)
  rw [hc] at a3
  obtain ⟨f, m1, m2⟩ := a3
  refine ⟨f, ?_⟩
  rw [hc] at hcn
  generalize turn * level * (4 - share) + level * share * T = N at *
  have hN : 0 ≤ N := by exact_mod_cast hcn
  exact trunc_is f hN (by grind) (by grind)
theorem four_goods {turn level share D : Int} {h : UInt64} (tu : 5 ≤ turn ∧ turn ≤ 16) (lv : 1 ≤ level ∧ level ≤ 4) (sh : 1 ≤ share ∧ share ≤ 4) (hD : 0 ≤ D ∧ D ≤ turn) (hf : Ap (hsvF h) ((D : Rat) / (turn : Rat)) (1 / 2 ^ 39)) :
    Good turn level share (qF level 4) turn ∧ Good turn level share (hsvP (qF share 4) (qF level 4)) 0 ∧ Good turn level share (hsvQ h (qF share 4) (qF level 4)) (turn - D) ∧ Good turn level share (hsvT h (qF share 4) (qF level 4)) D := by
  have t5 : (5 : Rat) ≤ (turn : Rat) := castQ tu.1
  have t0 : (0 : Rat) < (turn : Rat) := by grind
  have l1 : (1 : Rat) ≤ (level : Rat) := castQ lv.1
  have l4 : (level : Rat) ≤ 4 := castQ lv.2
  have s1 : (1 : Rat) ≤ (share : Rat) := castQ sh.1
  have s4 : (share : Rat) ≤ 4 := castQ sh.2
  have D0 : 0 ≤ (D : Rat) / (turn : Rat) := div_nonneg' (castQ hD.1) t0
  have D1 : (D : Rat) / (turn : Rat) ≤ 1 := div_le t0 (by have := castQ hD.2; grind)
  have hDt : (D : Rat) / (turn : Rat) * (turn : Rat) = (D : Rat) := by grind
  have e4 : ((4 : Int) : Rat) = 4 := rfl
  have aV : Ap (qF level 4) ((level : Rat) / 4) (1 / 2 ^ 52) := (Ap.qF (r := level) (w := 4) 0 (by omega) (by decide) (by decide) (by rw [e4]; grind)).wide (by grind)
  have aS : Ap (qF share 4) ((share : Rat) / 4) (1 / 2 ^ 52) := (Ap.qF (r := share) (w := 4) 0 (by omega) (by decide) (by decide) (by rw [e4]; grind)).wide (by grind)
  have aO : Ap 4607182418800017408 1 0 := Ap.exact R_1
  generalize (D : Rat) / (turn : Rat) = p at *
  have hV : (0 : Rat) ≤ (level : Rat) / 4 ∧ (level : Rat) / 4 ≤ 1 := ⟨by grind, by grind⟩
  have hS : (0 : Rat) ≤ (share : Rat) / 4 ∧ (share : Rat) / 4 ≤ 1 := ⟨by grind, by grind⟩
  have unit : ∀ {a b : Rat}, 0 ≤ a ∧ a ≤ 1 → 0 ≤ b ∧ b ≤ 1 → 0 ≤ a * b ∧ a * b ≤ 1 := fun {a b} ha hb => by
    have h1 := Rat.mul_nonneg ha.1 hb.1
    have h2 : a * b ≤ 1 * b := Rat.mul_le_mul_of_nonneg_right ha.2 hb.1
    exact ⟨h1, by grind⟩
  have b1 : Ap (Float64.sub 4607182418800017408 (qF share 4)) (1 - (share : Rat) / 4) (1 / 2 ^ 50) := aO.sub 1 aS (by decide) (by grind) (by grind) (by grind)
  have b1u : 0 ≤ 1 - (share : Rat) / 4 ∧ 1 - (share : Rat) / 4 ≤ 1 := ⟨by grind, by grind⟩
  have b1V := unit hV b1u
  have c1 : Ap (hsvP (qF share 4) (qF level 4)) ((level : Rat) / 4 * (1 - (share : Rat) / 4)) (1 / 2 ^ 36) := aV.mul 1 1 1 b1 (by decide) (by grind) (by grind) (by grind) (by grind) (by grind) (by grind) (by grind)
  have b2 : Ap (Float64.mul (qF share 4) (hsvF h)) ((share : Rat) / 4 * p) (1 / 2 ^ 38) := aS.mul 1 1 1 hf (by decide) (by grind) (by grind) (by grind) (by grind) (by have := unit hS ⟨D0, D1⟩; grind) (by have := unit hS ⟨D0, D1⟩; grind) (by grind)
  have b2u := unit hS ⟨D0, D1⟩
  have b3 : Ap (Float64.sub 4607182418800017408 (Float64.mul (qF share 4) (hsvF h))) (1 - (share : Rat) / 4 * p) (1 / 2 ^ 38 + 1 / 2 ^ 50) := aO.sub 1 b2 (by decide) (by grind) (by grind) (by grind)
  have b3u : 0 ≤ 1 - (share : Rat) / 4 * p ∧ 1 - (share : Rat) / 4 * p ≤ 1 := ⟨by grind, by grind⟩
  have b3V := unit hV b3u
  have c2 : Ap (hsvQ h (qF share 4) (qF level 4)) ((level : Rat) / 4 * (1 - (share : Rat) / 4 * p)) (1 / 2 ^ 36) := aV.mul 1 1 1 b3 (by decide) (by grind) (by grind) (by grind) (by grind) (by grind) (by grind) (by grind)
  have b4 : Ap (Float64.sub 4607182418800017408 (hsvF h)) (1 - p) (1 / 2 ^ 39 + 1 / 2 ^ 50) := aO.sub 1 hf (by decide) (by grind) (by grind) (by grind)
  have b4u : 0 ≤ 1 - p ∧ 1 - p ≤ 1 := ⟨by grind, by grind⟩
  have b5u := unit hS b4u
  have b5 : Ap (Float64.mul (qF share 4) (Float64.sub 4607182418800017408 (hsvF h))) ((share : Rat) / 4 * (1 - p)) (1 / 2 ^ 38) := aS.mul 1 1 1 b4 (by decide) (by grind) (by grind) (by grind) (by grind) (by grind) (by grind) (by grind)
  have b6 : Ap (Float64.sub 4607182418800017408 (Float64.mul (qF share 4) (Float64.sub 4607182418800017408 (hsvF h)))) (1 - (share : Rat) / 4 * (1 - p)) (1 / 2 ^ 38 + 1 / 2 ^ 50) := aO.sub 1 b5 (by decide) (by grind) (by grind) (by grind)
  have b6u : 0 ≤ 1 - (share : Rat) / 4 * (1 - p) ∧ 1 - (share : Rat) / 4 * (1 - p) ≤ 1 := ⟨by grind, by grind⟩
  have b6V := unit hV b6u
  have c3 : Ap (hsvT h (qF share 4) (qF level 4)) ((level : Rat) / 4 * (1 - (share : Rat) / 4 * (1 - p))) (1 / 2 ^ 36) := aV.mul 1 1 1 b6 (by decide) (by grind) (by grind) (by grind) (by grind) (by grind) (by grind) (by grind)
  refine ⟨good_of tu (aV.wide (by grind)) hV.1 hV.2 ?_, good_of tu c1 b1V.1 b1V.2 ?_, good_of tu c2 b3V.1 b3V.2 ?_, good_of tu c3 b6V.1 b6V.2 ?_⟩
  · push_cast; grind
  · push_cast; grind
  · push_cast; grind
  · push_cast; grind
end Mine
end
section
open PySem PySem.Float64
set_option Elab.async false
namespace Mine
/-- the part of a colour by sector, in parts of the turn -/
def secT (s D turn : Int) (c : Nat) : Int :=
  if s = 0 then [turn, D, 0].getD c 0
  else if s = 1 then [turn - D, turn, 0].getD c 0
  else if s = 2 then [0, turn, D].getD c 0
  else if s = 3 then [0, turn - D, turn].getD c 0
  else if s = 4 then [D, 0, turn].getD c 0
  else [turn, 0, turn - D].getD c 0
theorem good_sec {turn level share D : Int} {h : UInt64} {c : Nat} (hc : c < 3)
    (G : Good turn level share (qF level 4) turn ∧ Good turn level share (hsvP (qF share 4) (qF level 4)) 0 ∧ Good turn level share (hsvQ h (qF share 4) (qF level 4)) (turn - D) ∧ Good turn level share (hsvT h (qF share 4) (qF level 4)) D) :
    Good turn level share (hsvR h (qF share 4) (qF level 4) c) (secT ((hsvI h).fmod 6) D turn c) := by
  obtain ⟨gv, gp, gq, gt⟩ := G
  have h3 : c = 0 ∨ c = 1 ∨ c = 2 := by omega
  unfold hsvR secT
  split
  · rcases h3 with rfl | rfl | rfl <;> assumption
  split
  · rcases h3 with rfl | rfl | rfl <;> assumption
  split
  · rcases h3 with rfl | rfl | rfl <;> assumption
  split
  · rcases h3 with rfl | rfl | rfl <;> assumption
  split
  · rcases h3 with rfl | rfl | rfl <;> assumption
  · rcases h3 with rfl | rfl | rfl <;> assumption
/-- what a letter adds, in parts of the turn -/
def letT (place turn thirds : Int) (n : Nat) (big : Bool) (c : Nat) : Int :=
  let f := (firstOf place turn).getD (((c : Int) - thirds * (n : Int)).fmod 3).toNat 0
  if big then f else turn - f
def wheelOk (place turn rho : Int) (big : Bool) (c : Nat) (i : Int) : Bool :=
  let X := 6 * place + turn * (2 * rho + 3 * (if big then 0 else 1))
  let f := (firstOf place turn).getD (((c : Int) - rho).fmod 3).toNat 0
  secT (i.fmod 6) (X - i * turn) turn c == (if big then f else turn - f)
def wheelRow (turn place : Nat) : Bool :=
  (List.range 3).all fun rho => [true, false].all fun big => (List.range 3).all fun c =>
    let X : Int := 6 * (place : Int) + (turn : Int) * (2 * (rho : Int) + 3 * (if big then 0 else 1))
    wheelOk place turn rho big c (X / (turn : Int)) && (X % (turn : Int) != 0 || wheelOk place turn rho big c (X / (turn : Int) - 1))
theorem wheel_all : ((List.range 17).all fun turn => turn < 5 || (List.range turn).all fun place => wheelRow turn place) = true := by decide +kernel
theorem wheel {place turn rho i : Int} {big : Bool} {c : Nat} (tu : 5 ≤ turn ∧ turn ≤ 16) (pl : 0 ≤ place ∧ place < turn) (hr : 0 ≤ rho ∧ rho < 3) (hc : c < 3)
    (h1 : i * turn ≤ 6 * place + turn * (2 * rho + 3 * (if big then 0 else 1))) (h2 : 6 * place + turn * (2 * rho + 3 * (if big then 0 else 1)) ≤ (i + 1) * turn) : wheelOk place turn rho big c i = true := by
  obtain ⟨t, rfl⟩ : ∃ n : Nat, turn = n := ⟨turn.toNat, by omega⟩
  obtain ⟨p, rfl⟩ : ∃ n : Nat, place = n := ⟨place.toNat, by omega⟩
  obtain ⟨r, rfl⟩ : ∃ n : Nat, rho = n := ⟨rho.toNat, by omega⟩
  have w1 := List.all_eq_true.mp wheel_all t (by simp; omega)
  have w2 : ((List.range t).all fun place => wheelRow t place) = true := by
    rcases Bool.or_eq_true _ _ |>.mp w1 with h | h
    · simp at h; omega
    · exact h
  have w3 := List.all_eq_true.mp w2 p (by simp; omega)
  have w4 := List.all_eq_true.mp w3 r (by simp; omega)
  have w5 := List.all_eq_true.mp w4 big (by cases big <;> simp)
  have w6 := List.all_eq_true.mp w5 c (by simp; omega)
  simp only [Bool.and_eq_true, Bool.or_eq_true] at w6
  generalize (6 * (p : Int) + (t : Int) * (2 * (r : Int) + 3 * (if big then 0 else 1))) = X at *
  have t0 : (0 : Int) < (t : Int) := by omega
  have e1 := Int.mul_ediv_add_emod X (t : Int)
  have e2 := Int.emod_nonneg X (b := (t : Int)) (by omega)
  have e3 := Int.emod_lt_of_pos X t0
  rw [Int.add_mul, Int.one_mul] at h2
  have k1 : i ≤ X / (t : Int) := Int.le_ediv_of_mul_le t0 h1
  have k2 : X / (t : Int) - 1 ≤ i := by
    have : (X / (t : Int) - 1) * (t : Int) ≤ i * (t : Int) := by
      rw [Int.sub_mul, Int.one_mul, Int.mul_comm]; omega
    exact Int.le_of_mul_le_mul_right this t0
  by_cases hi : i = X / (t : Int)
  · rw [hi]; exact w6.1
  · have hi' : i = X / (t : Int) - 1 := by omega
    rcases w6.2 with h | h
    · exfalso
      have hx : X % (t : Int) = 0 := by
        have e4 : (X / (t : Int) - 1) * (t : Int) = (t : Int) * (X / (t : Int)) - (t : Int) := by rw [Int.sub_mul, Int.one_mul, Int.mul_comm]
        rw [hi', e4] at h2
        omega
      rw [hx] at h
      exact absurd h (by decide)
    · rw [hi']; exact h
theorem fmod_shift (a b m : Int) : (a + m * b).fmod m = a.fmod m := Int.add_mul_fmod_self_left a m b
theorem sec_let {place turn thirds i : Int} {n c : Nat} {big : Bool} (tu : 5 ≤ turn ∧ turn ≤ 16) (pl : 0 ≤ place ∧ place < turn) (hc : c < 3)
    (h1 : i * turn ≤ spot place turn thirds n big) (h2 : spot place turn thirds n big ≤ (i + 1) * turn) :
    secT (i.fmod 6) (spot place turn thirds n big - i * turn) turn c = letT place turn thirds n big c := by
  have e0 := Int.mul_ediv_add_emod (thirds * (n : Int)) 3
  have r0 := Int.emod_nonneg (thirds * (n : Int)) (b := 3) (by decide)
  have r1 := Int.emod_lt_of_pos (thirds * (n : Int)) (b := 3) (by decide)
  unfold spot letT at *
  generalize hm : thirds * (n : Int) = m at *
  generalize hr : m % 3 = rho at *
  generalize hq : m / 3 = q at *
  have ex : 6 * place + turn * (2 * m + 3 * (if big then 0 else 1)) = 6 * place + turn * (2 * rho + 3 * (if big then 0 else 1)) + 6 * q * turn := by
    generalize (if big = true then (0 : Int) else 1) = u
    rw [← e0]
    grind
  rw [ex] at h1 h2 ⊢
  have g1 : (i - 6 * q) * turn = i * turn - 6 * q * turn := Int.sub_mul _ _ _
  have g2 : (i - 6 * q + 1) * turn = (i + 1) * turn - 6 * q * turn := by rw [← Int.sub_mul]; congr 1; omega
  have W := wheel (i := i - 6 * q) (big := big) (c := c) tu pl ⟨r0, r1⟩ hc (by rw [g1]; omega) (by rw [g2]; omega)
  unfold wheelOk at W
  have W' := eq_of_beq W
  have f1 : (i - 6 * q).fmod 6 = i.fmod 6 := by rw [show i - 6 * q = i + 6 * (-q) by omega]; exact fmod_shift _ _ _
  have f2 : ((c : Int) - m).fmod 3 = ((c : Int) - rho).fmod 3 := by
    rw [show (c : Int) - m = (c : Int) - rho + 3 * (-q) by omega]; exact fmod_shift _ _ _
  rw [f1, g1] at W'
  rw [f2, ← W']
  congr 1
  omega
/-- the walk through one letter -/
theorem col_ok {place turn thirds share level : Int} {n : Nat} {big : Bool} (tu : 5 ≤ turn ∧ turn ≤ 16) (pl : 0 ≤ place ∧ place < turn) (th : 1 ≤ thirds ∧ thirds ≤ 2) (lv : 1 ≤ level ∧ level ≤ 4) (sh : 1 ≤ share ∧ share ≤ 4) (hn : n < 60) :
    isFinite (Float64.mul (hueF place turn thirds n big) 4618441417868443648) = true ∧ (hsvI (hueF place turn thirds n big)).natAbs ≤ 1000000 ∧
    ∀ c : Nat, c < 3 → isFinite (colF place turn thirds share level n big c) = true ∧ colI place turn thirds share level n big c = turn * level * (4 - share) + level * share * letT place turn thirds n big c := by
  obtain ⟨hy, q0, q1⟩ := hue_near (big := big) tu pl th hn
  obtain ⟨i, hi, i0, i1, l1, l2, hf⟩ := hue_parts tu hy q0 q1
  refine ⟨hy.1, by rw [hi]; omega, fun c hc => ?_⟩
  have l2' := l2
  rw [Int.add_mul, Int.one_mul] at l2'
  have G := good_sec (h := hueF place turn thirds n big) hc (four_goods tu lv sh ⟨by omega, by omega⟩ hf)
  rw [hi, sec_let tu pl hc l1 l2] at G
  exact G
end Mine
end
section
open PySem PySem.Float64
set_option Elab.async false
namespace Mine
def evenAt (k : Nat) : Bool := decide ((pcI k).fmod 2 = 0)
def stepOk (k : Nat) : Bool :=
  ((List.range 3).all fun j => (dst ((k : Int) + 1) 6).e.getD j 0 == (dst (k : Int) 6).e.getD j 0 + (if j = k % 3 then (if evenAt k then 1 else -1) else 0)) &&
  (smallOf ((k : Int) + 1) (dst ((k : Int) + 1) 6).sign == smallOf (k : Int) (dst (k : Int) 6).sign + (if evenAt k then 0 else 1))
theorem step_all : ((List.range 60).all stepOk) = true := by decide +kernel
theorem step_e {k : Nat} (hk : k < 60) {j : Nat} (hj : j < 3) : (dst ((k : Int) + 1) 6).e.getD j 0 = (dst (k : Int) 6).e.getD j 0 + (if j = k % 3 then (if evenAt k then 1 else -1) else 0) := by
  have h := List.all_eq_true.mp step_all k (by simp; omega)
  unfold stepOk at h
  rw [Bool.and_eq_true] at h
  exact eq_of_beq (List.all_eq_true.mp h.1 j (by simp; omega))
theorem step_s {k : Nat} (hk : k < 60) : smallOf ((k : Int) + 1) (dst ((k : Int) + 1) 6).sign = smallOf (k : Int) (dst (k : Int) 6).sign + (if evenAt k then 0 else 1) := by
  have h := List.all_eq_true.mp step_all k (by simp; omega)
  unfold stepOk at h
  rw [Bool.and_eq_true] at h
  exact eq_of_beq h.2
theorem pure_step {place turn thirds : Int} {k c : Nat} (hk : k < 60) : pureOf ((k : Int) + 1) place turn thirds c = pureOf (k : Int) place turn thirds c + letT place turn thirds k (evenAt k) c := by
  have h0 := step_e hk (j := 0) (by omega)
  have h1 := step_e hk (j := 1) (by omega)
  have h2 := step_e hk (j := 2) (by omega)
  have hs := step_s hk
  unfold pureOf letT
  rw [hs, show List.range 3 = [0, 1, 2] from rfl]
  simp only [List.map_cons, List.map_nil, List.sum_cons, List.sum_nil]
  rw [h0, h1, h2]
  have hq : (k : Int) = 3 * ((k / 3 : Nat) : Int) + ((k % 3 : Nat) : Int) := by omega
  have hf : ((c : Int) - thirds * (k : Int)).fmod 3 = ((c : Int) - thirds * ((k % 3 : Nat) : Int)).fmod 3 := by
    have e : (c : Int) - thirds * (k : Int) = (c : Int) - thirds * ((k % 3 : Nat) : Int) + 3 * (-(thirds * ((k / 3 : Nat) : Int))) := by
      conv => lhs; rw [hq]
      grind
    rw [e]; exact fmod_shift _ _ _
  rw [hf]
  have hj : k % 3 < 3 := Nat.mod_lt _ (by decide)
  generalize k % 3 = j at *
  have h3 : j = 0 ∨ j = 1 ∨ j = 2 := by omega
  generalize evenAt k = b at *
  generalize smallOf (k : Int) (dst (k : Int) 6).sign = s at *
  generalize (dst (k : Int) 6).e = el at *
  generalize firstOf place turn = fo at *
  rcases h3 with rfl | rfl | rfl <;> cases b <;> simp <;> grind
theorem pure_zero (place turn thirds : Int) (c : Nat) : pureOf ((0 : Nat) : Int) place turn thirds c = 0 := by
  have e1 : (dst ((0 : Nat) : Int) 6).e = [0, 0, 0] := by decide +kernel
  have e2 : smallOf ((0 : Nat) : Int) (dst ((0 : Nat) : Int) 6).sign = 0 := by decide +kernel
  unfold pureOf
  rw [e1, e2, show List.range 3 = [0, 1, 2] from rfl]
  simp
theorem mix_pure {letters : Str} {place turn thirds share level : Int} {c : Nat} (tu : 5 ≤ turn ∧ turn ≤ 16) (pl : 0 ≤ place ∧ place < turn) (th : 1 ≤ thirds ∧ thirds ≤ 2) (lv : 1 ≤ level ∧ level ≤ 4) (sh : 1 ≤ share ∧ share ≤ 4) (hc : c < 3)
    {count : Nat} (hcount : count ≤ 60) (hbig : ∀ k < count, bigAt letters k = evenAt k) : ∀ k ≤ count, mixS letters place turn thirds share level k c = (k : Int) * turn * level * (4 - share) + level * share * pureOf (k : Int) place turn thirds c := by
  intro k
  induction k with
  | zero =>
    intro _
    rw [pure_zero]
    simp [mixS]
  | succ k ih =>
    intro hk
    have h1 := ih (by omega)
    have h2 := ((col_ok (share := share) (level := level) (big := evenAt k) tu pl th lv sh (n := k) (by omega)).2.2 c hc).2
    have h3 := pure_step (place := place) (turn := turn) (thirds := thirds) (k := k) (c := c) (by omega)
    show mixS letters place turn thirds share level k c + colI place turn thirds share level k (bigAt letters k) c = _
    rw [hbig k (by omega), h1, h2]
    have e : ((k + 1 : Nat) : Int) = (k : Int) + 1 := by omega
    rw [e, h3]
    grind
end Mine
end
section
open PySem PySem.Float64
set_option Elab.async false
namespace Mine
def firstOk (turn place : Nat) : Bool :=
  ((List.range 3).all fun j => decide (0 ≤ (firstOf place turn).getD j 0) && decide ((firstOf place turn).getD j 0 ≤ (turn : Int))) &&
  !((firstOf place turn).getD 0 0 == (firstOf place turn).getD 1 0 && (firstOf place turn).getD 1 0 == (firstOf place turn).getD 2 0)
theorem first_all : ((List.range 17).all fun turn => turn < 5 || (List.range turn).all fun place => firstOk turn place) = true := by decide +kernel
theorem first_ok {place turn : Int} (tu : 5 ≤ turn ∧ turn ≤ 16) (pl : 0 ≤ place ∧ place < turn) :
    (∀ j < 3, 0 ≤ (firstOf place turn).getD j 0 ∧ (firstOf place turn).getD j 0 ≤ turn) ∧ ¬((firstOf place turn).getD 0 0 = (firstOf place turn).getD 1 0 ∧ (firstOf place turn).getD 1 0 = (firstOf place turn).getD 2 0) := by
  obtain ⟨t, rfl⟩ : ∃ n : Nat, turn = n := ⟨turn.toNat, by omega⟩
  obtain ⟨p, rfl⟩ : ∃ n : Nat, place = n := ⟨place.toNat, by omega⟩
  have w1 := List.all_eq_true.mp first_all t (by simp; omega)
  have w2 : ((List.range t).all fun place => firstOk t place) = true := by
    rcases Bool.or_eq_true _ _ |>.mp w1 with h | h
    · simp at h; omega
    · exact h
  have w3 := List.all_eq_true.mp w2 p (by simp; omega)
  unfold firstOk at w3
  rw [Bool.and_eq_true] at w3
  constructor
  · intro j hj
    have := List.all_eq_true.mp w3.1 j (by simp; omega)
    rw [Bool.and_eq_true] at this
    exact ⟨of_decide_eq_true this.1, of_decide_eq_true this.2⟩
  · intro ⟨h1, h2⟩
    have := w3.2
    rw [h1, h2] at this
    simp at this
theorem let_bounds {place turn thirds : Int} {n c : Nat} {big : Bool} (tu : 5 ≤ turn ∧ turn ≤ 16) (pl : 0 ≤ place ∧ place < turn) : 0 ≤ letT place turn thirds n big c ∧ letT place turn thirds n big c ≤ turn := by
  have r0 := Int.fmod_nonneg_of_pos ((c : Int) - thirds * (n : Int)) (b := 3) (by decide)
  have r1 := Int.fmod_lt_of_pos ((c : Int) - thirds * (n : Int)) (b := 3) (by decide)
  have h := (first_ok tu pl).1 (((c : Int) - thirds * (n : Int)).fmod 3).toNat (by omega)
  unfold letT
  cases big
  · simp only [Bool.false_eq_true, if_false]; omega
  · simp only [if_true]; omega
theorem pure_bounds {place turn thirds : Int} {c : Nat} (tu : 5 ≤ turn ∧ turn ≤ 16) (pl : 0 ≤ place ∧ place < turn) : ∀ k ≤ 60, 0 ≤ pureOf ((k : Nat) : Int) place turn thirds c ∧ pureOf ((k : Nat) : Int) place turn thirds c ≤ (k : Int) * turn := by
  intro k
  induction k with
  | zero => intro _; rw [pure_zero]; simp
  | succ k ih =>
    intro hk
    have h1 := ih (by omega)
    have h2 := let_bounds (thirds := thirds) (n := k) (c := c) (big := evenAt k) tu pl
    have h3 := pure_step (place := place) (turn := turn) (thirds := thirds) (k := k) (c := c) (by omega)
    have e : ((k + 1 : Nat) : Int) = (k : Int) + 1 := by omega
    rw [e, h3, Int.add_mul, Int.one_mul]
    omega
def eOk (k : Nat) : Bool := !((dst ((k : Int) + 1) 6).e.getD 0 0 == (dst ((k : Int) + 1) 6).e.getD 1 0 && (dst ((k : Int) + 1) 6).e.getD 1 0 == (dst ((k : Int) + 1) 6).e.getD 2 0)
theorem e_all : ((List.range 60).all eOk) = true := by decide +kernel
theorem sq_pos {b : Int} (h : b ≠ 0) : 0 < b * b := by
  rcases Int.lt_or_gt_of_ne h with h | h
  · exact Int.mul_pos_of_neg_of_neg h h
  · exact Int.mul_pos h h
theorem sq_nonneg (b : Int) : 0 ≤ b * b := by
  by_cases h : b = 0
  · subst h; decide
  · exact Int.le_of_lt (sq_pos h)
theorem quad {a b : Int} (h : a * a - a * b + b * b = 0) : a = 0 ∧ b = 0 := by
  have h1 : (2 * a - b) * (2 * a - b) + 3 * (b * b) = 0 := by grind
  have h2 := sq_nonneg (2 * a - b)
  have hb : b = 0 := by
    by_cases hb : b = 0
    · exact hb
    · have := sq_pos hb; omega
  subst hb
  refine ⟨?_, rfl⟩
  by_cases ha : a = 0
  · exact ha
  · have := sq_pos ha; grind
theorem conv_const {e0 e1 e2 f0 f1 f2 : Int} (h1 : e0 * f0 + e1 * f2 + e2 * f1 = e0 * f1 + e1 * f0 + e2 * f2) (h2 : e0 * f1 + e1 * f0 + e2 * f2 = e0 * f2 + e1 * f1 + e2 * f0) :
    (e0 = e1 ∧ e1 = e2) ∨ (f0 = f1 ∧ f1 = f2) := by
  have k1 : (e0 - e2) * (f0 - f2) = (e1 - e2) * (f1 - f2) := by grind
  have k2 : (e0 - e2) * (f1 - f2) + (e1 - e2) * (f0 - f2) = (e1 - e2) * (f1 - f2) := by grind
  have h : (f1 - f2) * ((e0 - e2) * (e0 - e2) - (e0 - e2) * (e1 - e2) + (e1 - e2) * (e1 - e2)) = 0 := by
    generalize e0 - e2 = a at *
    generalize e1 - e2 = b at *
    generalize f0 - f2 = p at *
    generalize f1 - f2 = q at *
    have : a * (a * q + b * p) = a * (b * q) := by rw [k2]
    have : b * (a * p) = b * (b * q) := by rw [k1]
    grind
  rcases Int.mul_eq_zero.mp h with h | h
  · rw [h, Int.mul_zero] at k1
    rw [h, Int.mul_zero, Int.mul_zero, Int.zero_add] at k2
    by_cases hp : f0 - f2 = 0
    · right; omega
    · left
      rcases Int.mul_eq_zero.mp k1 with k1 | k1
      · rcases Int.mul_eq_zero.mp k2 with k2 | k2
        · omega
        · exact absurd k2 hp
      · exact absurd k1 hp
  · have := quad h
    left; omega
theorem not_grey {place turn thirds : Int} {k : Nat} (hk : k < 60) (tu : 5 ≤ turn ∧ turn ≤ 16) (pl : 0 ≤ place ∧ place < turn) (th : 1 ≤ thirds ∧ thirds ≤ 2) :
    ¬(pureOf ((k : Int) + 1) place turn thirds 0 = pureOf ((k : Int) + 1) place turn thirds 1 ∧ pureOf ((k : Int) + 1) place turn thirds 1 = pureOf ((k : Int) + 1) place turn thirds 2) := by
  intro ⟨h1, h2⟩
  have hE := List.all_eq_true.mp e_all k (by simp; omega)
  unfold eOk at hE
  have hF := (first_ok tu pl).2
  unfold pureOf at h1 h2
  rw [show List.range 3 = [0, 1, 2] from rfl] at h1 h2
  simp only [List.map_cons, List.map_nil, List.sum_cons, List.sum_nil] at h1 h2
  generalize smallOf ((k : Int) + 1) (dst ((k : Int) + 1) 6).sign * turn = s at *
  generalize (dst ((k : Int) + 1) 6).e.getD 0 0 = e0 at *
  generalize (dst ((k : Int) + 1) 6).e.getD 1 0 = e1 at *
  generalize (dst ((k : Int) + 1) 6).e.getD 2 0 = e2 at *
  have h3 : thirds = 1 ∨ thirds = 2 := by omega
  rcases h3 with rfl | rfl
  · have i00 : ((((0 : Nat) : Int) - 1 * ((0 : Nat) : Int)).fmod 3).toNat = 0 := by decide
    have i01 : ((((0 : Nat) : Int) - 1 * ((1 : Nat) : Int)).fmod 3).toNat = 2 := by decide
    have i02 : ((((0 : Nat) : Int) - 1 * ((2 : Nat) : Int)).fmod 3).toNat = 1 := by decide
    have i10 : ((((1 : Nat) : Int) - 1 * ((0 : Nat) : Int)).fmod 3).toNat = 1 := by decide
    have i11 : ((((1 : Nat) : Int) - 1 * ((1 : Nat) : Int)).fmod 3).toNat = 0 := by decide
    have i12 : ((((1 : Nat) : Int) - 1 * ((2 : Nat) : Int)).fmod 3).toNat = 2 := by decide
    have i20 : ((((2 : Nat) : Int) - 1 * ((0 : Nat) : Int)).fmod 3).toNat = 2 := by decide
    have i21 : ((((2 : Nat) : Int) - 1 * ((1 : Nat) : Int)).fmod 3).toNat = 1 := by decide
    have i22 : ((((2 : Nat) : Int) - 1 * ((2 : Nat) : Int)).fmod 3).toNat = 0 := by decide
    rw [i00, i01, i02, i10, i11, i12] at h1
    rw [i10, i11, i12, i20, i21, i22] at h2
    rcases conv_const (e0 := e0) (e1 := e1) (e2 := e2) (f0 := (firstOf place turn).getD 0 0) (f1 := (firstOf place turn).getD 1 0) (f2 := (firstOf place turn).getD 2 0) (by omega) (by omega) with ⟨a, b⟩ | h
    · rw [a, b] at hE; simp at hE
    · exact hF h
  · have i00 : ((((0 : Nat) : Int) - 2 * ((0 : Nat) : Int)).fmod 3).toNat = 0 := by decide
    have i01 : ((((0 : Nat) : Int) - 2 * ((1 : Nat) : Int)).fmod 3).toNat = 1 := by decide
    have i02 : ((((0 : Nat) : Int) - 2 * ((2 : Nat) : Int)).fmod 3).toNat = 2 := by decide
    have i10 : ((((1 : Nat) : Int) - 2 * ((0 : Nat) : Int)).fmod 3).toNat = 1 := by decide
    have i11 : ((((1 : Nat) : Int) - 2 * ((1 : Nat) : Int)).fmod 3).toNat = 2 := by decide
    have i12 : ((((1 : Nat) : Int) - 2 * ((2 : Nat) : Int)).fmod 3).toNat = 0 := by decide
    have i20 : ((((2 : Nat) : Int) - 2 * ((0 : Nat) : Int)).fmod 3).toNat = 2 := by decide
    have i21 : ((((2 : Nat) : Int) - 2 * ((1 : Nat) : Int)).fmod 3).toNat = 0 := by decide
    have i22 : ((((2 : Nat) : Int) - 2 * ((2 : Nat) : Int)).fmod 3).toNat = 1 := by decide
    rw [i00, i01, i02, i10, i11, i12] at h1
    rw [i10, i11, i12, i20, i21, i22] at h2
    rcases conv_const (e0 := e0) (e1 := e2) (e2 := e1) (f0 := (firstOf place turn).getD 0 0) (f1 := (firstOf place turn).getD 1 0) (f2 := (firstOf place turn).getD 2 0) (by omega) (by omega) with ⟨a, b⟩ | h
    · have : e0 = e1 := a.trans b
      rw [this, b] at hE; simp at hE
    · exact hF h
end Mine
end
section
open PySem PySem.Float64
set_option Elab.async false
namespace Mine
theorem one_dec : decode 4607182418800017408 = .fin false (2 ^ 52) (-52) := by
  unfold decode
  rfl
theorem fmod_one {x : UInt64} (hx : isFinite x = true) (h1 : -1 < R x) (h2 : R x < 1) : Ap (Float64.fmod x 4607182418800017408) (R x) (2 ^ 0 / 2 ^ 52) := by
  obtain ⟨a, m, e, dx⟩ := isFin_iff hx
  have he := decode_ge dx
  have hP := P_posQ
  have ex := R_mul x
  have hlt : m * 2 ^ (e + 1074).toNat < 2 ^ 1074 := by
    have k1 : val x < (P : Int) := by
      have : R x * (P : Rat) < 1 * (P : Rat) := Rat.mul_lt_mul_of_pos_right h2 hP
      rw [ex] at this
      have h3 : (val x : Rat) < (((P : Int) : Int) : Rat) := by
        have : ((P : Int) : Rat) = (P : Rat) := rfl
        rw [this]; grind
      exact Rat.intCast_lt_intCast.mp h3
    have k2 : -(P : Int) < val x := by
      have : -1 * (P : Rat) < R x * (P : Rat) := Rat.mul_lt_mul_of_pos_right h1 hP
      rw [ex] at this
      have h3 : ((-(P : Int) : Int) : Rat) < (val x : Rat) := by
        have : ((-(P : Int) : Int) : Rat) = -(P : Rat) := Rat.intCast_neg _
        rw [this]; grind
      exact Rat.intCast_lt_intCast.mp h3
    have k3 := val_natAbs dx
    have k4 : (val x).natAbs < P := by omega
    rw [k3] at k4
    exact k4
  generalize hg : min e (-52) = g
  have g1 : (e - g).toNat + (g + 1074).toNat = (e + 1074).toNat := by omega
  have g2 : 52 + (-52 - g).toNat + (g + 1074).toNat = 1074 := by omega
  have hpq : m * 2 ^ (e - g).toNat < 2 ^ 52 * 2 ^ (-52 - g).toNat := by
    have : m * 2 ^ (e - g).toNat * 2 ^ (g + 1074).toNat < 2 ^ 52 * 2 ^ (-52 - g).toNat * 2 ^ (g + 1074).toNat := by
      rw [Nat.mul_assoc, ← Nat.pow_add, g1, ← Nat.pow_add, ← Nat.pow_add, g2]
      exact hlt
    exact Nat.lt_of_mul_lt_mul_right this
  have hf : Float64.fmod x 4607182418800017408 = ofBin a (m * 2 ^ (e - g).toNat) g := by
    unfold Float64.fmod
    rw [dx, one_dec]
    have hk : ((2 ^ 52 : Nat) == 0) = false := by decide
    simp only [hk, align, hg, sgn, Bool.false_eq_true, if_false, Int.toNat_natCast]
    rw [Nat.mod_eq_of_lt hpq]
  rw [hf]
  have hR : Right (ofBin a (m * 2 ^ (e - g).toNat) g) a (m * 2 ^ (e + 1074).toNat) 1 := by
    have hs := shift_one (m * 2 ^ (e - g).toNat) g 1074 (by omega)
    have eb : ofBin a (m * 2 ^ (e - g).toNat) g = ofFrac a (shift (m * 2 ^ (e - g).toNat) 1 g).1 (shift (m * 2 ^ (e - g).toNat) 1 g).2 := rfl
    rw [eb]
    refine ofFrac_right (n := (shift (m * 2 ^ (e - g).toNat) 1 g).1) (d := (shift (m * 2 ^ (e - g).toNat) 1 g).2) (shift_pos _ _ _ (by decide)) ?_ (by decide)
    rw [Nat.mul_one, hs, Nat.mul_assoc m, ← Nat.pow_add]
    rw [show (e - g).toNat + (g + ((1074 : Nat) : Int)).toNat = (e + 1074).toNat from g1]
  refine right_nearQ hR (by decide) (by decide) ?_ ⟨by grind, by grind⟩
  rw [← val_eq dx, ← ex]
  have : ((1 : Nat) : Rat) = 1 := rfl
  rw [this]; grind
theorem divmod_one {x : UInt64} (hx : isFinite x = true) (h1 : -1 < R x) (h2 : R x < 1) :
    isFinite (Float64.divmod x 4607182418800017408).2 = true ∧ ((0 ≤ R (Float64.divmod x 4607182418800017408).2 ∧ Nr (R (Float64.divmod x 4607182418800017408).2) (R x) (1 / 2 ^ 49)) ∨ Nr (R (Float64.divmod x 4607182418800017408).2) (R x + 1) (1 / 2 ^ 49)) := by
  have hm := fmod_one hx h1 h2
  have e : (Float64.divmod x 4607182418800017408).2 = (if isZero (Float64.fmod x 4607182418800017408) = true then copysign (zero false) 4607182418800017408 else if (Float64.lt 4607182418800017408 (zero false) != Float64.lt (Float64.fmod x 4607182418800017408) (zero false)) = true then Float64.add (Float64.fmod x 4607182418800017408) 4607182418800017408 else Float64.fmod x 4607182418800017408) := by
    unfold Float64.divmod
    simp only
    split
    · rfl
    · split <;> rfl
  rw [e]
  generalize Float64.fmod x 4607182418800017408 = m at *
  obtain ⟨fm, n1, n2⟩ := hm
  split
  · rename_i hz
    have h0 := val_isZero hz
    have c0 : copysign (zero false) 4607182418800017408 = zero false := by decide +kernel
    rw [c0]
    obtain ⟨f0, r0⟩ := R_zero false
    refine ⟨f0, .inl ⟨by rw [r0]; grind, ?_⟩⟩
    rw [r0]
    constructor <;> grind
  · have l1 : Float64.lt 4607182418800017408 (zero false) = false := by decide +kernel
    rw [l1]
    split
    · have hm : Ap m (R x) (2 ^ 0 / 2 ^ 52) := ⟨fm, n1, n2⟩
      have := hm.add (g := 1 / 2 ^ 49) 2 (Ap.exact R_1) (by decide) (by grind) (by grind) (by grind)
      exact ⟨this.1, .inr this.2⟩
    · rename_i hl
      refine ⟨fm, .inl ⟨?_, ?_⟩⟩
      · rcases Rat.le_total (a := 0) (b := R m) with h | h
        · exact h
        · by_cases h0 : R m = 0
          · rw [h0]; grind
          · exfalso
            apply hl
            have := cmp_lt fm (R_zero false).1 (by rw [(R_zero false).2]; grind)
            unfold Float64.lt
            rw [this]; rfl
      · constructor <;> grind
end Mine
end
section
open PySem PySem.Float64
set_option Elab.async false
namespace Mine
theorem Ap.div {x y : UInt64} {A B c : Rat} (hx : Ap x A (1 / 2 ^ 50)) (hy : Ap y B (1 / 2 ^ 50)) (hc : A = c * B) (c0 : 0 ≤ c) (c1 : c ≤ 1) (hB : 1 / 15360 ≤ B) : Ap (Float64.div x y) c (1 / 2 ^ 33) := by
  obtain ⟨fx, x1, x2⟩ := hx
  obtain ⟨fy, y1, y2⟩ := hy
  have v0 : 1 / 20000 ≤ R y := by grind
  have vp : 0 < R y := by grind
  have m1 : c * (R y - B) ≤ 1 / 2 ^ 50 := by
    have h1 : c * (R y - B) ≤ c * (1 / 2 ^ 50) := Rat.mul_le_mul_of_nonneg_left y1 c0
    grind
  have m2 : -(1 / 2 ^ 50) ≤ c * (R y - B) := by
    have h1 : c * (B - R y) ≤ c * (1 / 2 ^ 50) := Rat.mul_le_mul_of_nonneg_left y2 c0
    grind
  have hu : R x / R y * R y = R x := by grind
  have d1 : R x / R y - c ≤ 1 / 2 ^ 34 := by
    refine Rat.le_of_mul_le_mul_right (c := R y) ?_ vp
    grind
  have d2 : c - R x / R y ≤ 1 / 2 ^ 34 := by
    refine Rat.le_of_mul_le_mul_right (c := R y) ?_ vp
    grind
  obtain ⟨ff, n1, n2⟩ := div_near (k := 1) fx fy (by decide) vp ⟨by grind, by grind⟩
  exact ⟨ff, by constructor <;> grind⟩
theorem Ap.div6 {x : UInt64} {A e g : Rat} (hx : Ap x A e) (h1 : A + e ≤ 12) (h2 : -12 ≤ A - e) (hg : e / 6 + 2 / 2 ^ 52 ≤ g) : Ap (Float64.div x 4618441417868443648) (A / 6) g := by
  obtain ⟨fx, x1, x2⟩ := hx
  have r6 := R_6
  obtain ⟨ff, n1, n2⟩ := div_near (k := 1) fx r6.1 (by decide) (by rw [r6.2]; decide +kernel) (by rw [r6.2]; constructor <;> grind)
  rw [r6.2] at n1 n2
  exact ⟨ff, by constructor <;> grind⟩
section
variable {w : Int} (hw : 0 < w) (hwb : w ≤ 15360)
include hw hwb
theorem wQ : (0 : Rat) < (w : Rat) ∧ (w : Rat) ≤ 15360 := by
  refine ⟨?_, castQ hwb⟩
  have : ((0 : Int) : Rat) < (w : Rat) := Rat.intCast_lt_intCast.mpr hw
  exact this
theorem q_ap {a : Int} (ha : 0 ≤ a ∧ a ≤ w) : Ap (qF a w) ((a : Rat) / (w : Rat)) (1 / 2 ^ 52) := by
  have h := wQ hw hwb
  exact (Ap.qF 0 ha.1 hw (by decide) (div_le h.1 (by have := castQ ha.2; grind))).wide (by grind)
theorem q_gap {a b : Int} (hab : a < b) : 1 / 15360 ≤ (b : Rat) / (w : Rat) - (a : Rat) / (w : Rat) := by
  have h := wQ hw hwb
  have e : (b : Rat) / (w : Rat) - (a : Rat) / (w : Rat) = ((b : Rat) - (a : Rat)) / (w : Rat) := by grind
  rw [e]
  have h1 : (a : Rat) + 1 ≤ (b : Rat) := by
    have : ((a + 1 : Int) : Rat) ≤ (b : Rat) := castQ (by omega)
    push_cast at this; exact this
  refine Rat.le_of_mul_le_mul_right (c := (w : Rat)) ?_ h.1
  have e2 : ((b : Rat) - (a : Rat)) / (w : Rat) * (w : Rat) = (b : Rat) - (a : Rat) := by grind
  rw [e2]; grind
theorem q_lt {a b : Int} (ha : 0 ≤ a ∧ a ≤ w) (hb : 0 ≤ b ∧ b ≤ w) (hab : a < b) : R (qF a w) < R (qF b w) := by
  obtain ⟨_, a1, a2⟩ := q_ap hw hwb ha
  obtain ⟨_, b1, b2⟩ := q_ap hw hwb hb
  have := q_gap hw hwb hab
  grind
theorem q_cmp {a b : Int} (ha : 0 ≤ a ∧ a ≤ w) (hb : 0 ≤ b ∧ b ≤ w) : Float64.cmp (qF a w) (qF b w) = some (compare a b) := by
  rcases Int.lt_trichotomy a b with h | h | h
  · rw [cmp_lt (q_ap hw hwb ha).1 (q_ap hw hwb hb).1 (q_lt hw hwb ha hb h), Int.compare_eq_lt.mpr h]
  · subst h
    rw [cmp_self (q_ap hw hwb ha).1, Int.compare_eq_eq.mpr rfl]
  · rw [cmp_gt (q_ap hw hwb ha).1 (q_ap hw hwb hb).1 (q_lt hw hwb hb ha h), Int.compare_eq_gt.mpr h]
theorem q_cmp_lt {a b : Int} (ha : 0 ≤ a ∧ a ≤ w) (hb : 0 ≤ b ∧ b ≤ w) : (Float64.cmp (qF a w) (qF b w) == some .lt) = decide (a < b) := by
  rw [q_cmp hw hwb ha hb]
  rcases Int.lt_trichotomy a b with h | h | h
  · rw [Int.compare_eq_lt.mpr h, decide_eq_true h]; rfl
  · rw [Int.compare_eq_eq.mpr h, decide_eq_false (by omega)]; rfl
  · rw [Int.compare_eq_gt.mpr h, decide_eq_false (by omega)]; rfl
theorem q_cmp_eq {a b : Int} (ha : 0 ≤ a ∧ a ≤ w) (hb : 0 ≤ b ∧ b ≤ w) : (Float64.cmp (qF a w) (qF b w) == some .eq) = decide (a = b) := by
  rw [q_cmp hw hwb ha hb]
  rcases Int.lt_trichotomy a b with h | h | h
  · rw [Int.compare_eq_lt.mpr h, decide_eq_false (by omega)]; rfl
  · rw [Int.compare_eq_eq.mpr h, decide_eq_true h]; rfl
  · rw [Int.compare_eq_gt.mpr h, decide_eq_false (by omega)]; rfl
theorem q_max {r g b : Int} (hr : 0 ≤ r ∧ r ≤ w) (hg : 0 ≤ g ∧ g ≤ w) (hb : 0 ≤ b ∧ b ≤ w) : max3F (qF r w) (qF g w) (qF b w) = qF (mx3 r g b) w := by
  unfold max3F
  rw [mx3_def, q_cmp_lt hw hwb hr hg]
  by_cases h1 : r < g
  · rw [decide_eq_true h1]
    simp only [if_true]
    rw [q_cmp_lt hw hwb hg hb]
    by_cases h2 : g < b
    · rw [decide_eq_true h2, if_pos rfl, show max r (max g b) = b by omega]
    · rw [decide_eq_false h2, if_neg (by decide), show max r (max g b) = g by omega]
  · rw [decide_eq_false h1]
    simp only [Bool.false_eq_true, if_false]
    rw [q_cmp_lt hw hwb hr hb]
    by_cases h2 : r < b
    · rw [decide_eq_true h2, if_pos rfl, show max r (max g b) = b by omega]
    · rw [decide_eq_false h2, if_neg (by decide), show max r (max g b) = r by omega]
theorem q_min {r g b : Int} (hr : 0 ≤ r ∧ r ≤ w) (hg : 0 ≤ g ∧ g ≤ w) (hb : 0 ≤ b ∧ b ≤ w) : min3F (qF r w) (qF g w) (qF b w) = qF (mn3 r g b) w := by
  unfold min3F
  rw [mn3_def, q_cmp_lt hw hwb hg hr]
  by_cases h1 : g < r
  · rw [decide_eq_true h1]
    simp only [if_true]
    rw [q_cmp_lt hw hwb hb hg]
    by_cases h2 : b < g
    · rw [decide_eq_true h2, if_pos rfl, show min r (min g b) = b by omega]
    · rw [decide_eq_false h2, if_neg (by decide), show min r (min g b) = g by omega]
  · rw [decide_eq_false h1]
    simp only [Bool.false_eq_true, if_false]
    rw [q_cmp_lt hw hwb hb hr]
    by_cases h2 : b < r
    · rw [decide_eq_true h2, if_pos rfl, show min r (min g b) = b by omega]
    · rw [decide_eq_false h2, if_neg (by decide), show min r (min g b) = r by omega]
end
end Mine
end
section
open PySem PySem.Float64
set_option Elab.async false
namespace Mine
theorem ring_round {ring n : Int} {z : UInt64} {q : Rat} (h1 : 0 ≤ ring ∧ ring ≤ 92160) (hz : Ap z q (1 / 2 ^ 31)) (q0 : -2 ≤ q) (q2 : q ≤ 2) (hq : (ring : Rat) * q = (n : Rat)) (hn : 0 ≤ n) :
    isFinite (Float64.add (Float64.mul (Float64.ofInt ring) z) 4602678819172646912) = true ∧ Flt.toInt truncOf (Float64.add (Float64.mul (Float64.ofInt ring) z) 4602678819172646912) = n := by
  have r0 : (0 : Rat) ≤ (ring : Rat) := castQ h1.1
  have r1 : (ring : Rat) ≤ 92160 := castQ h1.2
  have m1 : (ring : Rat) * q ≤ (ring : Rat) * 2 := Rat.mul_le_mul_of_nonneg_left q2 r0
  have m2 : (ring : Rat) * (-2) ≤ (ring : Rat) * q := Rat.mul_le_mul_of_nonneg_left q0 r0
  have a1 := Ap.int (i := ring) 17 h1.1 (by decide) (by grind)
  have a2 : Ap (Float64.mul (Float64.ofInt ring) z) ((ring : Rat) * q) (1 / 2 ^ 10) := a1.mul 19 92160 2 hz (by decide) (by grind) (by grind) q0 q2 (by grind) (by grind) (by grind)
  rw [hq] at a2 m1 m2
  have a3 : Ap (Float64.add (Float64.mul (Float64.ofInt ring) z) 4602678819172646912) ((n : Rat) + 1 / 2) (1 / 4) := a2.add 19 (Ap.exact R_half) (by decide) (by grind) (by grind) (by grind)
  obtain ⟨f, n1, n2⟩ := a3
  exact ⟨f, trunc_is f hn (by grind) (by grind)⟩
theorem told_ok {r g b w : Int} (hw : 0 < w) (hwb : w ≤ 15360) (hr : 0 ≤ r ∧ r ≤ w) (hg : 0 ≤ g ∧ g ≤ w) (hb : 0 ≤ b ∧ b ≤ w) (hmm : mn3 r g b < mx3 r g b) : ToldOk r g b w := by
  have hmx := mx3_def r g b
  have hmn := mn3_def r g b
  have hM := q_max hw hwb hr hg hb
  have hN := q_min hw hwb hr hg hb
  have hwalk : walkI r g b = (if r < mx3 r g b then (if g = mx3 r g b then 2 * (mx3 r g b - mn3 r g b) + b - r else 4 * (mx3 r g b - mn3 r g b) + r - g) else g - b) := by
    unfold walkI
    have e1 : (6 * (mx3 r g b - mn3 r g b)).fdiv 3 = 2 * (mx3 r g b - mn3 r g b) := by
      rw [show 6 * (mx3 r g b - mn3 r g b) = 2 * (mx3 r g b - mn3 r g b) * 3 by omega]; exact Int.mul_fdiv_cancel _ (by decide)
    have e2 : (2 * (6 * (mx3 r g b - mn3 r g b))).fdiv 3 = 4 * (mx3 r g b - mn3 r g b) := by
      rw [show 2 * (6 * (mx3 r g b - mn3 r g b)) = 4 * (mx3 r g b - mn3 r g b) * 3 by omega]; exact Int.mul_fdiv_cancel _ (by decide)
    rw [e1, e2]
  have hb1 : ∀ c, c = r ∨ c = g ∨ c = b → mn3 r g b ≤ c ∧ c ≤ mx3 r g b ∧ 0 ≤ c ∧ c ≤ w := fun c hc => by
    rcases hc with rfl | rfl | rfl <;> (refine ⟨?_, ?_, ?_, ?_⟩ <;> omega)
  have hMw : 0 ≤ mx3 r g b ∧ mx3 r g b ≤ w := by omega
  have hNw : 0 ≤ mn3 r g b ∧ mn3 r g b ≤ w := by omega
  have rr := hb1 r (.inl rfl)
  have gg := hb1 g (.inr (.inl rfl))
  have bb := hb1 b (.inr (.inr rfl))
  have hcase : r = mx3 r g b ∨ g = mx3 r g b ∨ b = mx3 r g b := by omega
  have wq := wQ hw hwb
  have aM := q_ap hw hwb hMw
  have aN := q_ap hw hwb hNw
  have gap := q_gap hw hwb hmm
  have D0 : (1 : Rat) ≤ (mx3 r g b : Rat) - (mn3 r g b : Rat) := by
    have : (((mn3 r g b) + 1 : Int) : Rat) ≤ (mx3 r g b : Rat) := castQ (by omega)
    push_cast at this; grind
  have M1 : (1 : Rat) ≤ (mx3 r g b : Rat) := castQ (show (1 : Int) ≤ mx3 r g b by omega)
  have Mle : (mx3 r g b : Rat) ≤ 15360 := castQ (show mx3 r g b ≤ 15360 by omega)
  have N0 : (0 : Rat) ≤ (mn3 r g b : Rat) := castQ (show (0 : Int) ≤ mn3 r g b by omega)
  have Mw1 : (mx3 r g b : Rat) / (w : Rat) ≤ 1 := div_le wq.1 (by have := castQ hMw.2; grind)
  have Nw0 : 0 ≤ (mn3 r g b : Rat) / (w : Rat) := div_nonneg' N0 wq.1
  have aR : Ap (Float64.sub (qF (mx3 r g b) w) (qF (mn3 r g b) w)) ((mx3 r g b : Rat) / (w : Rat) - (mn3 r g b : Rat) / (w : Rat)) (1 / 2 ^ 50) := aM.sub 1 aN (by decide) (by grind) (by grind) (by grind)
  have aC : ∀ c, c = r ∨ c = g ∨ c = b → Ap (Float64.div (Float64.sub (qF (mx3 r g b) w) (qF c w)) (Float64.sub (qF (mx3 r g b) w) (qF (mn3 r g b) w))) (((mx3 r g b : Rat) - (c : Rat)) / ((mx3 r g b : Rat) - (mn3 r g b : Rat))) (1 / 2 ^ 33) ∧ 0 ≤ ((mx3 r g b : Rat) - (c : Rat)) / ((mx3 r g b : Rat) - (mn3 r g b : Rat)) ∧ ((mx3 r g b : Rat) - (c : Rat)) / ((mx3 r g b : Rat) - (mn3 r g b : Rat)) ≤ 1 := fun c hc => by
    obtain ⟨c1, c2, c3, c4⟩ := hb1 c hc
    have c1q := castQ c1
    have c2q := castQ c2
    have ac := q_ap hw hwb ⟨c3, c4⟩
    have cw1 : (c : Rat) / (w : Rat) ≤ 1 := div_le wq.1 (by have := castQ c4; grind)
    have cw0 : 0 ≤ (c : Rat) / (w : Rat) := div_nonneg' (castQ c3) wq.1
    have n0 : 0 ≤ ((mx3 r g b : Rat) - (c : Rat)) / ((mx3 r g b : Rat) - (mn3 r g b : Rat)) := div_nonneg' (by grind) (by grind)
    have n1 : ((mx3 r g b : Rat) - (c : Rat)) / ((mx3 r g b : Rat) - (mn3 r g b : Rat)) ≤ 1 := div_le (by grind) (by grind)
    have as := aM.sub (g := 1 / 2 ^ 50) 1 ac (by decide) (by grind) (by grind) (by grind)
    refine ⟨Ap.div as aR ?_ n0 n1 gap, n0, n1⟩
    grind
  have aCr := aC r (.inl rfl)
  have aCg := aC g (.inr (.inl rfl))
  have aCb := aC b (.inr (.inr rfl))
  -- the hue
  have aHue : Ap (rgbHue (qF r w) (qF g w) (qF b w)) ((walkI r g b : Rat) / ((mx3 r g b : Rat) - (mn3 r g b : Rat))) (1 / 2 ^ 30) := by
    unfold rgbHue rgbC rgbRange
    rw [hM, hN, q_cmp_eq hw hwb hr hMw, q_cmp_eq hw hwb hg hMw, hwalk]
    by_cases h1 : r = mx3 r g b
    · rw [decide_eq_true h1, if_pos rfl, if_neg (by omega)]
      have := aCb.1.sub (g := 1 / 2 ^ 30) 1 aCg.1 (by decide) (by grind) (by grind) (by grind)
      refine this.cong ?_
      push_cast; grind
    · rw [decide_eq_false h1, if_neg (by decide), if_pos (show r < mx3 r g b by omega)]
      by_cases h2 : g = mx3 r g b
      · rw [decide_eq_true h2, if_pos rfl, if_pos h2]
        have s1 := (Ap.exact R_2).add (g := 1 / 2 ^ 32) 2 aCr.1 (by decide) (by grind) (by grind) (by grind)
        have := s1.sub (g := 1 / 2 ^ 30) 3 aCb.1 (by decide) (by grind) (by grind) (by grind)
        refine this.cong ?_
        push_cast; grind
      · rw [decide_eq_false h2, if_neg (by decide), if_neg h2]
        have s1 := (Ap.exact R_4).add (g := 1 / 2 ^ 32) 3 aCg.1 (by decide) (by grind) (by grind) (by grind)
        have := s1.sub (g := 1 / 2 ^ 30) 3 aCr.1 (by decide) (by grind) (by grind) (by grind)
        refine this.cong ?_
        push_cast; grind
  have hL : ((mx3 r g b - mn3 r g b : Int) : Rat) = (mx3 r g b : Rat) - (mn3 r g b : Rat) := by push_cast; rfl
  have wb : -(mx3 r g b - mn3 r g b) ≤ walkI r g b ∧ walkI r g b ≤ 5 * (mx3 r g b - mn3 r g b) := by
    rw [hwalk]
    by_cases h1 : r < mx3 r g b
    · rw [if_pos h1]
      by_cases h2 : g = mx3 r g b
      · rw [if_pos h2]; omega
      · rw [if_neg h2]; omega
    · rw [if_neg h1]; omega
  have wb0 := castQ wb.1
  have wb1 := castQ wb.2
  push_cast at wb0 wb1
  have hq : (walkI r g b : Rat) / ((mx3 r g b : Rat) - (mn3 r g b : Rat)) * ((mx3 r g b : Rat) - (mn3 r g b : Rat)) = (walkI r g b : Rat) := by grind
  have hq1 : (walkI r g b : Rat) / ((mx3 r g b : Rat) - (mn3 r g b : Rat)) ≤ 5 := div_le (by grind) (by grind)
  have hq0 : -1 ≤ (walkI r g b : Rat) / ((mx3 r g b : Rat) - (mn3 r g b : Rat)) := by
    refine Rat.le_of_mul_le_mul_right (c := (mx3 r g b : Rat) - (mn3 r g b : Rat)) ?_ (by grind)
    rw [hq]; grind
  generalize (walkI r g b : Rat) / ((mx3 r g b : Rat) - (mn3 r g b : Rat)) = q at *
  have aX : Ap (Float64.div (rgbHue (qF r w) (qF g w) (qF b w)) 4618441417868443648) (q / 6) (1 / 2 ^ 32) := aHue.div6 (by grind) (by grind) (by grind)
  have hLb : mx3 r g b - mn3 r g b ≤ 15360 := by omega
  have hring : 0 ≤ 6 * (mx3 r g b - mn3 r g b) ∧ 6 * (mx3 r g b - mn3 r g b) ≤ 92160 := by omega
  have ering : ((6 * (mx3 r g b - mn3 r g b) : Int) : Rat) = 6 * ((mx3 r g b : Rat) - (mn3 r g b : Rat)) := by push_cast; rfl
  have hLq : (mx3 r g b : Rat) - (mn3 r g b : Rat) ≤ 15360 := by rw [← hL]; exact castQ hLb
  obtain ⟨fz, hz⟩ := divmod_one aX.1 (by have := aX.2.2; grind) (by have := aX.2.1; grind)
  have H : isFinite (Float64.add (Float64.mul (Float64.ofInt (6 * (mx3 r g b - mn3 r g b))) (rgbH (qF r w) (qF g w) (qF b w))) 4602678819172646912) = true ∧ (toldH r g b w = walkI r g b ∨ toldH r g b w = walkI r g b + 6 * (mx3 r g b - mn3 r g b)) := by
    unfold toldH
    rcases hz with ⟨z0, z1⟩ | z1
    · have az : Ap (rgbH (qF r w) (qF g w) (qF b w)) (q / 6) (1 / 2 ^ 31) := ⟨fz, z1.trans aX.2 (by grind)⟩
      have hn : 0 ≤ walkI r g b := by
        have k1 : -(1 / 2 ^ 20) ≤ q := by have := z1.1; have := z1.2; have := aX.2.1; have := aX.2.2; grind
        have k2 : -(1 / 2 ^ 20) * ((mx3 r g b : Rat) - (mn3 r g b : Rat)) ≤ q * ((mx3 r g b : Rat) - (mn3 r g b : Rat)) := Rat.mul_le_mul_of_nonneg_right k1 (by grind)
        rw [hq] at k2
        have k3 : ((-1 : Int) : Rat) < (walkI r g b : Rat) := by
          have : ((-1 : Int) : Rat) = -1 := rfl
          rw [this]; grind
        have := Rat.intCast_lt_intCast.mp k3
        omega
      have k := ring_round hring az (by grind) (by grind) (n := walkI r g b) (by rw [ering]; grind) hn
      exact ⟨k.1, .inl k.2⟩
    · have az : Ap (rgbH (qF r w) (qF g w) (qF b w)) (q / 6 + 1) (1 / 2 ^ 31) := ⟨fz, by
        obtain ⟨p1, p2⟩ : Nr (R (rgbH (qF r w) (qF g w) (qF b w))) (R (Float64.div (rgbHue (qF r w) (qF g w) (qF b w)) 4618441417868443648) + 1) (1 / 2 ^ 49) := z1
        obtain ⟨p3, p4⟩ := aX.2
        constructor <;> grind⟩
      have k := ring_round hring az (by grind) (by grind) (n := walkI r g b + 6 * (mx3 r g b - mn3 r g b)) (by rw [ering]; push_cast; grind) (by omega)
      exact ⟨k.1, .inr k.2⟩
  have aS : Ap (rgbS (qF r w) (qF g w) (qF b w)) (((mx3 r g b : Rat) - (mn3 r g b : Rat)) / (mx3 r g b : Rat)) (1 / 2 ^ 31) := by
    unfold rgbS rgbRange
    rw [hM, hN]
    have gap0 : 1 / 15360 ≤ (mx3 r g b : Rat) / (w : Rat) := by grind
    exact (Ap.div aR (aM.wide (by grind)) (by grind) (div_nonneg' (by grind) (by grind)) (div_le (by grind) (by grind)) gap0).wide (by grind)
  have S := ring_round (ring := mx3 r g b) (n := mx3 r g b - mn3 r g b) ⟨hMw.1, by omega⟩ aS (by
    have := div_nonneg' (a := (mx3 r g b : Rat) - (mn3 r g b : Rat)) (b := (mx3 r g b : Rat)) (by grind) (by grind)
    grind) (by
    have := div_le (a := (mx3 r g b : Rat) - (mn3 r g b : Rat)) (b := (mx3 r g b : Rat)) (c := 1) (by grind) (by grind)
    grind) (by rw [hL]; grind) (by omega)
  refine ⟨hw, hr, hg, hb, hwb, hmm, fin_notInf (q_ap hw hwb hr).1, fin_notInf (q_ap hw hwb hg).1, fin_notInf (q_ap hw hwb hb).1, fin_notInf aM.1, ?_, H.1, S.1, ?_, ?_, ?_, ?_⟩
  · rw [hM]; exact cmp_self aM.1
  · rw [hM, hN, q_cmp_eq hw hwb hNw hMw]; exact decide_eq_false (by omega)
  · rw [hM]; exact notZero (by have := aM.2.2; grind)
  · rw [hM, hN]; exact notZero (by have := aR.2.2; grind)
  · unfold toldB
    rw [Bool.and_eq_true]
    refine ⟨decide_eq_true ?_, decide_eq_true S.2⟩
    rcases H.2 with h | h
    · rw [h]
    · rw [h, show walkI r g b + 6 * (mx3 r g b - mn3 r g b) = walkI r g b + 6 * (mx3 r g b - mn3 r g b) * 1 by omega]
      exact fmod_shift _ _ _
end Mine
end
section
open PySem PySem.StrLaws PySem.Builtin.Str
set_option Elab.async false
namespace Mine
def low1 (c : Nat) : Nat := if c = 65 then 97 else c
def tit1 (c : Nat) : Nat := if c = 97 then 65 else c
def Abc (l : List Nat) : Prop := ∀ c ∈ l, c = 45 ∨ c = 97 ∨ c = 65
theorem low_of {c : Nat} (h : c = 45 ∨ c = 97 ∨ c = 65) : Unicode.lowerOf c = [low1 c] := by
  rcases h with rfl | rfl | rfl <;> decide +kernel
theorem tit_of {c : Nat} (h : c = 45 ∨ c = 97 ∨ c = 65) : Unicode.titleOf c = [tit1 c] := by
  rcases h with rfl | rfl | rfl <;> decide +kernel
theorem lowAt {s : Array Nat} {i c : Nat} (hi : s[i]? = some c) (h : c = 45 ∨ c = 97 ∨ c = 65) : Unicode.lowerAt s i = [low1 c] := by
  unfold Unicode.lowerAt
  rw [hi]
  have : (c == 0x3A3) = false := by rcases h with rfl | rfl | rfl <;> decide
  simp only [this, Bool.false_and, Bool.false_eq_true, if_false]
  exact low_of h
theorem flat_single : ∀ (l : List Nat) (f : Nat → Nat → List Nat) (g : Nat → Nat → Nat), (∀ i c, l[i]? = some c → f i c = [g i c]) → (l.mapIdx fun i c => f i c).flatten = l.mapIdx g
  | [], _, _, _ => by simp
  | c :: r, f, g, h => by
    rw [List.mapIdx_cons, List.mapIdx_cons, List.flatten_cons, h 0 c rfl]
    have := flat_single r (fun i => f (i + 1)) (fun i => g (i + 1)) (fun i d hd => h (i + 1) d (by simpa using hd))
    rw [this]; rfl
theorem map_mapIdx' : ∀ (l : List Nat) (f : Nat → Nat → List Nat), ((l.mapIdx fun i c => (f i c).toArray).map Array.toList) = l.mapIdx f
  | [], _ => by simp
  | c :: r, f => by
    rw [List.mapIdx_cons, List.mapIdx_cons, List.map_cons]
    exact congrArg _ (map_mapIdx' r fun i => f (i + 1))
theorem placed_single (x : Str) (f : Nat → Nat → List Nat) (g : Nat → Nat → Nat) (h : ∀ i c, x.cps[i]? = some c → f i c = [g i c]) : (placed x f).toList = x.cps.toList.mapIdx g := by
  unfold placed
  have e : ((x.cps.mapIdx fun i c => (f i c).toArray).flatten).toList = (x.cps.toList.mapIdx fun i c => f i c).flatten := by
    rw [Array.toList_flatten, Array.toList_mapIdx, map_mapIdx']
  rw [e]
  refine flat_single _ f g fun i c hc => h i c ?_
  simpa using hc
theorem mapIdx_const (g : Nat → Nat) : ∀ l : List Nat, (l.mapIdx fun _ c => g c) = l.map g
  | [] => by simp
  | c :: r => by rw [List.mapIdx_cons, List.map_cons, mapIdx_const g r]
theorem mem_of_get {x : Str} {i c : Nat} (h : x.cps[i]? = some c) : c ∈ x.cps.toList := by
  have := Array.mem_of_getElem? h
  simpa using this
theorem lower_abc {x : Str} (h : Abc x.cps.toList) : (Txt.lower x).cps.toList = x.cps.toList.map low1 := by
  unfold Txt.lower
  rw [← mapIdx_const]
  exact placed_single x _ (fun _ c => low1 c) fun i c hc => lowAt hc (h c (mem_of_get hc))
def capP : List Nat → List Nat
  | [] => []
  | c :: r => tit1 c :: r.map low1
theorem capitalize_abc {x : Str} (h : Abc x.cps.toList) : (Txt.capitalize x).cps.toList = capP x.cps.toList := by
  unfold Txt.capitalize
  split
  · rename_i h0
    have : x.cps.toList = [] := by
      have h1 : x.cps.size = 0 := eq_of_beq h0
      simpa using h1
    rw [this]; rfl
  · unfold Txt.capitalized
    have e := placed_single x (fun i c => if i == 0 then Unicode.titleOf c else Unicode.lowerAt x.cps i) (fun i c => if i = 0 then tit1 c else low1 c) (fun i c hc => by
      have hm := h c (mem_of_get hc)
      by_cases h0 : i = 0
      · subst h0; simp only [beq_self_eq_true, if_true]; exact tit_of hm
      · rw [if_neg (by simpa using h0)]; simp only [h0, if_false]; exact lowAt hc hm)
    show (placed x _).toList = _
    rw [e]
    cases x.cps.toList with
    | nil => rfl
    | cons c r =>
      rw [List.mapIdx_cons]
      simp only [if_true, Nat.add_eq_zero_iff, Nat.one_ne_zero, and_false, if_false]
      rw [mapIdx_const]; rfl
end Mine
end
section
open PySem PySem.StrLaws PySem.Builtin.Str
set_option Elab.async false
namespace Mine
def capL : Bool → List Nat → List Nat
  | _, [] => []
  | st, [c] => [if st then tit1 c else low1 c]
  | st, c :: d :: r => if c = 45 ∧ d = 45 then 45 :: 45 :: capL true r else (if st then tit1 c else low1 c) :: capL false (d :: r)
def capS (st : Bool) : List Nat → List Nat
  | [] => []
  | c :: r => (if st then tit1 c else low1 c) :: r.map low1
theorem capS_false : ∀ l : List Nat, capS false l = l.map low1
  | [] => rfl
  | c :: r => by show _ :: _ = _ :: _; rfl
theorem capS_true : ∀ l : List Nat, capS true l = capP l
  | [] => rfl
  | c :: r => rfl
def Oc (l : List Nat) (i : Nat) : Prop := (l.drop i).take 2 = [45, 45]
theorem seg_end : ∀ (seg : List Nat) (st : Bool), (∀ i, ¬Oc seg i) → capL st seg = capS st seg
  | [], _, _ => rfl
  | [c], st, _ => by simp [capL, capS]
  | c :: d :: r, st, h => by
    have h0 := h 0
    have hn : ¬(c = 45 ∧ d = 45) := fun ⟨e1, e2⟩ => h0 (by subst e1; subst e2; rfl)
    have ih := seg_end (d :: r) false (fun i hi => h (i + 1) hi)
    show (if c = 45 ∧ d = 45 then _ else _) = _
    rw [if_neg hn, ih, capS_false]; rfl
theorem seg_mid (rest : List Nat) : ∀ (seg : List Nat) (st : Bool), (∀ i, i < seg.length → ¬Oc (seg ++ 45 :: 45 :: rest) i) → capL st (seg ++ 45 :: 45 :: rest) = capS st seg ++ 45 :: 45 :: capL true rest
  | [], st, _ => by
    show (if (45 : Nat) = 45 ∧ (45 : Nat) = 45 then _ else _) = _
    rw [if_pos ⟨rfl, rfl⟩]; rfl
  | [c], st, h => by
    have h0 := h 0 (by simp)
    have hn : ¬(c = 45 ∧ (45 : Nat) = 45) := fun ⟨e1, _⟩ => h0 (by subst e1; rfl)
    have ih := seg_mid rest [] false (fun i hi => by simp at hi)
    show (if c = 45 ∧ (45 : Nat) = 45 then _ else _) = _
    rw [if_neg hn]
    show _ :: capL false ([] ++ 45 :: 45 :: rest) = _
    rw [ih]; rfl
  | c :: d :: r, st, h => by
    have h0 := h 0 (by simp)
    have hn : ¬(c = 45 ∧ d = 45) := fun ⟨e1, e2⟩ => h0 (by subst e1; subst e2; rfl)
    have ih := seg_mid rest (d :: r) false (fun i hi => h (i + 1) (by simp at hi ⊢; omega))
    show (if c = 45 ∧ d = 45 then _ else _) = _
    rw [if_neg hn]
    show _ :: capL false ((d :: r) ++ 45 :: 45 :: rest) = _
    rw [ih, capS_false]; rfl
theorem dd_codes : (Str.ofString "--").cps.toList = [45, 45] := by decide +kernel
theorem dd_len : (Str.ofString "--").length = 2 := by decide +kernel
theorem at_oc {x : Str} {i : Nat} : At x (Str.ofString "--") x.length i ↔ Oc x.cps.toList i := by
  unfold At Oc
  rw [subAt_eq, dd_codes, dd_len]
  have hn : x.cps.toList.length = x.length := by simp [Str.length]
  constructor
  · intro h; exact eq_of_beq h.2
  · intro h
    refine ⟨?_, by rw [h]; rfl⟩
    have := congrArg List.length h
    have hs : x.cps.size = x.length := rfl
    simp at this
    omega
theorem abc_sub {x : Str} {a b : Nat} (h : Abc x.cps.toList) : Abc (strSub x a b).cps.toList := by
  intro c hc
  rw [strSub_toList] at hc
  exact h c (List.mem_of_mem_drop (List.mem_of_mem_take hc))
theorem parts_cap {x : Str} (hx : Abc x.cps.toList) : ∀ (cuts : List Nat) (a f : Nat), ChainG x (Str.ofString "--") x.length a cuts f → (∀ k, f ≤ k → ¬At x (Str.ofString "--") x.length k) →
    (Str.join (Str.ofString "--") ((partsFrom x 2 a cuts).map Txt.capitalize)).cps.toList = capL true (x.cps.toList.drop a)
  | [], a, f, h, hn => by
    have e : f = a := h
    subst e
    show (Txt.capitalize (strSub x f x.length)).cps.toList = _
    rw [capitalize_abc (abc_sub hx), strSub_toList]
    have e3 : (x.cps.toList.drop f).take (x.length - f) = x.cps.toList.drop f := List.take_of_length_le (by simp [Str.length])
    rw [e3, seg_end _ true ?_, capS_true]
    intro i hi
    refine hn (f + i) (by omega) (at_oc.mpr ?_)
    unfold Oc at hi ⊢
    rwa [List.drop_drop] at hi
  | c :: r, a, f, h, hn => by
    obtain ⟨p, q, e⟩ := partsFrom_ne x 2 (c + 2) r
    have hg : ChainG x (Str.ofString "--") x.length (c + 2) r f := by have := h.2.2.2; rwa [dd_len] at this
    have ih := parts_cap hx r (c + 2) f hg hn
    show (Str.join (Str.ofString "--") (Txt.capitalize (strSub x a c) :: (partsFrom x 2 (c + 2) r).map Txt.capitalize)).cps.toList = _
    rw [e] at ih ⊢
    show (Txt.capitalize (strSub x a c) ++ Str.ofString "--" ++ Str.join (Str.ofString "--") ((p :: q).map Txt.capitalize)).cps.toList = _
    rw [Str.cps_append, Str.cps_append, Array.toList_append, Array.toList_append, ih, capitalize_abc (abc_sub hx), strSub_toList, dd_codes]
    have hac := h.1
    have hoc := at_oc.mp h.2.1
    have hb := h.2.1.1
    rw [dd_len] at hb
    have hlen : x.cps.toList.length = x.length := by simp [Str.length]
    have hfree : ∀ k, a ≤ k → k < c → ¬Oc x.cps.toList k := fun k h1 h2 ho => h.2.2.1 k h1 h2 (at_oc.mpr ho)
    generalize x.cps.toList = L at *
    have e2 : L.drop c = 45 :: 45 :: L.drop (c + 2) := by
      have := List.take_append_drop 2 (L.drop c)
      unfold Oc at hoc
      rw [hoc, List.drop_drop] at this
      exact this.symm
    have e5 : L.drop a = (L.drop a).take (c - a) ++ 45 :: 45 :: L.drop (c + 2) := by
      rw [← e2]
      have e6 : L.drop c = (L.drop a).drop (c - a) := by rw [List.drop_drop]; congr 1; omega
      rw [e6, List.take_append_drop]
    rw [← capS_true]
    conv => rhs; rw [e5]
    rw [seg_mid, List.append_assoc]
    · rfl
    · intro i hi
      rw [← e5]
      have hi' : i < c - a := by
        have := List.length_take_le (c - a) (L.drop a)
        omega
      intro ho
      refine hfree (a + i) (by omega) (by omega) ?_
      unfold Oc at ho ⊢
      rwa [List.drop_drop] at ho
theorem split_parts (x : Str) : ∃ cuts f, Txt.split x (Str.ofString "--") = partsFrom x 2 0 cuts ∧ cuts = occurrences x (Str.ofString "--") 0 x.length (x.length + 1) ∧ ChainG x (Str.ofString "--") x.length 0 cuts f ∧ ∀ k, f ≤ k → ¬At x (Str.ofString "--") x.length k := by
  obtain ⟨f, hG, hn⟩ := occ_tight x (Str.ofString "--") (by rw [dd_len]; decide)
  refine ⟨_, f, ?_, rfl, hG, hn⟩
  have k1 : Builtin.Str.strKind (Str.ofString "--") = 1 := by decide +kernel
  have k2 : ¬Builtin.Str.strKind x < 1 := by unfold Builtin.Str.strKind; split <;> (try split) <;> omega
  unfold Txt.split
  rw [k1, dd_len, decide_eq_false k2, Bool.or_false]
  cases ho : occurrences x (Str.ofString "--") 0 x.length (x.length + 1) with
  | nil =>
    have e : [x] = partsFrom x 2 0 [] := by show [x] = [strSub x 0 x.length]; rw [sub_whole]
    rw [← e]
    split
    · rfl
    · rfl
  | cons c r =>
    rw [ho] at hG
    have hb := hG.2.1.1
    rw [dd_len] at hb
    rw [if_neg (by simp; omega), if_neg (by simp), partsBetween_eq]
theorem capF_codes {x : Str} (hx : Abc x.cps.toList) : (capF x).cps.toList = capL true x.cps.toList := by
  obtain ⟨cuts, f, e, _, hG, hn⟩ := split_parts x
  unfold capF Txt.join
  rw [glued_eq_join, e, parts_cap hx cuts 0 f hG hn]; rfl
end Mine
end
section
open PySem PySem.StrLaws PySem.Builtin.Str
set_option Elab.async false
namespace Mine
theorem capL_cons {c : Nat} (hc : c ≠ 45) (st : Bool) : ∀ rest : List Nat, capL st (c :: rest) = (if st then tit1 c else low1 c) :: capL false rest
  | [] => rfl
  | d :: r => by
    show (if c = 45 ∧ d = 45 then _ else _) = _
    rw [if_neg (fun h => hc h.1)]
def bigOf (st : Bool) (h : Nat) : Bool := if h = 0 then st else decide (h % 2 = 0)
theorem cap_run {c : Nat} (hc : c ≠ 45) (rest : List Nat) : ∀ (h : Nat) (st : Bool), capL st (List.replicate h 45 ++ c :: rest) = List.replicate h 45 ++ (if bigOf st h then tit1 c else low1 c) :: capL false rest
  | 0, st => by
    show capL st (c :: rest) = _
    rw [capL_cons hc]; rfl
  | 1, st => by
    show (if (45 : Nat) = 45 ∧ c = 45 then _ else _) = _
    rw [if_neg (fun h => hc h.2), capL_cons hc]
    cases st <;> rfl
  | h + 2, st => by
    show (if (45 : Nat) = 45 ∧ (45 : Nat) = 45 then 45 :: 45 :: capL true (List.replicate h 45 ++ c :: rest) else _) = _
    rw [if_pos ⟨rfl, rfl⟩, cap_run hc rest h true]
    have e : bigOf true h = bigOf st (h + 2) := by
      unfold bigOf
      rw [if_neg (by omega : ¬h + 2 = 0)]
      split
      · rename_i h0; subst h0; rfl
      · have : (h + 2) % 2 = h % 2 := by omega
        rw [this]
    rw [e]; rfl
theorem capL_length : ∀ (st : Bool) (l : List Nat), (capL st l).length = l.length
  | _, [] => rfl
  | _, [_] => rfl
  | st, c :: d :: r => by
    show (if c = 45 ∧ d = 45 then _ else _ : List Nat).length = _
    split
    · have := capL_length true r; simp [this]
    · have := capL_length false (d :: r); simp at this ⊢; exact this
theorem low_low {c : Nat} (h : c = 45 ∨ c = 97 ∨ c = 65) : low1 (low1 c) = low1 c ∧ low1 (tit1 c) = low1 c ∧ (low1 c = 45 ∨ low1 c = 97 ∨ low1 c = 65) ∧ (tit1 c = 45 ∨ tit1 c = 97 ∨ tit1 c = 65) := by
  rcases h with rfl | rfl | rfl <;> decide
theorem capL_abc : ∀ (st : Bool) (l : List Nat), Abc l → Abc (capL st l) ∧ (capL st l).map low1 = l.map low1
  | _, [], h => ⟨h, rfl⟩
  | st, [c], h => by
    have hc := low_low (h c (by simp))
    cases st
    · exact ⟨fun d hd => by rw [List.mem_singleton.mp hd]; exact hc.2.2.1, by show [low1 (low1 c)] = [low1 c]; rw [hc.1]⟩
    · exact ⟨fun d hd => by rw [List.mem_singleton.mp hd]; exact hc.2.2.2, by show [low1 (tit1 c)] = [low1 c]; rw [hc.2.1]⟩
  | st, c :: d :: r, h => by
    by_cases hcd : c = 45 ∧ d = 45
    · have e : capL st (c :: d :: r) = 45 :: 45 :: capL true r := by
        show (if c = 45 ∧ d = 45 then _ else _) = _
        rw [if_pos hcd]
      rw [e]
      have ih := capL_abc true r (fun x hx => h x (by simp [hx]))
      refine ⟨fun x hx => ?_, ?_⟩
      · rcases List.mem_cons.mp hx with rfl | hx
        · exact .inl rfl
        · rcases List.mem_cons.mp hx with rfl | hx
          · exact .inl rfl
          · exact ih.1 x hx
      · rw [hcd.1, hcd.2, List.map_cons, List.map_cons, ih.2]; rfl
    · have e : capL st (c :: d :: r) = (if st then tit1 c else low1 c) :: capL false (d :: r) := by
        show (if c = 45 ∧ d = 45 then _ else _) = _
        rw [if_neg hcd]
      rw [e]
      have ih := capL_abc false (d :: r) (fun x hx => h x (by simp at hx ⊢; exact .inr hx))
      have hc := low_low (h c (by simp))
      refine ⟨fun x hx => ?_, ?_⟩
      · rcases List.mem_cons.mp hx with rfl | hx
        · cases st
          · exact hc.2.2.1
          · exact hc.2.2.2
        · exact ih.1 x hx
      · rw [List.map_cons, ih.2, List.map_cons]
        cases st
        · show low1 (low1 c) :: _ = _; rw [hc.1]; rfl
        · show low1 (tit1 c) :: _ = _; rw [hc.2.1]; rfl
theorem filter_join (c : Nat) : ∀ parts : List Str, (∀ p ∈ parts, c ∉ p.cps.toList) → (Str.join ⟨#[]⟩ parts).cps.toList = (Str.join ⟨#[c]⟩ parts).cps.toList.filter (fun d => d != c)
  | [], _ => rfl
  | [p], h => by
    show p.cps.toList = p.cps.toList.filter _
    rw [List.filter_eq_self.mpr]
    intro d hd
    have := h p (by simp)
    simp only [bne_iff_ne, ne_eq]
    intro e; subst e; exact this hd
  | p :: q :: r, h => by
    have ih := filter_join c (q :: r) (fun x hx => h x (by simp at hx ⊢; exact .inr hx))
    show (p ++ ⟨#[]⟩ ++ Str.join ⟨#[]⟩ (q :: r)).cps.toList = (p ++ ⟨#[c]⟩ ++ Str.join ⟨#[c]⟩ (q :: r)).cps.toList.filter _
    simp only [Str.cps_append, Array.toList_append, ih, List.filter_append]
    have h1 : p.cps.toList.filter (fun d => d != c) = p.cps.toList := by
      rw [List.filter_eq_self]
      intro d hd
      have := h p (by simp)
      simp only [bne_iff_ne, ne_eq]
      intro e; subst e; exact this hd
    have h2 : ([c] : List Nat).filter (fun d => d != c) = [] := by simp
    show p.cps.toList ++ [] ++ _ = p.cps.toList.filter _ ++ ([c] : List Nat).filter _ ++ _
    rw [h1, h2]
theorem replace_codes (x : Str) : (Txt.replace x (Str.ofString "-") (Str.ofString "")).cps.toList = x.cps.toList.filter (fun d => d != 45) := by
  have e1 : Str.ofString "-" = ⟨#[45]⟩ := by decide +kernel
  have e2 : Str.ofString "" = ⟨#[]⟩ := by decide +kernel
  rw [e1, e2, replace_one, filter_join 45 _ (split_free x 45), join_split]
/-- runs of hyphens, each with its letter -/
def runs (h l : Nat → Nat) (is : List Nat) : List Nat := is.flatMap fun k => List.replicate (h k) 45 ++ [l k]
theorem runs_cons (h l : Nat → Nat) (k : Nat) (is : List Nat) : runs h l (k :: is) = List.replicate (h k) 45 ++ l k :: runs h l is := by
  unfold runs
  rw [List.flatMap_cons, List.append_assoc]; rfl
theorem runs_abc (h l : Nat → Nat) (hl : ∀ k, l k = 97 ∨ l k = 65) (is : List Nat) : Abc (runs h l is) := by
  intro c hc
  unfold runs at hc
  obtain ⟨k, _, hk⟩ := List.mem_flatMap.mp hc
  rcases List.mem_append.mp hk with hk | hk
  · exact .inl (List.eq_of_mem_replicate hk)
  · rw [List.mem_singleton.mp hk]; exact .inr (hl k)
theorem filter_rep (h : Nat) (r : List Nat) : (List.replicate h 45 ++ r).filter (fun d => d != 45) = r.filter (fun d => d != 45) := by
  rw [List.filter_append, List.filter_replicate]; simp
theorem lets_one (h l : Nat → Nat) (hl : ∀ k, l k = 97 ∨ l k = 65) (st : Bool) (k : Nat) (is : List Nat) :
    (capL st (runs h l (k :: is))).filter (fun d => d != 45) = (if bigOf st (h k) then 65 else 97) :: (capL false (runs h l is)).filter (fun d => d != 45) := by
  rw [runs_cons, cap_run (by rcases hl k with e | e <;> omega), filter_rep]
  have e : (if bigOf st (h k) then tit1 (l k) else low1 (l k)) = (if bigOf st (h k) then 65 else 97) := by
    rcases hl k with e | e <;> rw [e] <;> cases bigOf st (h k) <;> rfl
  rw [e]
  cases bigOf st (h k) <;> rfl
theorem lets_false (h l : Nat → Nat) (hl : ∀ k, l k = 97 ∨ l k = 65) : ∀ is : List Nat, (∀ k ∈ is, 0 < h k) → (capL false (runs h l is)).filter (fun d => d != 45) = is.map fun k => if h k % 2 = 0 then 65 else 97
  | [], _ => rfl
  | k :: is, hp => by
    rw [lets_one h l hl, lets_false h l hl is (fun j hj => hp j (by simp [hj])), List.map_cons]
    have := hp k (by simp)
    have e : (if bigOf false (h k) then 65 else 97) = if h k % 2 = 0 then 65 else 97 := by
      have eb : bigOf false (h k) = decide (h k % 2 = 0) := by
        unfold bigOf
        exact if_neg (by omega)
      rw [eb]
      by_cases h2 : h k % 2 = 0 <;> simp [h2]
    rw [e]
theorem lets_all (h l : Nat → Nat) (hl : ∀ k, l k = 97 ∨ l k = 65) (n : Nat) (hp : ∀ k, 0 < k → k < n → 0 < h k) : (capL true (runs h l (List.range n))).filter (fun d => d != 45) = (List.range n).map fun k => if h k % 2 = 0 then 65 else 97 := by
  cases n with
  | zero => rfl
  | succ m =>
    rw [List.range_succ_eq_map, lets_one h l hl, lets_false h l hl _ (fun k hk => by
      obtain ⟨j, hj, rfl⟩ := List.mem_map.mp hk
      exact hp _ (by omega) (by have := List.mem_range.mp hj; omega)), List.map_cons]
    have e : (if bigOf true (h 0) then 65 else 97) = if h 0 % 2 = 0 then 65 else 97 := by
      unfold bigOf
      by_cases h0 : h 0 = 0
      · simp [h0]
      · rw [if_neg h0]
        by_cases h2 : h 0 % 2 = 0 <;> simp [h2]
    rw [e]
end Mine
end
section
open PySem PySem.StrLaws PySem.Builtin.Str
set_option Elab.async false
namespace Mine
theorem mul_codes {h : Int} (h0 : 0 ≤ h) (h1 : h ≤ 10) : (Txt.mul (Str.ofString "-") h).cps.toList = List.replicate h.toNat 45 := by
  have : h = 0 ∨ h = 1 ∨ h = 2 ∨ h = 3 ∨ h = 4 ∨ h = 5 ∨ h = 6 ∨ h = 7 ∨ h = 8 ∨ h = 9 ∨ h = 10 := by omega
  rcases this with rfl | rfl | rfl | rfl | rfl | rfl | rfl | rfl | rfl | rfl | rfl <;> decide +kernel
def letN (ns : List Int) (i : Nat) : Nat := if ((xAt ns i).fdiv 3 + (0 + (i : Int) * 1)).fmod 2 = 0 then 97 else 65
def hypN (ns : List Int) (i : Nat) : Nat := (pcI i + 2 * (xAt ns i).fmod 3).toNat
theorem item_codes {j : Int} : (Txt.item (Str.ofString "aA") (j.fmod 2)).cps.toList = [if j.fmod 2 = 0 then 97 else 65] := by
  have h0 := Int.fmod_nonneg_of_pos j (b := 2) (by decide)
  have h1 := Int.fmod_lt_of_pos j (b := 2) (by decide)
  have : j.fmod 2 = 0 ∨ j.fmod 2 = 1 := by omega
  rcases this with e | e <;> rw [e] <;> decide +kernel
theorem row_codes (ns : List Int) : ∀ i, (rowF ns i).cps.toList = runs (hypN ns) (letN ns) (List.range i)
  | 0 => by
    show (Str.ofString "").cps.toList = []
    decide +kernel
  | i + 1 => by
    have hb := hyph_bounds i (xAt ns i)
    show (rowF ns i ++ piece ns i).cps.toList = _
    unfold piece
    rw [Str.cps_append, Str.cps_append, Array.toList_append, Array.toList_append, row_codes ns i, mul_codes hb.1 hb.2, item_codes]
    unfold runs
    rw [List.range_succ, List.flatMap_append, List.flatMap_cons, List.flatMap_nil, List.append_nil]
    rfl
theorem letN_or (ns : List Int) (k : Nat) : letN ns k = 97 ∨ letN ns k = 65 := by
  unfold letN; split <;> simp
theorem row_abc (ns : List Int) (i : Nat) : Abc (rowF ns i).cps.toList := by
  rw [row_codes]; exact runs_abc _ _ (letN_or ns) _
theorem pc_pos : ((List.range 60).all fun k => k == 0 || decide (0 < pcI k)) = true := by decide +kernel
theorem hyp_pos (ns : List Int) {k : Nat} (h0 : 0 < k) (h1 : k < 60) : 0 < hypN ns k := by
  have h := List.all_eq_true.mp pc_pos k (by simp; omega)
  rw [Bool.or_eq_true] at h
  have hp : 0 < pcI k := by
    rcases h with h | h
    · have := eq_of_beq h; omega
    · exact of_decide_eq_true h
  have hb := hyph_bounds k (xAt ns k)
  have := Int.fmod_nonneg_of_pos (xAt ns k) (b := 3) (by decide)
  unfold hypN; omega
theorem hyp_even (ns : List Int) (k : Nat) : (hypN ns k % 2 = 0) = (evenAt k = true) := by
  have hp := pcI_bounds k
  have h0 := Int.fmod_nonneg_of_pos (xAt ns k) (b := 3) (by decide)
  have e : (pcI k).fmod 2 = pcI k % 2 := Int.fmod_eq_emod_of_nonneg _ (by decide)
  unfold hypN evenAt
  rw [e, decide_eq_true_iff]
  refine propext ⟨fun h => ?_, fun h => ?_⟩ <;> omega
theorem letters_codes (ns : List Int) : (lettersOf ns).cps.toList = (List.range (countOf ns).toNat).map fun k => if evenAt k then 65 else 97 := by
  have hc := countOf_ok ns
  unfold lettersOf textOf
  rw [replace_codes, capF_codes (row_abc _ _), row_codes, lets_all _ _ (letN_or _) _ (fun k h0 h1 => hyp_pos _ h0 (by omega))]
  refine List.map_congr_left fun k _ => ?_
  have := hyp_even (ns.take 12) k
  simp only [this]
theorem letters_len (ns : List Int) : ((lettersOf ns).length : Int) = countOf ns := by
  have hc := countOf_ok ns
  have h := congrArg List.length (letters_codes ns)
  rw [List.length_map, List.length_range] at h
  have hs : (lettersOf ns).cps.toList.length = (lettersOf ns).length := by simp [Str.length]
  omega
theorem big_even (ns : List Int) {k : Nat} (hk : k < (countOf ns).toNat) : bigAt (lettersOf ns) k = evenAt k := by
  have h : (lettersOf ns).cps.getD k 0 = if evenAt k then 65 else 97 := by
    have h1 : (lettersOf ns).cps.toList[k]? = some (if evenAt k then 65 else 97) := by
      rw [letters_codes, List.getElem?_map, List.getElem?_range hk]; rfl
    rw [Array.getD_eq_getD_getElem?, ← Array.getElem?_toList, h1]; rfl
  unfold bigAt
  rw [h]
  cases evenAt k
  · decide +kernel
  · decide +kernel
theorem str_of_codes {x y : Str} (h : x.cps.toList = y.cps.toList) : x = y := Str.ext' (Array.toList_inj.mp h)
theorem lowers (ns : List Int) : (Txt.lower (capF (textOf ns)) != Txt.lower (textOf ns)) = false := by
  have ha : Abc (textOf ns).cps.toList := row_abc _ _
  have hc := capF_codes ha
  have hk := capL_abc true _ ha
  have e : Txt.lower (capF (textOf ns)) = Txt.lower (textOf ns) := by
    refine str_of_codes ?_
    rw [lower_abc ha, lower_abc (by rw [hc]; exact hk.1), hc, hk.2]
  rw [e]; simp
end Mine
end
section
open PySem PySem.StrLaws PySem.Builtin.Str
set_option Elab.async false
set_option maxRecDepth 100000
namespace Mine
theorem parts_len (x : Str) (w : Nat) : ∀ (a : Nat) (cuts : List Nat), (partsFrom x w a cuts).length = cuts.length + 1
  | _, [] => rfl
  | a, c :: r => by
    show (partsFrom x w (c + w) r).length + 1 = _
    rw [parts_len x w (c + w) r]; rfl
theorem strSub_le (x : Str) (a b : Nat) : (strSub x a b).length ≤ x.length := by
  have h : (strSub x a b).cps.toList.length ≤ x.cps.toList.length := by
    rw [strSub_toList, List.length_take, List.length_drop]; omega
  simpa [Str.length] using h
theorem parts_le (x : Str) (w : Nat) : ∀ (a : Nat) (cuts : List Nat), ∀ p ∈ partsFrom x w a cuts, p.length ≤ x.length
  | a, [], p, hp => by rw [List.mem_singleton.mp hp]; exact strSub_le ..
  | a, c :: r, p, hp => by
    rcases List.mem_cons.mp hp with rfl | hp
    · exact strSub_le ..
    · exact parts_le x w (c + w) r p hp
theorem parts_abc {x : Str} (hx : Abc x.cps.toList) (w : Nat) : ∀ (a : Nat) (cuts : List Nat), ∀ p ∈ partsFrom x w a cuts, Abc p.cps.toList
  | a, [], p, hp => by rw [List.mem_singleton.mp hp]; exact abc_sub hx
  | a, c :: r, p, hp => by
    rcases List.mem_cons.mp hp with rfl | hp
    · exact abc_sub hx
    · exact parts_abc hx w (c + w) r p hp
theorem capP_len : ∀ l : List Nat, (capP l).length = l.length
  | [] => rfl
  | _ :: _ => by simp [capP]
theorem cap_len {x : Str} (h : Abc x.cps.toList) : (Txt.capitalize x).length = x.length := by
  have := congrArg List.length (capitalize_abc h)
  rw [capP_len] at this
  simpa [Str.length] using this
theorem text_len (ns : List Int) : (textOf ns).length ≤ 660 := by
  have h := rowF_len (ns.take 12) (countOf ns).toNat
  have hc := countOf_ok ns
  unfold textOf; omega
theorem capF_len {x : Str} (h : Abc x.cps.toList) : (capF x).length = x.length := by
  have := congrArg List.length (capF_codes h)
  rw [capL_length] at this
  simpa [Str.length] using this
theorem due_bounds {turn level share below p : Int} (tu : 5 ≤ turn) (lv : 1 ≤ level ∧ level ≤ 4) (sh : 1 ≤ share ∧ share ≤ 4) (hb : 1 ≤ below) (p0 : 0 ≤ p) (p1 : p ≤ below * turn) :
    0 ≤ below * turn * level * (4 - share) + level * share * p ∧ below * turn * level * (4 - share) + level * share * p ≤ 16 * turn * below := by
  have hbt : 0 ≤ below * turn := Int.mul_nonneg (by omega) (by omega)
  have l0 : 0 ≤ level * share := Int.mul_nonneg (by omega) (by omega)
  have a1 : 0 ≤ below * turn * level * (4 - share) := Int.mul_nonneg (Int.mul_nonneg hbt (by omega)) (by omega)
  have a2 : 0 ≤ level * share * p := Int.mul_nonneg l0 p0
  have a3 : level * share * p ≤ level * share * (below * turn) := Int.mul_le_mul_of_nonneg_left p1 l0
  have a4 : level * (below * turn) ≤ 4 * (below * turn) := Int.mul_le_mul_of_nonneg_right lv.2 hbt
  constructor
  · omega
  · have e : below * turn * level * (4 - share) + level * share * (below * turn) = 4 * (level * (below * turn)) := by grind
    have e2 : 16 * turn * below = 4 * (4 * (below * turn)) := by grind
    omega
theorem law_ok (ns : List Int) : LawOk ns := by
  have hc := countOf_ok ns
  have tu := turnOf_ok (ns.take 12).sum
  have pl := placeOf_ok (ns.take 12).sum
  have th := thirdsOf_ok (ns.take 12).sum
  have sh := shareOf_ok (ns.take 12).sum
  have lv := levelOf_ok (ns.take 12).sum
  have hx := text_len ns
  have ha : Abc (textOf ns).cps.toList := row_abc _ _
  obtain ⟨cuts, f, es, ec, hG, hn⟩ := split_parts (textOf ns)
  have hcl : cuts.length ≤ (textOf ns).length + 1 := by rw [ec]; exact occ_length_le ..
  have hll := letters_len ns
  have hmix : MixOk (lettersOf ns) (placeOf (ns.take 12).sum) (turnOf (ns.take 12).sum) (thirdsOf (ns.take 12).sum) (shareOf (ns.take 12).sum) (levelOf (ns.take 12).sum) := by
    have t0 : (0 : Rat) < (turnOf (ns.take 12).sum : Rat) := by
      have : ((0 : Int) : Rat) < (turnOf (ns.take 12).sum : Rat) := Rat.intCast_lt_intCast.mpr (by omega)
      exact this
    have e4 : ((4 : Int) : Rat) = 4 := rfl
    have q4 : ∀ a : Int, 1 ≤ a ∧ a ≤ 4 → Ap (qF a 4) ((a : Rat) / ((4 : Int) : Rat)) (2 ^ 0 / 2 ^ 52) := fun a h => Ap.qF 0 (by omega) (by decide) (by decide) (by
      have := castQ h.2
      rw [e4] at this ⊢
      grind)
    refine ⟨by omega, tu, th, ?_, ?_, fin_notInf (q4 _ sh).1, fin_notInf (q4 _ lv).1, ?_, ?_, ?_, ?_⟩
    · exact fin_notInf (Ap.qF 0 pl.1 (by omega) (by decide) (div_le t0 (by have := castQ (Int.le_of_lt pl.2); grind))).1
    · intro n hn
      have hm : thirdsOf (ns.take 12).sum * (n : Int) ≤ 2 * 59 := Int.mul_le_mul th.2 (by omega) (by omega) (by omega)
      have hm0 : 0 ≤ thirdsOf (ns.take 12).sum * (n : Int) := Int.mul_nonneg (by omega) (by omega)
      refine fin_notInf (Ap.qF 6 hm0 (by decide) (by decide) ?_).1
      have := castQ hm
      have e3 : ((3 : Int) : Rat) = 3 := rfl
      have e118 : ((2 * 59 : Int) : Rat) = 118 := rfl
      rw [e118] at this
      rw [e3]
      exact div_le (by decide) (by grind)
    · have h := q4 _ sh
      have s1 : (1 : Rat) ≤ (shareOf (ns.take 12).sum : Rat) := castQ sh.1
      have z : Float64.isFinite 0 = true ∧ R 0 = 0 := R_zero false
      rw [cmp_gt h.1 z.1 (by rw [z.2]; have := h.2.2; rw [e4] at this; grind)]
      decide
    · intro n hn
      exact (col_ok (share := shareOf (ns.take 12).sum) (level := levelOf (ns.take 12).sum) tu pl th lv sh (by omega)).1
    · intro n hn
      exact (col_ok (share := shareOf (ns.take 12).sum) (level := levelOf (ns.take 12).sum) tu pl th lv sh (by omega)).2.1
    · intro n c hn hc3
      exact ((col_ok (share := shareOf (ns.take 12).sum) (level := levelOf (ns.take 12).sum) tu pl th lv sh (by omega)).2.2 c hc3).1
  refine ⟨by omega, ?_, ?_, ?_, ?_, ?_, lowers ns, hmix, hll, ?_, ?_⟩
  · intro y hy
    rw [es] at hy
    have := parts_le _ _ _ _ y hy
    omega
  · rw [es, parts_len]; omega
  · rw [partsBetween_eq, parts_len, ← ec, sizeLine_eq]; omega
  · unfold JoinOk
    rw [es]
    have hB : ∀ y ∈ (partsFrom (textOf ns) 2 0 cuts).map Txt.capitalize, y.length ≤ 660 := fun y hy => by
      obtain ⟨p, hp, rfl⟩ := List.mem_map.mp hy
      rw [cap_len (parts_abc ha _ _ _ p hp)]
      exact Nat.le_trans (parts_le _ _ _ _ p hp) hx
    rw [joinFits hB (by rw [List.length_map, parts_len, dd_len]; omega)]
    rfl
  · rw [capF_len ha]; omega
  · intro k hk
    have hbig : ∀ j < k + 1, bigAt (lettersOf ns) j = evenAt j := fun j hj => big_even ns (by omega)
    have key : ∀ c : Nat, c < 3 → mixS (lettersOf ns) (placeOf (ns.take 12).sum) (turnOf (ns.take 12).sum) (thirdsOf (ns.take 12).sum) (shareOf (ns.take 12).sum) (levelOf (ns.take 12).sum) (k + 1) c = dueOf (ns.take 12).sum ((k : Int) + 1) (pureT (ns.take 12).sum ((k : Int) + 1) c) := fun c hc3 => by
      have h := mix_pure (share := shareOf (ns.take 12).sum) (level := levelOf (ns.take 12).sum) (c := c) tu pl th lv sh hc3 (count := k + 1) (by omega) hbig (k + 1) (Nat.le_refl _)
      rw [h]
      have e : ((k + 1 : Nat) : Int) = (k : Int) + 1 := by omega
      rw [e]; rfl
    rw [List.map_map]
    refine List.map_congr_left fun c hc3 => ?_
    exact key c (List.mem_range.mp hc3)
  · intro k hk
    have hk60 : k < 60 := by omega
    have e : ((k + 1 : Nat) : Int) = (k : Int) + 1 := by omega
    have B : ∀ c : Nat, 0 ≤ dueOf (ns.take 12).sum ((k : Int) + 1) (pureT (ns.take 12).sum ((k : Int) + 1) c) ∧ dueOf (ns.take 12).sum ((k : Int) + 1) (pureT (ns.take 12).sum ((k : Int) + 1) c) ≤ 16 * turnOf (ns.take 12).sum * ((k : Int) + 1) := fun c => by
      have hp := pure_bounds (thirds := thirdsOf (ns.take 12).sum) (c := c) tu pl (k + 1) (by omega)
      rw [e] at hp
      exact due_bounds tu.1 lv sh (by omega) hp.1 hp.2
    have hw : 0 < 16 * turnOf (ns.take 12).sum * ((k : Int) + 1) := Int.mul_pos (by omega) (by omega)
    have hwb : 16 * turnOf (ns.take 12).sum * ((k : Int) + 1) ≤ 256 * 60 := Int.mul_le_mul (by omega) (by omega) (by omega) (by omega)
    refine told_ok hw hwb (B 0) (B 1) (B 2) ?_
    rw [mn3_def, mx3_def]
    have ng := not_grey (thirds := thirdsOf (ns.take 12).sum) hk60 tu pl th
    have ls : 0 < levelOf (ns.take 12).sum * shareOf (ns.take 12).sum := Int.mul_pos (by omega) (by omega)
    have inj : ∀ p q : Int, dueOf (ns.take 12).sum ((k : Int) + 1) p = dueOf (ns.take 12).sum ((k : Int) + 1) q → p = q := fun p q h => by
      unfold dueOf at h
      exact Int.eq_of_mul_eq_mul_left (by omega) (Int.add_left_cancel h)
    apply Decidable.byContradiction
    intro hlt
    apply ng
    exact ⟨inj (pureT (ns.take 12).sum ((k : Int) + 1) 0) (pureT (ns.take 12).sum ((k : Int) + 1) 1) (by omega), inj (pureT (ns.take 12).sum ((k : Int) + 1) 1) (pureT (ns.take 12).sum ((k : Int) + 1) 2) (by omega)⟩
end Mine
end
set_option maxRecDepth 100000 in
theorem PySem.Challenge.cw_pw0001_01_holds : PySem.Challenge.rw_pw0001_01.Holds := by
  exact Mine.law_from fun ns _ => Mine.law_ok ns
