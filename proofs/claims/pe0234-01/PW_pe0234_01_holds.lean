import PyProof.Rows.All
import Wide.All
import OpenK.AllK
import Wide.FinOn
import PySem.Challenge.RW_pe0234_01
open PySem PySem.W PyProof.Rows
set_option Elab.async false
set_option maxRecDepth 100000
set_option autoImplicit false
namespace Mine
set_option maxRecDepth 100000 in
set_option maxHeartbeats 8000000 in
open_top hd for PySem.Challenge.rw_pe0234_01
/-- what a call of the def at f with the values vs, over the ledger led, hands on -/
def Spec (prog : Program) (w : World) (mean : ExcName → Option Value) (mg mb : Str → Option Value) (D U : Nat) (f : Addr) (vs : List Value) (led : List (Addr × Obj)) (out : Value → List (Addr × Obj) → Prop) : Prop :=
  ∀ (dp un : Nat) (gd : Option (List Code)) (cn : Str) (cs : Scope) (a : Addr) (ccd : Value) (cl : List (Str × Addr)) (outer : List Env) (A₀ : Around) (base h₀ : Heap) (L : Addr) (m : Str → Option Value) (s : Shared) (Q E : Value → Shared → Prop),
    Below A₀ base outer h₀ → Fr h₀ L s.heap m → (Mine.hd.heap_39 w.params).In h₀ → News h₀ L s.heap led → Top Mine.hd.view_39 (looseW Mine.hd.view_39 [Str.ofString "insort_right", Str.ofString "bisect_right", Str.ofString "Whitespace"]) mean mg mb h₀ → cs.kind = .function → dp + D < recursionLimit → un + U < cLine →
    (∀ r led' h' tk', out r led' → Fr h₀ L h' m → News h₀ L h' led' → Q r { s with heap := h', toks := tk' }) →
    wpAny (model prog w) (ktrTop dp un gd cn cs L a ccd cl outer) (call (.ref f) vs) Q E s

theorem Spec.use {prog : Program} {w : World} {mean : ExcName → Option Value} {mg mb : Str → Option Value} {D U : Nat} {f : Addr} {vs : List Value} {led : List (Addr × Obj)} {out : Value → List (Addr × Obj) → Prop} (C : Spec prog w mean mg mb D U f vs led out)
    {dp un : Nat} {gd : Option (List Code)} {cn : Str} {cs : Scope} {a : Addr} {ccd : Value} {cl : List (Str × Addr)} {outer : List Env} {A₀ : Around} {base h₀ : Heap} {L : Addr} {m : Str → Option Value} {s : Shared} {Q E : Value → Shared → Prop}
    (B : Below A₀ base outer h₀) (F : Fr h₀ L s.heap m) (X : (Mine.hd.heap_39 w.params).In h₀) (N : News h₀ L s.heap led) (T : Top Mine.hd.view_39 (looseW Mine.hd.view_39 [Str.ofString "insort_right", Str.ofString "bisect_right", Str.ofString "Whitespace"]) mean mg mb h₀) (hk : cs.kind = .function) (hd : dp + D < recursionLimit) (hu : un + U < cLine)
    (ret : ∀ r led' h' tk', out r led' → Fr h₀ L h' m → News h₀ L h' led' → Q r { s with heap := h', toks := tk' }) :
    wpAny (model prog w) (ktrTop dp un gd cn cs L a ccd cl outer) (call (.ref f) vs) Q E s := C _ _ _ _ _ _ _ _ _ _ _ _ _ _ _ _ _ B F X N T hk hd hu ret

theorem news_sub {h₀ h : Heap} {L : Addr} {led led' : List (Addr × Obj)} (N : News h₀ L h led) (hs : ∀ p ∈ led', p ∈ led) : News h₀ L h led' := fun p hp => N p (hs p hp)

/-- the defs whose calls the walk leaves to their contracts -/
def stops : List Nat := [39, 30, 46, 53, 60, 67, 74, 145, 152, 159, 164]
theorem stop_mark {M : Model} {A : Around} {c : Nat} {vs : List Value} {Q E : Value → Shared → Prop} {s : Shared} (_h : stops.contains c = true) (k : wpAny M A (call (.ref c) vs) Q E s) : wpAny M A (call (.ref c) vs) Q E s := k
/-- what a mask keeps of a ledger -/
def mask {α : Type} : List Bool → List α → List α
  | true :: m, x :: l => x :: mask m l
  | false :: m, _ :: l => mask m l
  | _, _ => []
theorem mask_mem {α : Type} : ∀ (m : List Bool) (l : List α), ∀ p ∈ mask m l, p ∈ l
  | [], _, _, h => nomatch h
  | true :: _, [], _, h => nomatch h
  | false :: _, [], _, h => nomatch h
  | true :: m, x :: l, p, h => by
    rcases List.mem_cons.mp h with rfl | h
    · exact List.Mem.head _
    · exact List.Mem.tail _ (mask_mem m l p h)
  | false :: m, x :: l, p, h => List.Mem.tail _ (mask_mem m l p h)
theorem news_mask {h₀ h : Heap} {L : Addr} {l : List (Addr × Obj)} (N : News h₀ L h l) (m : List Bool) : News h₀ L h (mask m l) := news_sub N (mask_mem m l)
/-- a frame of which one name's value alone is told -/
theorem fr_fold {h₀ h : Heap} {L : Addr} {m : Str → Option Value} {x : Str} {v : Value} (F : Fr h₀ L h m) (hx : m x = some v) : ∃ m₀ : Str → Option Value, Fr h₀ L h (fun y => if y = x then some v else m₀ y) := by
  have e : (fun y => if y = x then some v else m y) = m := by
    funext y
    by_cases h : y = x
    · rw [if_pos h, h, hx]
    · rw [if_neg h]
  exact ⟨m, by rw [e]; exact F⟩
theorem fr_fold3 {h₀ h : Heap} {L : Addr} {m : Str → Option Value} {x x2 x3 : Str} {v v2 v3 : Value} (F : Fr h₀ L h m) (hx : m x = some v) (h2 : m x2 = some v2) (h3 : m x3 = some v3) :
    ∃ m₀ : Str → Option Value, Fr h₀ L h (fun y => if y = x then some v else if y = x2 then some v2 else if y = x3 then some v3 else m₀ y) := by
  have e : (fun y => if y = x then some v else if y = x2 then some v2 else if y = x3 then some v3 else m y) = m := by
    funext y
    by_cases h : y = x
    · rw [if_pos h, h, hx]
    · rw [if_neg h]
      by_cases h : y = x2
      · rw [if_pos h, h, h2]
      · rw [if_neg h]
        by_cases h : y = x3
        · rw [if_pos h, h, h3]
        · rw [if_neg h]
  exact ⟨m, by rw [e]; exact F⟩
/-- outside ws, h' holds all that h holds -/
def Kept (ws : List Addr) (h h' : Heap) : Prop := ∀ c o, c ∉ ws → h.get? c = some o → h'.get? c = some o
section
variable {ws ws' : List Addr} {h h' h'' h₀ : Heap} {L : Addr} {m : Str → Option Value} {led : List (Addr × Obj)}
theorem Kept.frame (K : Kept ws h h') (F : Fr h₀ L h m) (hL : L ∉ ws) (hw : ∀ c ∈ ws, h₀.get? c = none) : Fr h₀ L h' m := by
  refine ⟨F.ns.at' fun o => K L o hL, fun c o hc => K c o (fun hm => ?_) (F.keep c o hc), F.above⟩
  rw [hw c hm] at hc
  exact nomatch hc
theorem Kept.ledger (K : Kept ws h h') (N : News h₀ L h led) (off : ∀ q ∈ led, q.1 ∉ ws) : News h₀ L h' led := fun q hq => ⟨K _ _ (off q hq) (N q hq).1, (N q hq).2⟩
theorem Kept.trans (K : Kept ws h h') (K' : Kept ws' h' h'') : Kept (ws ++ ws') h h'' := fun c o hc hg =>
  K' c o (fun hm => hc (List.mem_append_right _ hm)) (K c o (fun hm => hc (List.mem_append_left _ hm)) hg)
/-- the address that the next object will get stands by itself -/
theorem next_apart (F : Fr h₀ L h m) (N : News h₀ L h led) : L ∉ [h.objs.size] ∧ (∀ c ∈ [h.objs.size], h₀.get? c = none) ∧ ∀ q ∈ led, q.1 ∉ [h.objs.size] := by
  simp only [List.mem_singleton, forall_eq]
  exact ⟨Nat.ne_of_lt F.ns.lt, next_is_new F, fun q hq => Nat.ne_of_lt (Heap.lt_size (N q hq).1)⟩
end

local macro_rules | `(tactic| k_all) => `(tactic| with_reducible assumption)
def bis (ns : List Int) (x : Int) : Nat → Nat → Nat → Nat
  | 0, lo, _ => lo
  | f + 1, lo, hi => if lo < hi then (if x < ns.getD ((lo + hi) / 2) 0 then bis ns x f lo ((lo + hi) / 2) else bis ns x f ((lo + hi) / 2 + 1) hi) else lo
theorem bis_le (ns : List Int) (x : Int) : ∀ f lo hi, lo ≤ hi → bis ns x f lo hi ≤ hi
  | 0, lo, hi, h => h
  | f + 1, lo, hi, h => by
    rw [bis]
    split
    · split
      · exact Nat.le_trans (bis_le ns x f _ _ (by omega)) (by omega)
      · exact bis_le ns x f _ _ (by omega)
    · exact h
/-- the place that bisect_right tells -/
def place (ns : List Int) (x : Int) : Nat := bis ns x ns.length 0 ns.length
theorem place_le (ns : List Int) (x : Int) : place ns x ≤ ns.length := bis_le ns x _ _ _ (Nat.zero_le _)
/-- what insort_right makes -/
def insB (ns : List Int) (x : Int) : List Int := ns.take (place ns x) ++ x :: ns.drop (place ns x)
theorem insB_length (ns : List Int) (x : Int) : (insB ns x).length = ns.length + 1 := by
  have := place_le ns x
  simp [insB]; omega
theorem bis_end {ns : List Int} {x lo hi : Int} {f r : Nat} (h0 : 0 ≤ lo) (hlo : lo ≤ hi) (h : ¬ lo < hi) (hb : bis ns x f lo.toNat hi.toNat = r) : lo = (r : Int) := by
  have : bis ns x f lo.toNat hi.toNat = lo.toNat := by
    cases f with
    | zero => rfl
    | succ f => rw [bis, if_neg (by omega)]
  omega
theorem fdiv2 {lo hi : Int} (h0 : 0 ≤ lo) (h : lo < hi) : ((lo + hi).fdiv 2) = (((lo.toNat + hi.toNat) / 2 : Nat) : Int) := by
  rw [Int.fdiv_eq_ediv_of_nonneg _ (by omega)]
  omega
theorem bis_less1 {lo hi : Int} (h0 : 0 ≤ lo) (h : lo < hi) : ((lo + hi).fdiv 2).toNat - lo.toNat < hi.toNat - lo.toNat := by
  rw [fdiv2 h0 h]; omega
theorem bis_less2 {lo hi : Int} (h0 : 0 ≤ lo) (h : lo < hi) : hi.toNat - ((lo + hi).fdiv 2 + 1).toNat < hi.toNat - lo.toNat := by
  rw [fdiv2 h0 h]; omega
theorem bis_left {ns : List Int} {x lo hi : Int} {f r : Nat} (h0 : 0 ≤ lo) (h : lo < hi) (hhi : hi ≤ (ns.length : Int)) (hf : hi.toNat - lo.toNat ≤ f) (hb : bis ns x f lo.toNat hi.toNat = r) (hx : x < ns.getD ((lo + hi).fdiv 2).toNat 0) :
    0 ≤ lo ∧ lo ≤ (lo + hi).fdiv 2 ∧ (lo + hi).fdiv 2 ≤ (ns.length : Int) ∧ ∃ f, ((lo + hi).fdiv 2).toNat - lo.toNat ≤ f ∧ bis ns x f lo.toNat ((lo + hi).fdiv 2).toNat = r := by
  rw [fdiv2 h0 h] at hx ⊢
  cases f with
  | zero => exfalso; omega
  | succ f =>
    rw [bis, if_pos (by omega)] at hb
    rw [Int.toNat_natCast] at hx
    rw [if_pos hx] at hb
    exact ⟨h0, by omega, by omega, f, by omega, by rw [Int.toNat_natCast]; exact hb⟩
theorem bis_right {ns : List Int} {x lo hi : Int} {f r : Nat} (h0 : 0 ≤ lo) (h : lo < hi) (hhi : hi ≤ (ns.length : Int)) (hf : hi.toNat - lo.toNat ≤ f) (hb : bis ns x f lo.toNat hi.toNat = r) (hx : ¬ x < ns.getD ((lo + hi).fdiv 2).toNat 0) :
    0 ≤ (lo + hi).fdiv 2 + 1 ∧ (lo + hi).fdiv 2 + 1 ≤ hi ∧ hi ≤ (ns.length : Int) ∧ ∃ f, hi.toNat - ((lo + hi).fdiv 2 + 1).toNat ≤ f ∧ bis ns x f ((lo + hi).fdiv 2 + 1).toNat hi.toNat = r := by
  rw [fdiv2 h0 h] at hx ⊢
  cases f with
  | zero => exfalso; omega
  | succ f =>
    rw [bis, if_pos (by omega)] at hb
    rw [Int.toNat_natCast] at hx
    rw [if_neg hx] at hb
    refine ⟨by omega, by omega, by omega, f, by omega, ?_⟩
    have : (((lo.toNat + hi.toNat) / 2 : Nat) + 1 : Int).toNat = (lo.toNat + hi.toNat) / 2 + 1 := by omega
    rw [this]; exact hb
set_option maxHeartbeats 400000 in
theorem bisect_gen {prog : Program} {w : World} {mean : ExcName → Option Value} {mg mb : Str → Option Value} {l : Addr} {vs as : List Value} {ns : List Int} {n : Nat} {x : Int} {t t0 : Tok} {news : List (Addr × Obj)} (hi : IntsAre vs ns) (hl : ns.length < 1000)
   (hb : ∀ (s : Shared) (fd : FuncData) (oc : Value) (od : Option Addr) (osl : Array (Option Value)), (Mine.hd.heap_39 w.params).In s.heap → (Mine.hd.heap_39 w.params).lookup 39 = some ⟨oc, od, .func fd, osl⟩ →
     BindsTo s fd { pos := as } [(Str.ofString "a", .ref l), (Str.ofString "x", .int x t), (Str.ofString "lo", .int 0 t0), (Str.ofString "hi", .none), (Str.ofString "key", .none)]) :
   Spec prog w mean mg mb 10 50 39 as ((l, listOf vs.toArray n) :: news) (fun r led' => (∃ t', r = .int (place ns x : Nat) t') ∧ led' = (l, listOf vs.toArray n) :: news) := by
  intro dp un gd cn cs a ccd cl outer A₀ base h₀ L m s Q E B F X N T hk hd hu hret
  refine wpAny_call ?_
  w_on
  k_dflt (refine' code_def (binds := [(Str.ofString "a", .ref l), (Str.ofString "x", .int x t), (Str.ofString "lo", .int 0 t0), (Str.ofString "hi", .none), (Str.ofString "key", .none)]) ?k1 ?k2 ?k3 ?k4 ?k5 ?kA ?kF ?kK ?k6 ?k7 ?k8 ?k9 ?kB ?_ ?c2 ?c3 ?c4 ?c5; (case kA => exact rfl); (case kF => exact rfl); (case kK => first | exact rfl | assumption); (case k1 => k_asm); (case k2 => k_asm); (case k3 => k_asm); (case k4 => k_asm); (case k5 => k_asm); (case k6 => k_is); (case k7 => k_is); (case k8 => ktr_room); (case k9 => first | exact BindsTo.of_eq rfl | exact kp_binds (by k_in) (fun _ => by with_unfolding_all rfl) | exact hb _ _ _ _ _ (by k_in) (by rfl) | fail "enter: no rule for these arguments"); (case c5 => decide); (case kB => exact locs rfl); (case c2 => exact rfl); (case c3 => exact rfl); (case c4 => exact rfl); k_whole; intro g' L' h1' FG' F' N' B' X' T'; (try dsimp only [List.reverse_cons, List.reverse_nil, List.nil_append, List.cons_append, List.length_cons, List.length_nil] at F'); (try dsimp only); (try k_fold))
  repeat' (first | (k_unfold; (try dsimp only)) | ((fail_if_success (first | (first | (with_reducible show KswEnd _ _ _ _ _ _ _ _ _ _ _ _) | (with_reducible show InvEndN _ _ _ _ _ _ _) | (with_reducible refine stop_mark ?h ?_; (case h => decide))) | (with_reducible show wpAny _ _ (pyIter (Value.ref _)) _ _ _) | (with_reducible show wpAny _ _ (pyIter (Value.str _ _)) _ _ _) | (with_reducible show wpAny _ _ (exec (Stmt.While _ _ _ _) _) _ _ _))); (first | walk1 | (dsimp only; walk1) | (leave1; try dsimp only))))
  rename Fr _ _ _ _ => lF
  rename News _ _ _ _ => lN
  refine' ksw_while (σ := Int × Tok × Int × Tok) (fun _ => (l, listOf vs.toArray n) :: news) (fun c => [(Str.ofString "lo", Value.int c.1 c.2.1), (Str.ofString "hi", Value.int c.2.2.1 c.2.2.2)]) (fun _ => True) [Str.ofString "mid"]
    (fun c => 0 ≤ c.1 ∧ c.1 ≤ c.2.2.1 ∧ c.2.2.1 ≤ (ns.length : Int) ∧ ∃ f, c.2.2.1.toNat - c.1.toNat ≤ f ∧ bis ns x f c.1.toNat c.2.2.1.toNat = bis ns x ns.length 0 ns.length) (fun c => c.2.2.1.toNat - c.1.toNat) (0, ?t1, (ns.length : Int), ?t2) lF lN trivial ?hk ?hp ?turn
  case hk => kst_all
  case hp => exact ⟨Int.le_refl _, Int.natCast_nonneg _, Int.le_refl _, ns.length, by simp, by simp⟩
  clear lF lN
  rintro ⟨lo, t1, hi2, t2⟩ u h tk _ ⟨h0, hlo, hhi, f, hf, hb⟩ F1 N1
  dsimp only [kstB] at F1 N1 h0 hlo hhi hf hb ⊢
  try k_fold
  repeat' (first | (k_unfold; (try dsimp only)) | ((fail_if_success (first | (first | (with_reducible show KswEnd _ _ _ _ _ _ _ _ _ _ _ _) | (with_reducible show InvEndN _ _ _ _ _ _ _) | (with_reducible refine stop_mark ?h ?_; (case h => decide))) | (with_reducible show wpAny _ _ (pyIter (Value.ref _)) _ _ _) | (with_reducible show wpAny _ _ (pyIter (Value.str _ _)) _ _ _) | (with_reducible show wpAny _ _ (exec (Stmt.While _ _ _ _) _) _ _ _))); (first | walk1 | (dsimp only; walk1) | (leave1; try dsimp only))))
  · refine ksw_end (lo, _, _, _) (by assumption) (by assumption) (fun _ h => h) trivial (by kst_all) (by ksw_same) ?_ ?_
    · rename _ < ns.getD _ _ => hx
      exact bis_left h0 (by assumption) hhi hf hb hx
    · exact bis_less1 h0 (by assumption)
  · refine ksw_end (_, _, hi2, _) (by assumption) (by assumption) (fun _ h => h) trivial (by kst_all) (by ksw_same) ?_ ?_
    · rename ¬ _ < ns.getD _ _ => hx
      exact bis_right h0 (by assumption) hhi hf hb hx
    · exact bis_less2 h0 (by assumption)
  · exact hret _ _ _ _ ⟨⟨t1, by rw [bis_end h0 hlo (by assumption) hb]; rfl⟩, rfl⟩ (by assumption) (by assumption)
theorem bisect_spec2 {prog : Program} {w : World} {mean : ExcName → Option Value} {mg mb : Str → Option Value} {l : Addr} {vs : List Value} {ns : List Int} {n : Nat} {x : Int} {t : Tok} {news : List (Addr × Obj)} (hi : IntsAre vs ns) (hl : ns.length < 1000) :
   Spec prog w mean mg mb 10 50 39 [.ref l, .int x t] ((l, listOf vs.toArray n) :: news) (fun r led' => (∃ t', r = .int (place ns x : Nat) t') ∧ led' = (l, listOf vs.toArray n) :: news) :=
  bisect_gen hi hl fun s fd oc od osl hX ho => by
    cases ho
    first | exact BindsTo.of_eq rfl | exact kp_binds hX (fun _ => by with_unfolding_all rfl)
theorem bisect_spec4 {prog : Program} {w : World} {mean : ExcName → Option Value} {mg mb : Str → Option Value} {l : Addr} {vs : List Value} {ns : List Int} {n : Nat} {x : Int} {t : Tok} {news : List (Addr × Obj)} {t0 : Tok} (hi : IntsAre vs ns) (hl : ns.length < 1000) :
   Spec prog w mean mg mb 10 50 39 [.ref l, .int x t, .int 0 t0, .none] ((l, listOf vs.toArray n) :: news) (fun r led' => (∃ t', r = .int (place ns x : Nat) t') ∧ led' = (l, listOf vs.toArray n) :: news) :=
  bisect_gen hi hl fun s fd oc od osl hX ho => by
    cases ho
    first | exact BindsTo.of_eq rfl | exact kp_binds hX (fun _ => by with_unfolding_all rfl)

set_option maxHeartbeats 400000 in
theorem insort_spec {prog : Program} {w : World} {mean : ExcName → Option Value} {mg mb : Str → Option Value} {l : Addr} {vs : List Value} {ns : List Int} {n : Nat} {x : Int} {t : Tok} {news : List (Addr × Obj)} (hi : IntsAre vs ns) (hl : ns.length < 1000) (hn : ∀ p ∈ news, p.1 ≠ l) :
   Spec prog w mean mg mb 20 100 30 [.ref l, .int x t] ((l, listOf vs.toArray n) :: news) (fun r led' => r = .none ∧ ∃ vs' n', IntsAre vs' (insB ns x) ∧ led' = (l, listOf vs'.toArray n') :: news) := by
  intro dp un gd cn cs a ccd cl outer A₀ base h₀ L m s Q E B F X N T hk hd hu hret
  refine wpAny_call ?_
  w_on
  k_dflt (refine' code_def (binds := [(Str.ofString "a", .ref l), (Str.ofString "x", .int x t), (Str.ofString "lo", .int 0 _), (Str.ofString "hi", .none), (Str.ofString "key", .none)]) ?k1 ?k2 ?k3 ?k4 ?k5 ?kA ?kF ?kK ?k6 ?k7 ?k8 ?k9 ?kB ?_ ?c2 ?c3 ?c4 ?c5; (case kA => exact rfl); (case kF => exact rfl); (case kK => first | exact rfl | assumption); (case k1 => k_asm); (case k2 => k_asm); (case k3 => k_asm); (case k4 => k_asm); (case k5 => k_asm); (case k6 => k_is); (case k7 => k_is); (case k8 => ktr_room); (case k9 => first | exact BindsTo.of_eq rfl | exact kp_binds (by k_in) (fun _ => by with_unfolding_all rfl) | exact hb _ _ _ _ _ (by k_in) (by rfl) | fail "enter: no rule for these arguments"); (case c5 => decide); (case kB => exact locs rfl); (case c2 => exact rfl); (case c3 => exact rfl); (case c4 => exact rfl); k_whole; intro g' L' h1' FG' F' N' B' X' T'; (try dsimp only [List.reverse_cons, List.reverse_nil, List.nil_append, List.cons_append, List.length_cons, List.length_nil] at F'); (try dsimp only); (try k_fold))
  repeat' (first | (k_unfold; (try dsimp only)) | ((fail_if_success (first | (first | (with_reducible show KswEnd _ _ _ _ _ _ _ _ _ _ _ _) | (with_reducible show InvEndN _ _ _ _ _ _ _) | (with_reducible refine stop_mark ?h ?_; (case h => decide))) | (with_reducible show wpAny _ _ (pyIter (Value.ref _)) _ _ _) | (with_reducible show wpAny _ _ (pyIter (Value.str _ _)) _ _ _) | (with_reducible show wpAny _ _ (exec (Stmt.While _ _ _ _) _) _ _ _))); (first | walk1 | (dsimp only; walk1) | (leave1; try dsimp only))))
  (k_dflt (refine Spec.use (bisect_spec4 hi hl) (by k_asm) (by k_asm) (by k_asm) (by first | k_asm | (refine news_sub (by k_asm) ?_; simp only [List.forall_mem_cons]; simp)) (by k_asm) (by first | exact rfl | assumption) (by ktr_room) (by ktr_units) ?_))
  rintro r led' h2 tk2 ⟨⟨t', rfl⟩, rfl⟩ F2 N2
  clear F' N'
  iterate 14 (first | (k_unfold; (try dsimp only)) | ((fail_if_success (first | (first | (with_reducible show KswEnd _ _ _ _ _ _ _ _ _ _ _ _) | (with_reducible show InvEndN _ _ _ _ _ _ _) | (with_reducible refine stop_mark ?h ?_; (case h => decide))) | (with_reducible show wpAny _ _ (pyIter (Value.ref _)) _ _ _) | (with_reducible show wpAny _ _ (pyIter (Value.str _ _)) _ _ _) | (with_reducible show wpAny _ _ (exec (Stmt.While _ _ _ _) _) _ _ _))); (first | walk1 | (dsimp only; walk1) | (leave1; try dsimp only))))
  dsimp only [List.cons_append, List.nil_append]
  have hp := place_le ns x
  have hlen := hi.length
  refine kl_insert (l := vs.take (place ns x) ++ Value.int x t :: vs.drop (place ns x)) (n := n) (its := vs.toArray) (by assumption) (by assumption) ?f ?e (Upd.head hn) ?z ?_
  case f => simp only [Builtin.List.listFitsIndex, Bool.and_eq_true, decide_eq_true_eq]; omega
  case e =>
    unfold kl_ins
    rw [if_neg (by omega)]
    have : min ((place ns x : Nat) : Int).toNat vs.length = place ns x := by omega
    simp only [List.toList_toArray, this]
  case z => rw [sizeLine_eq]; simp only [List.toList_toArray]; omega
  intro h' F9 N9
  repeat' (first | (k_unfold; (try dsimp only)) | ((fail_if_success (first | (first | (with_reducible show KswEnd _ _ _ _ _ _ _ _ _ _ _ _) | (with_reducible show InvEndN _ _ _ _ _ _ _) | (with_reducible refine stop_mark ?h ?_; (case h => decide))) | (with_reducible show wpAny _ _ (pyIter (Value.ref _)) _ _ _) | (with_reducible show wpAny _ _ (pyIter (Value.str _ _)) _ _ _) | (with_reducible show wpAny _ _ (exec (Stmt.While _ _ _ _) _) _ _ _))); (first | walk1 | (dsimp only; walk1) | (leave1; try dsimp only))))
  exact hret _ _ _ _ ⟨rfl, _, _, (hi.take _).append (.cons x t (hi.drop _)), rfl⟩ (by assumption) (by assumption)

def turnStep (factor size : Int) (st : Int × List Int) (k : Int) : Int × List Int :=
  (st.1 + (st.2.length : Int) - (place st.2 ((factor * k).fmod size) : Nat), insB st.2 ((factor * k).fmod size))
def turnedF (factor size : Int) (ks : List Int) : Int × List Int := ks.foldl (turnStep factor size) (0, [])
set_option maxHeartbeats 1000000 in
theorem turned_spec {prog : Program} {w : World} {mean : ExcName → Option Value} {mg mb : Str → Option Value} {factor size : Int} {t t2 : Tok} {news : List (Addr × Obj)} (hf1 : -1000000000000 < factor) (hf2 : factor < 1000000000000) (hs1 : 0 < size) (hs2 : size < 100) :
   Spec prog w mean mg mb 40 200 159 [.int factor t, .int size t2] news (fun r led' => ∃ T l tok vs n, r = .ref T ∧ IntsAre vs (turnedF factor size (rangeKs 0 size.toNat)).2 ∧ l < T ∧ (∀ p ∈ news, p.1 < l) ∧ led' = (T, { cls := .type "tuple", data := .seq #[.int (turnedF factor size (rangeKs 0 size.toNat)).1 tok, .ref l] }) :: (l, listOf vs.toArray n) :: news) := by
  intro dp un gd cn cs a ccd cl outer A₀ base h₀ L m s Q E B F X N T hk hd hu hret
  refine wpAny_call ?_
  w_on
  k_dflt (refine' code_def (binds := [(Str.ofString "factor", .int factor t), (Str.ofString "size", .int size t2)]) ?k1 ?k2 ?k3 ?k4 ?k5 ?kA ?kF ?kK ?k6 ?k7 ?k8 ?k9 ?kB ?_ ?c2 ?c3 ?c4 ?c5; (case kA => exact rfl); (case kF => exact rfl); (case kK => first | exact rfl | assumption); (case k1 => k_asm); (case k2 => k_asm); (case k3 => k_asm); (case k4 => k_asm); (case k5 => k_asm); (case k6 => k_is); (case k7 => k_is); (case k8 => ktr_room); (case k9 => first | exact BindsTo.of_eq rfl | exact kp_binds (by k_in) (fun _ => by with_unfolding_all rfl) | exact hb _ _ _ _ _ (by k_in) (by rfl) | fail "enter: no rule for these arguments"); (case c5 => decide); (case kB => exact locs rfl); (case c2 => exact rfl); (case c3 => exact rfl); (case c4 => exact rfl); k_whole; intro g' L' h1' FG' F' N' B' X' T'; (try dsimp only [List.reverse_cons, List.reverse_nil, List.nil_append, List.cons_append, List.length_cons, List.length_nil] at F'); (try dsimp only); (try k_fold))
  repeat' (first | (k_unfold; (try dsimp only)) | ((fail_if_success (first | (first | (with_reducible show KswEnd _ _ _ _ _ _ _ _ _ _ _ _) | (with_reducible show InvEndN _ _ _ _ _ _ _) | (with_reducible refine stop_mark ?h ?_; (case h => decide))) | (with_reducible show wpAny _ _ (pyIter (Value.ref _)) _ _ _) | (with_reducible show wpAny _ _ (pyIter (Value.str _ _)) _ _ _) | (with_reducible show wpAny _ _ (exec (Stmt.While _ _ _ _) _) _ _ _))); (first | walk1 | (dsimp only; walk1) | (leave1; try dsimp only))))
  rename Fr _ _ _ _ => lF
  rename News _ _ _ _ => lN
  rename IsRange _ _ _ _ _ _ _ _ => lR
  rename ∀ p ∈ news, _ => l1
  refine' kst_range (σ := Int × Tok × List Value × List Int × Nat) (fun c => (_, listOf c.2.2.1.toArray c.2.2.2.2) :: news) (fun c => [(Str.ofString "turned", Value.int c.1 c.2.1)]) (fun c => IntsAre c.2.2.1 c.2.2.2.1) [Str.ofString "rest"]
    (fun pre c => (c.1, c.2.2.2.1) = turnedF factor size pre ∧ c.2.2.2.1.length = pre.length) (0, ?t1, [], [], 0) (by rfl) lR (small_one (by omega) (by omega) (by omega) (by omega)) (rangeSize_nat _ _) lF lN .nil ?hk ⟨rfl, rfl⟩ ?turn ?done
  case hk => kst_all
  case turn =>
    clear lF lN lR
    rintro ⟨turned, tt, vs, ns, n⟩ pre k t3 u h tk own hk3 hlt hoff hF ⟨hP, hL⟩ F1 N1
    dsimp only [kstB, List.cons_append] at F1 N1 hF hP hL ⊢
    have hne : ∀ p ∈ news ++ own, p.1 ≠ _ := List.forall_mem_append.mpr ⟨fun p hp => Nat.ne_of_lt (l1 p hp), fun p hp => hoff p hp _ (List.Mem.head _)⟩
    have hsz : size.toNat < 100 := by omega
    try k_fold
    repeat' (first | (k_unfold; (try dsimp only)) | ((fail_if_success (first | (first | (with_reducible show KswEnd _ _ _ _ _ _ _ _ _ _ _ _) | (with_reducible show InvEndN _ _ _ _ _ _ _) | (with_reducible refine stop_mark ?h ?_; (case h => decide))) | (with_reducible show wpAny _ _ (pyIter (Value.ref _)) _ _ _) | (with_reducible show wpAny _ _ (pyIter (Value.str _ _)) _ _ _) | (with_reducible show wpAny _ _ (exec (Stmt.While _ _ _ _) _) _ _ _))); (first | walk1 | (dsimp only; walk1) | (leave1; try dsimp only))))
    (k_dflt (refine Spec.use (bisect_spec2 hF (by omega)) (by k_asm) (by k_asm) (by k_asm) (by first | k_asm | (refine news_sub (by k_asm) ?_; simp only [List.forall_mem_cons]; simp)) (by k_asm) (by first | exact rfl | assumption) (by ktr_room) (by ktr_units) ?_))
    rintro r led' h2 tk2 ⟨⟨t', rfl⟩, rfl⟩ F2 N2
    repeat' (first | (k_unfold; (try dsimp only)) | ((fail_if_success (first | (first | (with_reducible show KswEnd _ _ _ _ _ _ _ _ _ _ _ _) | (with_reducible show InvEndN _ _ _ _ _ _ _) | (with_reducible refine stop_mark ?h ?_; (case h => decide))) | (with_reducible show wpAny _ _ (pyIter (Value.ref _)) _ _ _) | (with_reducible show wpAny _ _ (pyIter (Value.str _ _)) _ _ _) | (with_reducible show wpAny _ _ (exec (Stmt.While _ _ _ _) _) _ _ _))); (first | walk1 | (dsimp only; walk1) | (leave1; try dsimp only))))
    (k_dflt (refine Spec.use (insort_spec hF (by omega) hne) (by k_asm) (by k_asm) (by k_asm) (by first | k_asm | (refine news_sub (by k_asm) ?_; simp only [List.forall_mem_cons]; simp)) (by k_asm) (by first | exact rfl | assumption) (by ktr_room) (by ktr_units) ?_))
    rintro r led' h3 tk3 ⟨rfl, vs', n', hI', rfl⟩ F3 N3
    repeat' (first | (k_unfold; (try dsimp only)) | ((fail_if_success (first | (first | (with_reducible show KswEnd _ _ _ _ _ _ _ _ _ _ _ _) | (with_reducible show InvEndN _ _ _ _ _ _ _) | (with_reducible refine stop_mark ?h ?_; (case h => decide))) | (with_reducible show wpAny _ _ (pyIter (Value.ref _)) _ _ _) | (with_reducible show wpAny _ _ (pyIter (Value.str _ _)) _ _ _) | (with_reducible show wpAny _ _ (exec (Stmt.While _ _ _ _) _) _ _ _))); (first | walk1 | (dsimp only; walk1) | (leave1; try dsimp only))))
    refine kst_end (_, _, vs', insB ns ((factor * k).fmod size), n') (by assumption) (by assumption) ?hn (fun p hp => List.Mem.tail _ (List.mem_append_right _ hp)) (by rfl) hI' (by kst_all) (by kst_same) ?hp
    case hn => exact fun p hp => (List.mem_cons.mp hp).elim (fun e => e ▸ List.Mem.head _) fun h => List.Mem.tail _ (List.mem_append_left _ h)
    case hp =>
      refine ⟨?_, ?_⟩
      · show _ = (pre ++ [k]).foldl _ _
        rw [List.foldl_append, show pre.foldl _ _ = turnedF factor size pre from rfl, ← hP]
        rfl
      · rw [insB_length, hL, List.length_append]; rfl
  case done =>
    clear lF lN lR
    rintro ⟨turned, tt, vs, ns, n⟩ u h tk hF ⟨hP, hL⟩ F1 N1
    dsimp only [kstB] at F1 N1 hF hP hL ⊢
    repeat' (first | (k_unfold; (try dsimp only)) | ((fail_if_success (first | (first | (with_reducible show KswEnd _ _ _ _ _ _ _ _ _ _ _ _) | (with_reducible show InvEndN _ _ _ _ _ _ _) | (with_reducible refine stop_mark ?h ?_; (case h => decide))) | (with_reducible show wpAny _ _ (pyIter (Value.ref _)) _ _ _) | (with_reducible show wpAny _ _ (pyIter (Value.str _ _)) _ _ _) | (with_reducible show wpAny _ _ (exec (Stmt.While _ _ _ _) _) _ _ _))); (first | walk1 | (dsimp only; walk1) | (leave1; try dsimp only))))
    rename _ ∧ AllLt _ news => l2
    rw [Int.sub_zero] at hP
    exact hret _ _ _ _ ⟨_, _, tt, vs, n, rfl, by rw [← hP]; exact hF, l2.1, l1, by rw [← hP]⟩ (by assumption) (by assumption)

section
variable {prog : Program} {w : World} {A : Around} {E : Value → Shared → Prop} {s : Shared} {env : Env} {h₀ : Heap} {x : Str} {body : List Stmt} {Q : Flow → Shared → Prop}
/-- a for over anything that walks, its target of any make: the turn stores the item itself -/
theorem forLoop_any {tgt : Expr} {I : Addr} {fp wr : List Addr} {n : Nat} {P : Nat → Value → Prop} {St : Nat → Heap → Prop} {m : Str → Option Value} {news : List (Addr × Obj)} (J : Nat → (Str → Option Value) → List (Addr × Obj) → Prop)
    (W : Walks prog w A I fp wr n P St) (hLf : env.locals ∉ fp) (hwr : ∀ b ∈ wr, h₀.get? b = none) (hfp : ∀ q ∈ news, q.1 ∉ fp) (hst : St 0 s.heap) (F : Fr h₀ env.locals s.heap m) (N : News h₀ env.locals s.heap news) (hj : J 0 m news)
    (ht : ∀ v, letOwnedTupleGo tgt (.ref I) v = pure ())
    (turn : ∀ i v m₁ news₁ h tk own, i < n → P i v → news₁.map (·.1) = news.map (·.1) → OwnOff own (news.map (·.1)) → J i m₁ news₁ → Fr h₀ env.locals h m₁ → News h₀ env.locals h (news₁ ++ own) →
      wpAny (model prog w) A (assign tgt env v) (fun _ s₂ => wpAny (model prog w) A (execs body env) (InvPostN h₀ env.locals (J (i + 1)) own (news.map (·.1)) { s with heap := h, toks := tk } Q) E s₂) E { s with heap := h, toks := tk })
    (done : ∀ m₁ news₁ h tk, J n m₁ news₁ → Fr h₀ env.locals h m₁ → News h₀ env.locals h news₁ → Q .next { s with heap := h, toks := tk })
    (hE : PassesOwn (model prog w) A env E) :
    codeAny (model prog w) A (.forLoop tgt (.ref I) body [] env) (fun r s' => match r with | .ok f => Q f s' | .error e => cameBackBy (model prog w) A env E e s') s := by
  have apart : ∀ nx : List (Addr × Obj), nx.map (·.1) = news.map (·.1) → ∀ p ∈ nx, p.1 ∉ fp := fun nx hm p hp => by
    have h1 := List.mem_map_of_mem (f := Prod.fst) hp
    rw [hm] at h1
    obtain ⟨q, hq, e⟩ := List.mem_map.mp h1
    exact e ▸ hfp q hq
  refine ktu_loop (KTurns.ofWalks W fun i v s₁ Q₁ E₁ _ hq => by rw [ht v]; exact wpAny_pure hq) hLf hwr (fun p hp hm => hfp p hp (W.sub _ hm)) hst F N (fun i m₁ nx => nx.map (·.1) = news.map (·.1) ∧ J i m₁ nx) ⟨rfl, hj⟩ ?_ fun h' tk m' nx F' N' _ hJ => done m' nx h' tk hJ.2 F' N'
  rintro i v m₁ nx h₁ tk₁ own hi hP ⟨hm, hJ⟩ _ hown _ _ _ F₁ N₁
  have hoff : OwnOff own (news.map (·.1)) := fun p hp b hb e => by
    obtain ⟨q, hq, rfl⟩ := List.mem_map.mp hb
    exact hfp q hq (e ▸ hown p hp)
  have T := turn i v m₁ nx h₁ tk₁ own hi hP hm hoff hJ F₁ (news_sub N₁ fun p hp => List.mem_append.mpr (List.mem_append.mp hp).symm)
  have fin : ∀ s₃, InvEndN h₀ env.locals (J (i + 1)) own (news.map (·.1)) { s with heap := h₁, toks := tk₁ } s₃ → LoopStepU h₀ env.locals wr own (fun m₁ nx => nx.map (·.1) = news.map (·.1) ∧ J (i + 1) m₁ nx) { s with heap := h₁, toks := tk₁ } .next s₃ := by
    rintro s₃ ⟨h₃, tk₃, m₃, all, nx₃, e, F₃, N₃, hn, ho, hm₃, hJ₃⟩
    exact ⟨rfl, h₃, tk₃, m₃, nx₃, e, F₃, news_sub N₃ fun p hp => (List.mem_append.mp hp).elim (ho p) (hn p), fun p hp hw => apart nx₃ hm₃ p hp (W.sub _ hw), hm₃, hJ₃⟩
  refine wpAny_passesOwn hE (wpAny_mono T (fun _ s₂ h₂ => wpAny_passesOwn hE (wpAny_mono h₂ (fun f s₃ h₃ => ?_) fun _ _ e => e)) fun _ _ e => e)
  match f, h₃ with
  | .ret v, h₃ => exact h₃
  | .brk, h₃ => exact h₃
  | .cont, h₃ => exact fin s₃ h₃
  | .next, h₃ => exact fin s₃ h₃
/-- the same over a range, in the make of kst_range; x: a name that the frame's facts leave open -/
theorem range_any {σ : Type} {tgt : Expr} {r : Addr} {a₀ b₀ : Int} {t₀ u₀ v₀ : Tok} {n : Nat} {m₀ : Str → Option Value} (Led : σ → List (Addr × Obj)) (ps : σ → List (Str × Value)) (Facts : σ → Prop) (stored : List Str) (P : List Int → σ → Prop) (c₀ : σ)
    (hh : A.handled = none) (hr : IsRange s.heap r a₀ b₀ 1 t₀ u₀ v₀) (hsmall : Builtin.Range.small a₀ b₀ 1 = true) (hn : Builtin.Range.rangeSize a₀ b₀ 1 = (n : Int)) (F : Fr h₀ env.locals s.heap m₀) (N : News h₀ env.locals s.heap (Led c₀)) (hf : Facts c₀) (hk : ∀ p ∈ ps c₀, m₀ p.1 = some p.2) (hp : P [] c₀)
    (ht : ∀ I v, letOwnedTupleGo tgt (.ref I) v = pure ())
    (turn : ∀ (c : σ) (pre : List Int) (k : Int) t (u : Str → Option Value) h tk own, k = a₀ + (pre.length : Int) → pre.length < n → OwnOff own ((Led c₀).map (·.1)) → (Led c).map (·.1) = (Led c₀).map (·.1) → Facts c → P pre c →
      Fr h₀ env.locals h (fun y => if y = x then u y else kstB (fun z => if stored.contains z then u z else m₀ z) (ps c) y) → News h₀ env.locals h (Led c ++ own) →
      wpAny (model prog w) A (assign tgt env (.int k t)) (fun _ s₂ => wpAny (model prog w) A (execs body env) (InvPostN h₀ env.locals (KstS Led ps Facts x stored m₀ P (pre ++ [k])) own ((Led c₀).map (·.1)) { s with heap := h, toks := tk } Q) E s₂) E { s with heap := h, toks := tk })
    (done : ∀ (c : σ) (u : Str → Option Value) h tk, Facts c → P (rangeKs a₀ n) c → Fr h₀ env.locals h (fun y => if y = x then u y else kstB (fun z => if stored.contains z then u z else m₀ z) (ps c) y) → News h₀ env.locals h (Led c) → Q .next { s with heap := h, toks := tk })
    (hE : PassesOwn (model prog w) A env E) :
    wpAny (model prog w) A (pyIter (.ref r)) (fun it s₂ => codeAny (model prog w) A (.forLoop tgt it body [] env) (fun r s' => match r with | .ok f => Q f s' | .error e => cameBackBy (model prog w) A env E e s') s₂) E s := by
  obtain ⟨z1, z2, z3⟩ := next_apart F N
  have R := (Walks.range (prog := prog) (w := w) hh s.heap.objs.size a₀ 1 n).bound
  have pick : ∀ i, i < n → (rangeKs a₀ n).take (i + 1) = (rangeKs a₀ n).take i ++ [a₀ + (i : Int) * 1] := fun i hi => by
    rw [List.take_add_one]
    congr 1
    simp [rangeKs, hi]
  refine wpAny_pyIter_range hr hsmall (forLoop_any (fun i m nx => KstS Led ps Facts x stored m₀ P ((rangeKs a₀ n).take i) m nx) R z1 z2 z3 (by show IsRangeIter _ _ _ _ _; rw [hn]; simpa using Heap.get?_push_size _ rfl) (F.push _) (fun p hp => ⟨Heap.get?_push_of_some _ (N p hp).1, (N p hp).2⟩) ⟨c₀, rfl, hf, hk, fun _ _ _ _ => rfl, by simpa using hp⟩ (ht _) ?_ ?_ hE)
  · rintro i v m₁ nx h tk own hi ⟨_, t, rfl⟩ hadr hoff ⟨c, rfl, hf', h1, h2, hp'⟩ F₁ N₁
    rw [pick i hi]
    have len : ((rangeKs a₀ n).take i).length = i := by rw [List.length_take, rangeKs_length, Nat.min_eq_left (Nat.le_of_lt hi)]
    exact turn c _ _ t m₁ h tk own (by rw [len, Int.mul_one]) (len.symm ▸ hi) hoff hadr hf' hp' (kst_frOut h1 h2 F₁) N₁
  · rintro m₁ nx h tk hJ F₁ N₁
    rw [List.take_of_length_le (Nat.le_of_eq (rangeKs_length a₀ n))] at hJ
    obtain ⟨c, rfl, hf', h1, h2, hp'⟩ := hJ
    exact done c m₁ h tk hf' hp' (kst_frOut h1 h2 F₁) N₁
end

def sqs (prime : Int) : List Int := (rangeKs 1 (prime - 1).toNat).map fun k => (k * k).fmod prime
def symW (upper prime : Int) : Nat → Int × Int → Int × Int
  | 0, st => st
  | f + 1, st => if st.1.fmod prime = 0 then symW upper prime f (st.1.fdiv prime, if ((sqs prime).any fun x => x == upper.fmod prime) = true then st.2 else 0 - st.2) else st
def symF (upper lower : Int) (ps : List Int) : Int × Int := ps.foldl (fun st p => symW upper p st.1.toNat st) (lower, 1)
def SymP (upper k : Int) (R : Int × Int) (left told : Int) : Prop := 0 < left ∧ left < 100 ∧ (told = 1 ∨ told = -1) ∧ ∃ f, left.toNat ≤ f ∧ symW upper k f (left, told) = R
theorem sym_div {left k : Int} (h0 : 0 < left) (hk : 2 ≤ k) (hm : left.fmod k = 0) : 0 < left.fdiv k ∧ left.fdiv k < left := by
  rw [Int.fdiv_eq_ediv_of_nonneg _ (by omega)]
  rw [Int.fmod_eq_emod_of_nonneg _ (by omega)] at hm
  have h1 := Int.mul_ediv_add_emod left k
  rw [hm, Int.add_zero] at h1
  generalize left / k = q at h1
  have h2 : 0 < q := by
    rcases Int.lt_or_le 0 q with h | h
    · exact h
    · have := Int.mul_le_mul_of_nonneg_left h (show (0 : Int) ≤ k by omega)
      omega
  have h3 := Int.mul_le_mul_of_nonneg_right hk (Int.le_of_lt h2)
  omega
theorem sym_less {left k : Int} (h0 : 0 < left) (hk : 2 ≤ k) (hm : left.fmod k = 0) : (left.fdiv k).toNat < left.toNat := by
  have := sym_div h0 hk hm
  omega
theorem SymP.yes {upper k : Int} {R : Int × Int} {left told : Int} (h : SymP upper k R left told) (hk : 2 ≤ k) (hm : left.fmod k = 0) (ha : ((sqs k).any fun x => x == upper.fmod k) = true) : SymP upper k R (left.fdiv k) told := by
  obtain ⟨h0, h1, ht, f, hf, hb⟩ := h
  have hd := sym_div h0 hk hm
  cases f with
  | zero => exfalso; omega
  | succ f =>
    rw [symW, if_pos hm, if_pos ha] at hb
    exact ⟨hd.1, by omega, ht, f, by omega, hb⟩
theorem SymP.no {upper k : Int} {R : Int × Int} {left told : Int} (h : SymP upper k R left told) (hk : 2 ≤ k) (hm : left.fmod k = 0) (ha : ((sqs k).any fun x => x == upper.fmod k) = false) : SymP upper k R (left.fdiv k) (0 - told) := by
  obtain ⟨h0, h1, ht, f, hf, hb⟩ := h
  have hd := sym_div h0 hk hm
  cases f with
  | zero => exfalso; omega
  | succ f =>
    rw [symW, if_pos hm, if_neg (by rw [ha]; exact Bool.false_ne_true)] at hb
    exact ⟨hd.1, by omega, by omega, f, by omega, hb⟩
theorem SymP.out {upper k : Int} {R : Int × Int} {left told : Int} (h : SymP upper k R left told) (hm : ¬ left.fmod k = 0) : R = (left, told) := by
  obtain ⟨h0, h1, ht, f, hf, hb⟩ := h
  cases f with
  | zero => exact hb.symm
  | succ f => rw [symW, if_neg hm] at hb; exact hb.symm
set_option maxHeartbeats 1000000 in
theorem symbol_spec {prog : Program} {w : World} {mean : ExcName → Option Value} {mg mb : Str → Option Value} {upper lower : Int} {t t2 : Tok} {news : List (Addr × Obj)} (hf1 : 0 < upper) (hf2 : upper < 100) (hs1 : 0 < lower) (hs2 : lower < 100) :
   Spec prog w mean mg mb 40 200 164 [.int upper t, .int lower t2] news (fun r led' => (∃ t', r = .int (symF upper lower (rangeKs 2 (lower - 1).toNat)).2 t') ∧ led' = news) := by
  intro dp un gd cn cs a ccd cl outer A₀ base h₀ L m s Q E B F X N T hk hd hu hret
  refine wpAny_call ?_
  w_on
  k_dflt (refine' code_defC (binds := [(Str.ofString "upper", .int upper t), (Str.ofString "lower", .int lower t2)]) ?k1 ?k2 ?k3 ?k4 ?k5 ?kA ?kF ?kK ?k6 ?k7 ?k8 ?k9 ?kB ?kD ?_ ?c2 ?c3 ?c4; (case kA => exact rfl); (case kF => exact rfl); (case kK => first | exact rfl | assumption); (case k1 => k_asm); (case k2 => k_asm); (case k3 => k_asm); (case k4 => k_asm); (case k5 => k_asm); (case k6 => k_is); (case k7 => k_is); (case k8 => ktr_room); (case k9 => exact BindsTo.of_eq rfl); (case kB => exact rfl); (case kD => decide +kernel); (case c2 => exact rfl); (case c3 => exact rfl); (case c4 => exact rfl); k_whole; intro g' L' h' tk' cells' FG' F' N' Y' B' X' T' l1; (try k_lt l1); k_cells Y'; (try simp only [List.cons_append, List.nil_append] at N'); (try dsimp only); (try k_fold))
  repeat' (first | (k_unfold; (try dsimp only)) | ((fail_if_success (first | (first | (with_reducible show KswEnd _ _ _ _ _ _ _ _ _ _ _ _) | (with_reducible show InvEndN _ _ _ _ _ _ _) | (with_reducible refine stop_mark ?h ?_; (case h => decide))) | (with_reducible show wpAny _ _ (pyIter (Value.ref _)) _ _ _) | (with_reducible show wpAny _ _ (pyIter (Value.str _ _)) _ _ _) | (with_reducible show wpAny _ _ (exec (Stmt.While _ _ _ _) _) _ _ _))); (first | walk1 | (dsimp only; walk1) | (leave1; try dsimp only))))
  rename PySem.Obj.data _ = _ => d1
  refine wpAny_For ?_ (by intro _; rfl)
  try k_fold
  repeat' (first | (k_unfold; (try dsimp only)) | ((fail_if_success (first | (first | (with_reducible show KswEnd _ _ _ _ _ _ _ _ _ _ _ _) | (with_reducible show InvEndN _ _ _ _ _ _ _) | (with_reducible refine stop_mark ?h ?_; (case h => decide))) | (with_reducible show wpAny _ _ (pyIter (Value.ref _)) _ _ _) | (with_reducible show wpAny _ _ (pyIter (Value.str _ _)) _ _ _) | (with_reducible show wpAny _ _ (exec (Stmt.While _ _ _ _) _) _ _ _))); (first | walk1 | (dsimp only; walk1) | (leave1; try dsimp only))))
  rename Fr _ _ _ _ => lF
  rename News _ _ _ _ => lN
  rename IsRange _ _ _ _ _ _ _ _ => lR
  refine' range_any (x := Str.ofString "prime") (σ := Obj × Int × Tok × Int × Tok) (fun c => (L' + 1, c.1) :: news) (fun c => [(Str.ofString "left", Value.int c.2.1 c.2.2.1), (Str.ofString "told", Value.int c.2.2.2.1 c.2.2.2.2)]) (fun c => ∃ v, c.1.data = .cell v) []
    (fun pre c => (c.2.1, c.2.2.2.1) = symF upper lower pre ∧ 0 < c.2.1 ∧ c.2.1 < 100 ∧ (c.2.2.2.1 = 1 ∨ c.2.2.2.1 = -1)) (_, lower, ?t1, 1, ?t2) (by rfl) lR (small_one (by omega) (by omega) (by omega) (by omega)) (rangeSize_nat _ _) lF lN ⟨_, d1⟩ ?hk ⟨rfl, hs1, hs2, .inl rfl⟩ (fun _ _ => rfl) ?turn ?done (by passes_own)
  case hk => kst_all
  case turn =>
    clear lF lN lR d1
    rintro ⟨o, left, tl, told, tt⟩ pre k t3 u h tk own hk3 hlt hoff hmap ⟨v0, hF⟩ ⟨hP, hl1, hl2, ht⟩ F1 N1
    dsimp only [kstB, List.cons_append] at F1 N1 hF hP hl1 hl2 ht ⊢
    have hne : ∀ p ∈ news ++ own, p.1 ≠ L' + 1 := List.forall_mem_append.mpr ⟨fun p hp => Nat.ne_of_lt (Nat.lt_succ_of_lt (l1 p hp)), fun p hp => hoff p hp _ (List.Mem.head _)⟩
    refine wpAny_assign_Name ?_
    try k_fold
    repeat' (first | (k_unfold; (try dsimp only)) | ((fail_if_success (first | (first | (with_reducible show KswEnd _ _ _ _ _ _ _ _ _ _ _ _) | (with_reducible show InvEndN _ _ _ _ _ _ _) | (with_reducible refine stop_mark ?h ?_; (case h => decide))) | (with_reducible show wpAny _ _ (pyIter (Value.ref _)) _ _ _) | (with_reducible show wpAny _ _ (pyIter (Value.str _ _)) _ _ _) | (with_reducible show wpAny _ _ (exec (Stmt.While _ _ _ _) _) _ _ _))); (first | walk1 | (dsimp only; walk1) | (leave1; try dsimp only))))
    have hk2 : 2 ≤ k := by omega
    have hk100 : k < 100 := by omega
    rename Fr _ _ _ _ => lF
    rename News _ _ _ _ => lN
    rename PySem.Obj.data _ = PySem.Data.cell (some _) => d1
    clear F1 N1
    refine' ksw_while (σ := Int × Tok × Int × Tok) (fun _ => (L' + 1, _) :: (news ++ own)) (fun c => [(Str.ofString "left", Value.int c.1 c.2.1), (Str.ofString "told", Value.int c.2.2.1 c.2.2.2)]) (fun _ => True) []
      (fun c => SymP upper k (symW upper k left.toNat (left, told)) c.1 c.2.2.1) (fun c => c.1.toNat) (left, tl, told, tt) lF lN trivial ?hk2 ⟨hl1, hl2, ht, left.toNat, Nat.le_refl _, rfl⟩ ?turn2
    case hk2 => kst_all
    clear lF lN
    rintro ⟨left2, tl2, told2, tt2⟩ u2 h2 tk2 _ hW F2 N2
    dsimp only [kstB] at F2 N2 hW ⊢
    have hw1 := hW.1
    have hw2 := hW.2.1
    have hwt := hW.2.2.1
    try k_fold
    repeat' (first | (k_unfold; (try dsimp only)) | ((fail_if_success (first | (first | (with_reducible show KswEnd _ _ _ _ _ _ _ _ _ _ _ _) | (with_reducible show InvEndN _ _ _ _ _ _ _) | (with_reducible refine stop_mark ?h ?_; (case h => decide))) | (with_reducible show wpAny _ _ (pyIter (Value.ref _)) _ _ _) | (with_reducible show wpAny _ _ (pyIter (Value.str _ _)) _ _ _) | (with_reducible show wpAny _ _ (exec (Stmt.While _ _ _ _) _) _ _ _))); (first | walk1 | (dsimp only; walk1) | (leave1; try dsimp only))))
    · rename Int.fmod left2 k = 0 => hm
      rename List.any _ _ = true => ha
      refine ksw_end (_, _, told2, _) (by assumption) (by assumption) (fun p hp => List.Mem.tail _ hp) trivial (by kst_all) (by ksw_same) (hW.yes hk2 hm ha) (sym_less hw1 hk2 hm)
    · rename Int.fmod left2 k = 0 => hm
      rename List.any _ _ = false => ha
      refine ksw_end (_, _, _, _) (by assumption) (by assumption) (fun p hp => List.Mem.tail _ hp) trivial (by kst_all) (by ksw_same) (hW.no hk2 hm ha) (sym_less hw1 hk2 hm)
    · rename ¬ Int.fmod left2 k = 0 => hm
      have hR := hW.out hm
      refine kst_end (_, left2, _, told2, _) (by assumption) (by assumption) ?hn (fun p hp => List.Mem.tail _ (List.mem_append_right _ hp)) (by rfl) ⟨_, d1⟩ (by kst_all) (by kst_same) ?hp
      case hn => exact fun p hp => (List.mem_cons.mp hp).elim (fun e => e ▸ List.Mem.head _) fun h => List.Mem.tail _ (List.mem_append_left _ h)
      case hp =>
        refine ⟨?_, hw1, hw2, hwt⟩
        show _ = (pre ++ [k]).foldl _ _
        rw [List.foldl_append, show pre.foldl _ _ = symF upper lower pre from rfl, ← hP]
        exact hR.symm
  case done =>
    clear lF lN lR
    rintro ⟨o, left, tl, told, tt⟩ u h tk hF ⟨hP, hL⟩ F1 N1
    dsimp only [kstB] at F1 N1 hF hP hL ⊢
    repeat' (first | (k_unfold; (try dsimp only)) | ((fail_if_success (first | (first | (with_reducible show KswEnd _ _ _ _ _ _ _ _ _ _ _ _) | (with_reducible show InvEndN _ _ _ _ _ _ _) | (with_reducible refine stop_mark ?h ?_; (case h => decide))) | (with_reducible show wpAny _ _ (pyIter (Value.ref _)) _ _ _) | (with_reducible show wpAny _ _ (pyIter (Value.str _ _)) _ _ _) | (with_reducible show wpAny _ _ (exec (Stmt.While _ _ _ _) _) _ _ _))); (first | walk1 | (dsimp only; walk1) | (leave1; try dsimp only))))
    have e : lower + 1 - 2 = lower - 1 := by omega
    rw [e] at hP
    exact hret _ _ _ _ ⟨⟨tt, by rw [← hP]⟩, rfl⟩ (by assumption) (news_sub (by assumption) fun p hp => List.Mem.tail _ hp)

section
variable {prog : Program} {w : World} {A : Around} {E : Value → Shared → Prop} {s : Shared}
abbrev tupOf (x y : Int) (t u : Tok) (n : Nat) : Obj := { cls := .type "tuple", data := .seq #[.int x t, .int y u] n }
theorem tuple_lt_tree {a b : Addr} {na nb : Nat} {xa ya xb yb : Int} {ta ua tb ub : Tok} {P : Fin → Shared → Prop} {E' : Value → Shared → Prop} (hoa : s.heap.get? a = some (tupOf xa ya ta ua na)) (hob : s.heap.get? b = some (tupOf xb yb tb ub nb))
    (h : P (.done (.ret (.bool (decide (xa < xb ∨ (xa = xb ∧ ya < yb)))))) s) : wpAny (model prog w) A (Builtin.«tuple.__lt__» ⟨[.ref a, .ref b], []⟩) P E' s := by
  have hTb : s.TypeIs (.ref b) "tuple" := ⟨_, hob, rfl⟩
  show wpAny _ _ (isInstance (.ref b) (.type "tuple") >>= _) _ _ s
  refine wpAny_bind (wpAny_isInstance hTb isSubtype_tuple_tuple ?_)
  simp only [Bool.not_true, Bool.false_eq_true, if_false]
  refine wpAny_bind (wpAny_tupleItemsOf hoa rfl ?_)
  refine wpAny_bind (wpAny_tupleItemsOf hob rfl ?_)
  refine wpAny_bind ?_
  show wpAny _ _ (forIn [(Value.int xa ta, Value.int xb tb), (Value.int ya ua, Value.int yb ub)] _ _) _ _ s
  rw [List.forIn_cons]
  refine wpAny_bind (wpAny_bind (wpAny_eqBool_int ?_))
  by_cases hx : xa = xb
  · subst hx
    simp only [beq_self_eq_true, Bool.not_true, Bool.false_eq_true, if_false]
    refine wpAny_pure ?_
    dsimp only
    rw [List.forIn_cons]
    refine wpAny_bind (wpAny_bind (wpAny_eqBool_int ?_))
    by_cases hy : ya = yb
    · subst hy
      simp only [beq_self_eq_true, Bool.not_true, Bool.false_eq_true, if_false]
      refine wpAny_pure ?_
      dsimp only
      rw [List.forIn_nil]
      refine wpAny_pure ?_
      dsimp only
      refine wpAny_pure ?_
      have e : decide (xa < xa ∨ xa = xa ∧ ya < ya) = false := by simp
      rw [e] at h
      exact h
    · have hb : (ya == yb) = false := by simpa using hy
      simp only [hb, Bool.not_false, if_true]
      refine wpAny_bind (wpAny_rule (wpAny_bind (show wpAny _ _ (compareOp .Lt (.int ya ua) (.int yb ub)) _ _ s from lt_int ?_)))
      refine wpAny_bind (wpAny_pure (wpAny_pure ?_))
      dsimp only
      refine wpAny_pure ?_
      have e : decide (xa < xa ∨ xa = xa ∧ ya < yb) = decide (ya < yb) := by simp
      rw [e] at h
      exact wpAny_pure h
  · have hb : (xa == xb) = false := by simpa using hx
    simp only [hb, Bool.not_false, if_true]
    refine wpAny_bind (wpAny_rule (wpAny_bind (show wpAny _ _ (compareOp .Lt (.int xa ta) (.int xb tb)) _ _ s from lt_int ?_)))
    refine wpAny_bind (wpAny_pure (wpAny_pure ?_))
    dsimp only
    refine wpAny_pure ?_
    have e : decide (xa < xb ∨ xa = xb ∧ ya < yb) = decide (xa < xb) := by simp [hx]
    rw [e] at h
    exact wpAny_pure h
theorem tuple_lt {a b : Addr} {na nb : Nat} {xa ya xb yb : Int} {ta ua tb ub : Tok} {Q : Value → Shared → Prop} (hoa : s.heap.get? a = some (tupOf xa ya ta ua na)) (hob : s.heap.get? b = some (tupOf xb yb tb ub nb)) (hu : A.units < cLine)
    (h : Q (.bool (decide (xa < xb ∨ (xa = xb ∧ ya < yb)))) s) : wpAny (model prog w) A (compareOp .Lt (.ref a) (.ref b)) Q E s :=
  wpAny_richCompare_same_room (op := .Lt) (T := "tuple") ⟨_, hoa, rfl⟩ ⟨_, hob, rfl⟩ F.slot_tuple_lt
      (wpAny_call_entry F.slot_tuple_lt ⟨_, hoa, rfl⟩ F.entry_tuple_lt (tuple_lt_tree hoa hob ⟨_, rfl, (fun e => nomatch e), h⟩) (F.args_tuple_lt_2 _ _)) hu
end

set_option linter.unusedVariables false
set_option maxHeartbeats 1000000 in
theorem siftdown1_spec {prog : Program} {w : World} {mean : ExcName → Option Value} {mg mb : Str → Option Value} {l : Addr} {n : Nat} {news : List (Addr × Obj)} {a : Addr} {na : Nat} {xa ya : Int} {ta ua : Tok} {b : Addr} {nb : Nat} {xb yb : Int} {tb ub : Tok} {t0 : Tok} {t1 : Tok} (hn : ∀ p ∈ news, p.1 ≠ l) (ha : (a, tupOf xa ya ta ua na) ∈ news) (hb : (b, tupOf xb yb tb ub nb) ∈ news) :
   Spec prog w mean mg mb 10 50 67 [.ref l, .int 0 t0, .int 1 t1] ((l, listOf #[.ref b, .ref a] n) :: news) (fun r led' => r = .none ∧ led' = (l, listOf (if xa < xb ∨ (xa = xb ∧ ya < yb) then #[.ref a, .ref b] else #[.ref b, .ref a]) n) :: news) := by
  intro dp un gd cn cs a' ccd cl outer A₀ base h₀ L m s Q E B F X N T hk hd hu hret
  refine wpAny_call ?_
  w_on
  k_dflt (refine' code_def (binds := [(Str.ofString "heap", .ref l), (Str.ofString "startpos", .int 0 t0), (Str.ofString "pos", .int 1 t1)]) ?k1 ?k2 ?k3 ?k4 ?k5 ?kA ?kF ?kK ?k6 ?k7 ?k8 ?k9 ?kB ?_ ?c2 ?c3 ?c4 ?c5; (case kA => exact rfl); (case kF => exact rfl); (case kK => first | exact rfl | assumption); (case k1 => k_asm); (case k2 => k_asm); (case k3 => k_asm); (case k4 => k_asm); (case k5 => k_asm); (case k6 => k_is); (case k7 => k_is); (case k8 => ktr_room); (case k9 => first | exact BindsTo.of_eq rfl | exact kp_binds (by k_in) (fun _ => by with_unfolding_all rfl) | exact hb _ _ _ _ _ (by k_in) (by rfl) | fail "enter: no rule for these arguments"); (case c5 => decide); (case kB => exact locs rfl); (case c2 => exact rfl); (case c3 => exact rfl); (case c4 => exact rfl); k_whole; intro g' L' h1' FG' F' N' B' X' T'; (try dsimp only [List.reverse_cons, List.reverse_nil, List.nil_append, List.cons_append, List.length_cons, List.length_nil] at F'); (try dsimp only); (try k_fold))
  repeat' (first | (k_unfold; (try dsimp only)) | ((fail_if_success (first | (with_reducible show KswEnd _ _ _ _ _ _ _ _ _ _ _ _) | (with_reducible show InvEndN _ _ _ _ _ _ _) | (with_reducible refine stop_mark ?h ?_; (case h => decide)))); (first | walk1 | (dsimp only; walk1) | (leave1; try dsimp only))))
  rename News _ _ _ _ => lN
  refine tuple_lt (lN.get (List.Mem.tail _ ha)) (lN.get (List.Mem.tail _ hb)) (by ktr_units) ?_
  repeat' (first | (k_unfold; (try dsimp only)) | ((fail_if_success (first | (with_reducible show KswEnd _ _ _ _ _ _ _ _ _ _ _ _) | (with_reducible show InvEndN _ _ _ _ _ _ _) | (with_reducible refine stop_mark ?h ?_; (case h => decide)))); (first | walk1 | (dsimp only; walk1) | (leave1; try dsimp only))))
  · rename _ ∨ _ => hlow
    exact hret _ _ _ _ ⟨rfl, by rw [if_pos hlow]⟩ (by assumption) (by assumption)
  · rename ¬ (_ ∨ _) => hlow
    exact hret _ _ _ _ ⟨rfl, by rw [if_neg hlow]⟩ (by assumption) (by assumption)
set_option maxHeartbeats 1000000 in
theorem siftdown0_spec {prog : Program} {w : World} {mean : ExcName → Option Value} {mg mb : Str → Option Value} {l : Addr} {n : Nat} {news : List (Addr × Obj)} {a : Addr} {na : Nat} {xa ya : Int} {ta ua : Tok} {t0 : Tok} {t1 : Tok} (hn : ∀ p ∈ news, p.1 ≠ l) (ha : (a, tupOf xa ya ta ua na) ∈ news) :
   Spec prog w mean mg mb 10 50 67 [.ref l, .int 0 t0, .int 0 t1] ((l, listOf #[.ref a] n) :: news) (fun r led' => r = .none ∧ led' = (l, listOf #[.ref a] n) :: news) := by
  intro dp un gd cn cs a' ccd cl outer A₀ base h₀ L m s Q E B F X N T hk hd hu hret
  refine wpAny_call ?_
  w_on
  k_dflt (refine' code_def (binds := [(Str.ofString "heap", .ref l), (Str.ofString "startpos", .int 0 t0), (Str.ofString "pos", .int 0 t1)]) ?k1 ?k2 ?k3 ?k4 ?k5 ?kA ?kF ?kK ?k6 ?k7 ?k8 ?k9 ?kB ?_ ?c2 ?c3 ?c4 ?c5; (case kA => exact rfl); (case kF => exact rfl); (case kK => first | exact rfl | assumption); (case k1 => k_asm); (case k2 => k_asm); (case k3 => k_asm); (case k4 => k_asm); (case k5 => k_asm); (case k6 => k_is); (case k7 => k_is); (case k8 => ktr_room); (case k9 => first | exact BindsTo.of_eq rfl | exact kp_binds (by k_in) (fun _ => by with_unfolding_all rfl) | exact hb _ _ _ _ _ (by k_in) (by rfl) | fail "enter: no rule for these arguments"); (case c5 => decide); (case kB => exact locs rfl); (case c2 => exact rfl); (case c3 => exact rfl); (case c4 => exact rfl); k_whole; intro g' L' h1' FG' F' N' B' X' T'; (try dsimp only [List.reverse_cons, List.reverse_nil, List.nil_append, List.cons_append, List.length_cons, List.length_nil] at F'); (try dsimp only); (try k_fold))
  repeat' (first | (k_unfold; (try dsimp only)) | ((fail_if_success (first | (with_reducible show KswEnd _ _ _ _ _ _ _ _ _ _ _ _) | (with_reducible show InvEndN _ _ _ _ _ _ _) | (with_reducible refine stop_mark ?h ?_; (case h => decide)))); (first | walk1 | (dsimp only; walk1) | (leave1; try dsimp only))))
  exact hret _ _ _ _ ⟨rfl, rfl⟩ (by assumption) (by assumption)
set_option maxHeartbeats 1000000 in
theorem siftup2_spec {prog : Program} {w : World} {mean : ExcName → Option Value} {mg mb : Str → Option Value} {l : Addr} {n : Nat} {news : List (Addr × Obj)} {a : Addr} {na : Nat} {xa ya : Int} {ta ua : Tok} {b : Addr} {nb : Nat} {xb yb : Int} {tb ub : Tok} {t0 : Tok} (hn : ∀ p ∈ news, p.1 ≠ l) (ha : (a, tupOf xa ya ta ua na) ∈ news) (hb : (b, tupOf xb yb tb ub nb) ∈ news) :
   Spec prog w mean mg mb 20 100 74 [.ref l, .int 0 t0] ((l, listOf #[.ref a, .ref b] n) :: news) (fun r led' => r = .none ∧ led' = (l, listOf (if xa < xb ∨ (xa = xb ∧ ya < yb) then #[.ref a, .ref b] else #[.ref b, .ref a]) n) :: news) := by
  intro dp un gd cn cs a' ccd cl outer A₀ base h₀ L m s Q E B F X N T hk hd hu hret
  refine wpAny_call ?_
  w_on
  k_dflt (refine' code_def (binds := [(Str.ofString "heap", .ref l), (Str.ofString "pos", .int 0 t0)]) ?k1 ?k2 ?k3 ?k4 ?k5 ?kA ?kF ?kK ?k6 ?k7 ?k8 ?k9 ?kB ?_ ?c2 ?c3 ?c4 ?c5; (case kA => exact rfl); (case kF => exact rfl); (case kK => first | exact rfl | assumption); (case k1 => k_asm); (case k2 => k_asm); (case k3 => k_asm); (case k4 => k_asm); (case k5 => k_asm); (case k6 => k_is); (case k7 => k_is); (case k8 => ktr_room); (case k9 => first | exact BindsTo.of_eq rfl | exact kp_binds (by k_in) (fun _ => by with_unfolding_all rfl) | exact hb _ _ _ _ _ (by k_in) (by rfl) | fail "enter: no rule for these arguments"); (case c5 => decide); (case kB => exact locs rfl); (case c2 => exact rfl); (case c3 => exact rfl); (case c4 => exact rfl); k_whole; intro g' L' h1' FG' F' N' B' X' T'; (try dsimp only [List.reverse_cons, List.reverse_nil, List.nil_append, List.cons_append, List.length_cons, List.length_nil] at F'); (try dsimp only); (try k_fold))
  repeat' (first | (k_unfold; (try dsimp only)) | ((fail_if_success (first | (with_reducible show KswEnd _ _ _ _ _ _ _ _ _ _ _ _) | (with_reducible show InvEndN _ _ _ _ _ _ _) | (with_reducible refine stop_mark ?h ?_; (case h => decide)))); (first | walk1 | (dsimp only; walk1) | (leave1; try dsimp only))))
  (k_dflt (refine Spec.use (siftdown1_spec hn ha hb) (by k_asm) (by k_asm) (by k_asm) (by first | k_asm | (refine news_sub (by k_asm) ?_; simp only [List.forall_mem_cons]; simp)) (by k_asm) (by first | exact rfl | assumption) (by ktr_room) (by ktr_units) ?_))
  rintro r led' h2 tk2 ⟨rfl, rfl⟩ F2 N2
  repeat' (first | (k_unfold; (try dsimp only)) | ((fail_if_success (first | (with_reducible show KswEnd _ _ _ _ _ _ _ _ _ _ _ _) | (with_reducible show InvEndN _ _ _ _ _ _ _) | (with_reducible refine stop_mark ?h ?_; (case h => decide)))); (first | walk1 | (dsimp only; walk1) | (leave1; try dsimp only))))
  exact hret _ _ _ _ ⟨rfl, rfl⟩ (by assumption) (by assumption)
set_option maxHeartbeats 1000000 in
theorem siftup1_spec {prog : Program} {w : World} {mean : ExcName → Option Value} {mg mb : Str → Option Value} {l : Addr} {n : Nat} {news : List (Addr × Obj)} {a : Addr} {na : Nat} {xa ya : Int} {ta ua : Tok} {t0 : Tok} (hn : ∀ p ∈ news, p.1 ≠ l) (ha : (a, tupOf xa ya ta ua na) ∈ news) :
   Spec prog w mean mg mb 20 100 74 [.ref l, .int 0 t0] ((l, listOf #[.ref a] n) :: news) (fun r led' => r = .none ∧ led' = (l, listOf #[.ref a] n) :: news) := by
  intro dp un gd cn cs a' ccd cl outer A₀ base h₀ L m s Q E B F X N T hk hd hu hret
  refine wpAny_call ?_
  w_on
  k_dflt (refine' code_def (binds := [(Str.ofString "heap", .ref l), (Str.ofString "pos", .int 0 t0)]) ?k1 ?k2 ?k3 ?k4 ?k5 ?kA ?kF ?kK ?k6 ?k7 ?k8 ?k9 ?kB ?_ ?c2 ?c3 ?c4 ?c5; (case kA => exact rfl); (case kF => exact rfl); (case kK => first | exact rfl | assumption); (case k1 => k_asm); (case k2 => k_asm); (case k3 => k_asm); (case k4 => k_asm); (case k5 => k_asm); (case k6 => k_is); (case k7 => k_is); (case k8 => ktr_room); (case k9 => first | exact BindsTo.of_eq rfl | exact kp_binds (by k_in) (fun _ => by with_unfolding_all rfl) | exact hb _ _ _ _ _ (by k_in) (by rfl) | fail "enter: no rule for these arguments"); (case c5 => decide); (case kB => exact locs rfl); (case c2 => exact rfl); (case c3 => exact rfl); (case c4 => exact rfl); k_whole; intro g' L' h1' FG' F' N' B' X' T'; (try dsimp only [List.reverse_cons, List.reverse_nil, List.nil_append, List.cons_append, List.length_cons, List.length_nil] at F'); (try dsimp only); (try k_fold))
  repeat' (first | (k_unfold; (try dsimp only)) | ((fail_if_success (first | (with_reducible show KswEnd _ _ _ _ _ _ _ _ _ _ _ _) | (with_reducible show InvEndN _ _ _ _ _ _ _) | (with_reducible refine stop_mark ?h ?_; (case h => decide)))); (first | walk1 | (dsimp only; walk1) | (leave1; try dsimp only))))
  (k_dflt (refine Spec.use (siftdown0_spec hn ha) (by k_asm) (by k_asm) (by k_asm) (by first | k_asm | (refine news_sub (by k_asm) ?_; simp only [List.forall_mem_cons]; simp)) (by k_asm) (by first | exact rfl | assumption) (by ktr_room) (by ktr_units) ?_))
  rintro r led' h2 tk2 ⟨rfl, rfl⟩ F2 N2
  repeat' (first | (k_unfold; (try dsimp only)) | ((fail_if_success (first | (with_reducible show KswEnd _ _ _ _ _ _ _ _ _ _ _ _) | (with_reducible show InvEndN _ _ _ _ _ _ _) | (with_reducible refine stop_mark ?h ?_; (case h => decide)))); (first | walk1 | (dsimp only; walk1) | (leave1; try dsimp only))))
  exact hret _ _ _ _ ⟨rfl, rfl⟩ (by assumption) (by assumption)
set_option maxHeartbeats 1000000 in
theorem replace2_spec {prog : Program} {w : World} {mean : ExcName → Option Value} {mg mb : Str → Option Value} {l : Addr} {n : Nat} {news : List (Addr × Obj)} {a : Addr} {na : Nat} {xa ya : Int} {ta ua : Tok} {b : Addr} {nb : Nat} {xb yb : Int} {tb ub : Tok} {c : Addr} {nc : Nat} {xc yc : Int} {tc uc : Tok} (hn : ∀ p ∈ news, p.1 ≠ l) (ha : (a, tupOf xa ya ta ua na) ∈ news) (hb : (b, tupOf xb yb tb ub nb) ∈ news) (hc : (c, tupOf xc yc tc uc nc) ∈ news) :
   Spec prog w mean mg mb 30 150 53 [.ref l, .ref c] ((l, listOf #[.ref a, .ref b] n) :: news) (fun r led' => r = .ref a ∧ led' = (l, listOf (if xc < xb ∨ (xc = xb ∧ yc < yb) then #[.ref c, .ref b] else #[.ref b, .ref c]) n) :: news) := by
  intro dp un gd cn cs a' ccd cl outer A₀ base h₀ L m s Q E B F X N T hk hd hu hret
  refine wpAny_call ?_
  w_on
  k_dflt (refine' code_def (binds := [(Str.ofString "heap", .ref l), (Str.ofString "item", .ref c)]) ?k1 ?k2 ?k3 ?k4 ?k5 ?kA ?kF ?kK ?k6 ?k7 ?k8 ?k9 ?kB ?_ ?c2 ?c3 ?c4 ?c5; (case kA => exact rfl); (case kF => exact rfl); (case kK => first | exact rfl | assumption); (case k1 => k_asm); (case k2 => k_asm); (case k3 => k_asm); (case k4 => k_asm); (case k5 => k_asm); (case k6 => k_is); (case k7 => k_is); (case k8 => ktr_room); (case k9 => first | exact BindsTo.of_eq rfl | exact kp_binds (by k_in) (fun _ => by with_unfolding_all rfl) | exact hb _ _ _ _ _ (by k_in) (by rfl) | fail "enter: no rule for these arguments"); (case c5 => decide); (case kB => exact locs rfl); (case c2 => exact rfl); (case c3 => exact rfl); (case c4 => exact rfl); k_whole; intro g' L' h1' FG' F' N' B' X' T'; (try dsimp only [List.reverse_cons, List.reverse_nil, List.nil_append, List.cons_append, List.length_cons, List.length_nil] at F'); (try dsimp only); (try k_fold))
  repeat' (first | (k_unfold; (try dsimp only)) | ((fail_if_success (first | (with_reducible show KswEnd _ _ _ _ _ _ _ _ _ _ _ _) | (with_reducible show InvEndN _ _ _ _ _ _ _) | (with_reducible refine stop_mark ?h ?_; (case h => decide)))); (first | walk1 | (dsimp only; walk1) | (leave1; try dsimp only))))
  (k_dflt (refine Spec.use (siftup2_spec hn hc hb) (by k_asm) (by k_asm) (by k_asm) (by first | k_asm | (refine news_sub (by k_asm) ?_; simp only [List.forall_mem_cons]; simp)) (by k_asm) (by first | exact rfl | assumption) (by ktr_room) (by ktr_units) ?_))
  rintro r led' h2 tk2 ⟨rfl, rfl⟩ F2 N2
  repeat' (first | (k_unfold; (try dsimp only)) | ((fail_if_success (first | (with_reducible show KswEnd _ _ _ _ _ _ _ _ _ _ _ _) | (with_reducible show InvEndN _ _ _ _ _ _ _) | (with_reducible refine stop_mark ?h ?_; (case h => decide)))); (first | walk1 | (dsimp only; walk1) | (leave1; try dsimp only))))
  exact hret _ _ _ _ ⟨rfl, rfl⟩ (by assumption) (by assumption)
set_option maxHeartbeats 1000000 in
theorem replace1_spec {prog : Program} {w : World} {mean : ExcName → Option Value} {mg mb : Str → Option Value} {l : Addr} {n : Nat} {news : List (Addr × Obj)} {a : Addr} {na : Nat} {xa ya : Int} {ta ua : Tok} {c : Addr} {nc : Nat} {xc yc : Int} {tc uc : Tok} (hn : ∀ p ∈ news, p.1 ≠ l) (ha : (a, tupOf xa ya ta ua na) ∈ news) (hc : (c, tupOf xc yc tc uc nc) ∈ news) :
   Spec prog w mean mg mb 30 150 53 [.ref l, .ref c] ((l, listOf #[.ref a] n) :: news) (fun r led' => r = .ref a ∧ led' = (l, listOf #[.ref c] n) :: news) := by
  intro dp un gd cn cs a' ccd cl outer A₀ base h₀ L m s Q E B F X N T hk hd hu hret
  refine wpAny_call ?_
  w_on
  k_dflt (refine' code_def (binds := [(Str.ofString "heap", .ref l), (Str.ofString "item", .ref c)]) ?k1 ?k2 ?k3 ?k4 ?k5 ?kA ?kF ?kK ?k6 ?k7 ?k8 ?k9 ?kB ?_ ?c2 ?c3 ?c4 ?c5; (case kA => exact rfl); (case kF => exact rfl); (case kK => first | exact rfl | assumption); (case k1 => k_asm); (case k2 => k_asm); (case k3 => k_asm); (case k4 => k_asm); (case k5 => k_asm); (case k6 => k_is); (case k7 => k_is); (case k8 => ktr_room); (case k9 => first | exact BindsTo.of_eq rfl | exact kp_binds (by k_in) (fun _ => by with_unfolding_all rfl) | exact hb _ _ _ _ _ (by k_in) (by rfl) | fail "enter: no rule for these arguments"); (case c5 => decide); (case kB => exact locs rfl); (case c2 => exact rfl); (case c3 => exact rfl); (case c4 => exact rfl); k_whole; intro g' L' h1' FG' F' N' B' X' T'; (try dsimp only [List.reverse_cons, List.reverse_nil, List.nil_append, List.cons_append, List.length_cons, List.length_nil] at F'); (try dsimp only); (try k_fold))
  repeat' (first | (k_unfold; (try dsimp only)) | ((fail_if_success (first | (with_reducible show KswEnd _ _ _ _ _ _ _ _ _ _ _ _) | (with_reducible show InvEndN _ _ _ _ _ _ _) | (with_reducible refine stop_mark ?h ?_; (case h => decide)))); (first | walk1 | (dsimp only; walk1) | (leave1; try dsimp only))))
  (k_dflt (refine Spec.use (siftup1_spec hn hc) (by k_asm) (by k_asm) (by k_asm) (by first | k_asm | (refine news_sub (by k_asm) ?_; simp only [List.forall_mem_cons]; simp)) (by k_asm) (by first | exact rfl | assumption) (by ktr_room) (by ktr_units) ?_))
  rintro r led' h2 tk2 ⟨rfl, rfl⟩ F2 N2
  repeat' (first | (k_unfold; (try dsimp only)) | ((fail_if_success (first | (with_reducible show KswEnd _ _ _ _ _ _ _ _ _ _ _ _) | (with_reducible show InvEndN _ _ _ _ _ _ _) | (with_reducible refine stop_mark ?h ?_; (case h => decide)))); (first | walk1 | (dsimp only; walk1) | (leave1; try dsimp only))))
  exact hret _ _ _ _ ⟨rfl, rfl⟩ (by assumption) (by assumption)
set_option maxHeartbeats 1000000 in
theorem pop2_spec {prog : Program} {w : World} {mean : ExcName → Option Value} {mg mb : Str → Option Value} {l : Addr} {n : Nat} {news : List (Addr × Obj)} {a : Addr} {na : Nat} {xa ya : Int} {ta ua : Tok} {b : Addr} {nb : Nat} {xb yb : Int} {tb ub : Tok} (hn : ∀ p ∈ news, p.1 ≠ l) (ha : (a, tupOf xa ya ta ua na) ∈ news) (hb : (b, tupOf xb yb tb ub nb) ∈ news) :
   Spec prog w mean mg mb 30 150 46 [.ref l] ((l, listOf #[.ref a, .ref b] n) :: news) (fun r led' => r = .ref a ∧ led' = (l, listOf #[.ref b] (n + 1)) :: news) := by
  intro dp un gd cn cs a' ccd cl outer A₀ base h₀ L m s Q E B F X N T hk hd hu hret
  refine wpAny_call ?_
  w_on
  k_dflt (refine' code_def (binds := [(Str.ofString "heap", .ref l)]) ?k1 ?k2 ?k3 ?k4 ?k5 ?kA ?kF ?kK ?k6 ?k7 ?k8 ?k9 ?kB ?_ ?c2 ?c3 ?c4 ?c5; (case kA => exact rfl); (case kF => exact rfl); (case kK => first | exact rfl | assumption); (case k1 => k_asm); (case k2 => k_asm); (case k3 => k_asm); (case k4 => k_asm); (case k5 => k_asm); (case k6 => k_is); (case k7 => k_is); (case k8 => ktr_room); (case k9 => first | exact BindsTo.of_eq rfl | exact kp_binds (by k_in) (fun _ => by with_unfolding_all rfl) | exact hb _ _ _ _ _ (by k_in) (by rfl) | fail "enter: no rule for these arguments"); (case c5 => decide); (case kB => exact locs rfl); (case c2 => exact rfl); (case c3 => exact rfl); (case c4 => exact rfl); k_whole; intro g' L' h1' FG' F' N' B' X' T'; (try dsimp only [List.reverse_cons, List.reverse_nil, List.nil_append, List.cons_append, List.length_cons, List.length_nil] at F'); (try dsimp only); (try k_fold))
  repeat' (first | (k_unfold; (try dsimp only)) | ((fail_if_success (first | (with_reducible show KswEnd _ _ _ _ _ _ _ _ _ _ _ _) | (with_reducible show InvEndN _ _ _ _ _ _ _) | (with_reducible refine stop_mark ?h ?_; (case h => decide)))); (first | walk1 | (dsimp only; walk1) | (leave1; try dsimp only))))
  (k_dflt (refine Spec.use (siftup1_spec hn hb) (by k_asm) (by k_asm) (by k_asm) (by first | k_asm | (refine news_sub (by k_asm) ?_; simp only [List.forall_mem_cons]; simp)) (by k_asm) (by first | exact rfl | assumption) (by ktr_room) (by ktr_units) ?_))
  rintro r led' h2 tk2 ⟨rfl, rfl⟩ F2 N2
  repeat' (first | (k_unfold; (try dsimp only)) | ((fail_if_success (first | (with_reducible show KswEnd _ _ _ _ _ _ _ _ _ _ _ _) | (with_reducible show InvEndN _ _ _ _ _ _ _) | (with_reducible refine stop_mark ?h ?_; (case h => decide)))); (first | walk1 | (dsimp only; walk1) | (leave1; try dsimp only))))
  exact hret _ _ _ _ ⟨rfl, rfl⟩ (by assumption) (by assumption)
set_option maxHeartbeats 1000000 in
theorem pop1_spec {prog : Program} {w : World} {mean : ExcName → Option Value} {mg mb : Str → Option Value} {l : Addr} {n : Nat} {news : List (Addr × Obj)} {a : Addr} {na : Nat} {xa ya : Int} {ta ua : Tok} (hn : ∀ p ∈ news, p.1 ≠ l) (ha : (a, tupOf xa ya ta ua na) ∈ news) :
   Spec prog w mean mg mb 30 150 46 [.ref l] ((l, listOf #[.ref a] n) :: news) (fun r led' => r = .ref a ∧ led' = (l, listOf #[] (n + 1)) :: news) := by
  intro dp un gd cn cs a' ccd cl outer A₀ base h₀ L m s Q E B F X N T hk hd hu hret
  refine wpAny_call ?_
  w_on
  k_dflt (refine' code_def (binds := [(Str.ofString "heap", .ref l)]) ?k1 ?k2 ?k3 ?k4 ?k5 ?kA ?kF ?kK ?k6 ?k7 ?k8 ?k9 ?kB ?_ ?c2 ?c3 ?c4 ?c5; (case kA => exact rfl); (case kF => exact rfl); (case kK => first | exact rfl | assumption); (case k1 => k_asm); (case k2 => k_asm); (case k3 => k_asm); (case k4 => k_asm); (case k5 => k_asm); (case k6 => k_is); (case k7 => k_is); (case k8 => ktr_room); (case k9 => first | exact BindsTo.of_eq rfl | exact kp_binds (by k_in) (fun _ => by with_unfolding_all rfl) | exact hb _ _ _ _ _ (by k_in) (by rfl) | fail "enter: no rule for these arguments"); (case c5 => decide); (case kB => exact locs rfl); (case c2 => exact rfl); (case c3 => exact rfl); (case c4 => exact rfl); k_whole; intro g' L' h1' FG' F' N' B' X' T'; (try dsimp only [List.reverse_cons, List.reverse_nil, List.nil_append, List.cons_append, List.length_cons, List.length_nil] at F'); (try dsimp only); (try k_fold))
  repeat' (first | (k_unfold; (try dsimp only)) | ((fail_if_success (first | (with_reducible show KswEnd _ _ _ _ _ _ _ _ _ _ _ _) | (with_reducible show InvEndN _ _ _ _ _ _ _) | (with_reducible refine stop_mark ?h ?_; (case h => decide)))); (first | walk1 | (dsimp only; walk1) | (leave1; try dsimp only))))
  exact hret _ _ _ _ ⟨rfl, rfl⟩ (by assumption) (by assumption)

section
variable {prog : Program} {w : World} {A : Around} {E : Value → Shared → Prop} {s : Shared}
def revRange (a b c : Int) : Obj := { cls := .type "range_iterator", data := .fields #[rawInt (a + (Builtin.Range.rangeSize a b c - 1) * c), rawInt (Builtin.Range.rangeSize a b c), rawInt (-c)] }
def revSmall (a b c : Int) : Bool := Builtin.Range.rangeFitsLong a && Builtin.Range.rangeFitsLong b && Builtin.Range.rangeFitsLong c && Builtin.Range.rangeFitsLong (-c) && Builtin.Range.rangeFitsLong (a - c) && Builtin.Range.rangeFitsLong (Builtin.Range.rangeSize a b c)
theorem sub_ri_reversed : isSubtype (.type "range_iterator") (.type "reversed") = pure false := by rw [isSubtype_type]; kernel_rfl
theorem call_range_reversed {r : Addr} {a b c : Int} {t u v : Tok} {Q : Value → Shared → Prop} (hr : IsRange s.heap r a b c t u v) (hs : revSmall a b c = true)
    (h : Q (.ref s.heap.objs.size) { s with heap := s.heap.push (revRange a b c) }) : wpAny (model prog w) A (call (.builtin "range.__reversed__") [.ref r]) Q E s := by
  have hT : s.TypeIs (.ref r) "range" := ⟨_, hr, rfl⟩
  refine wpAny_call_entry F.slot_range_reversed hT F.entry_range_reversed ?_ (F.args_range_reversed_1 _)
  unfold Builtin.«range.__reversed__»
  refine wpAny_bind (wpAny_of_eq (a := Value.ref r) rfl ?_)
  refine wpAny_bind ?_
  unfold Builtin.Range.rangeFields
  refine wpAny_bind (wpAny_field hr rfl (x := .int a t) rfl ?_)
  refine wpAny_bind (wpAny_of_eq (a := some a) rfl ?_)
  refine wpAny_bind (wpAny_field hr rfl (x := .int b u) rfl ?_)
  refine wpAny_bind (wpAny_of_eq (a := some b) rfl ?_)
  refine wpAny_bind (wpAny_field hr rfl (x := .int c v) rfl ?_)
  refine wpAny_bind (wpAny_of_eq (a := some c) rfl ?_)
  refine wpAny_pure ?_
  unfold revSmall at hs
  simp only [hs, Bool.not_true, Bool.false_eq_true, if_false, if_true]
  exact wpAny_bind (wpAny_newObj_type (wpAny_pure ⟨_, rfl, h⟩))
/-- reversed, of a thing whose type bears a method for it -/
theorem reversed_by {v r : Value} {T f : String} {s₁ : Shared} {Q₁ : Value → Shared → Prop} (S : Slot T "__reversed__" f) (hT : s.TypeIs v T)
    (run : ∀ (A' : Around) (E' R : Value → Shared → Prop), R r s₁ → wpAny (model prog w) A' (call (.builtin f) [v]) R E' s) (h : Q₁ r s₁) :
    codeAny (model prog w) A (.call (.builtin "reversed.__new__") ⟨[.type "reversed", v], []⟩) (wants Q₁ E) s := by
  have tree : ∀ (A' : Around) (P : Fin → Shared → Prop) (E' : Value → Shared → Prop), P (.done (.ret r)) s₁ → wpAny (model prog w) A' (Builtin.«reversed.__new__» ⟨[.type "reversed", v], []⟩) P E' s := by
    intro A' P E' hP
    show wpAny _ A' (Builtin.SmallTypes.newClass "reversed" ⟨[.type "reversed", v], []⟩ >>= _) P E' s
    rw [newClass_reversed]
    have up := wpAny_specialOf (M := model prog w) (A := A') (E := E') hT S.lookup (Q := fun o s' => o = some (.builtin f) ∧ s' = s) ⟨rfl, rfl⟩
    show wpAny _ A' (specialOf v "__reversed__" >>= _) P E' s
    refine wpAny_bind (wpAny_mono up ?_ fun _ _ e => e)
    rintro _ _ ⟨rfl, rfl⟩
    dsimp only
    rw [S.bind v]
    show wpAny _ A' (runValue (.call (.builtin f) ⟨[v], []⟩) >>= fun x => ret x) P E' _
    exact wpAny_bind (run A' E' _ (wpAny_pure hP))
  refine codeAny_of_tree ?_
  have pass := F.newCall_reversed_1 v
  show wpAny _ A.in1 (checkBuiltinCall "reversed.__new__" ⟨[.type "reversed", v], []⟩ >>= _) _ _ s
  rw [pass, pure_bind]
  refine wpAny_pure ⟨plainId_quiet F.plain_reversed_new _, codeAny_builtin F.entry_reversed_new ?_⟩
  exact tree _ _ _ h
theorem call_reversed_range {r : Addr} {a b c : Int} {t u v : Tok} {Q : Value → Shared → Prop} (hr : IsRange s.heap r a b c t u v) (hs : revSmall a b c = true)
    (h : Q (.ref s.heap.objs.size) { s with heap := s.heap.push (revRange a b c) }) : wpAny (model prog w) A (call (.type "reversed") [.ref r]) Q E s :=
  callType_other (U := "range_iterator") (Q₁ := fun obj s₁ => (obj, s₁) = (Value.ref s.heap.objs.size, { s with heap := s.heap.push (revRange a b c) })) (by decide +kernel) F.create_reversed ⟨_, _, F.mro_reversed⟩ F.made_reversed sub_ri_reversed (F.typeCall_reversed_1 _)
    (reversed_by F.slot_range_reversed ⟨_, hr, rfl⟩ (fun _ _ _ hR => call_range_reversed hr hs hR) rfl) fun obj s₁ e => by
      cases e
      exact ⟨⟨_, Heap.get?_push_size _ rfl, rfl⟩, h⟩
end
section
variable {prog : Program} {w : World} {A : Around} {E : Value → Shared → Prop} {s : Shared} {env : Env} {h₀ : Heap} {x : Str} {body : List Stmt} {Q : Flow → Shared → Prop}
theorem loop_pushed {x₀ st : Int} {n : Nat} {o : Obj} {m₀ : Str → Option Value} {news : List (Addr × Obj)} (ho : o = { cls := .type "range_iterator", dict := none, data := .fields #[rawInt x₀, rawInt (n : Int), rawInt st], slots := #[] }) (J : Nat → (Str → Option Value) → List (Addr × Obj) → Prop)
    (hh : A.handled = none) (F : Fr h₀ env.locals s.heap m₀) (N : News h₀ env.locals s.heap news) (hj : J 0 m₀ news)
    (turn : ∀ i t m₁ news₁ h tk own, i < n → news₁.map (·.1) = news.map (·.1) → OwnOff own (news.map (·.1)) → J i m₁ news₁ → Fr h₀ env.locals h (fun y => if y = x then some (.int (x₀ + (i : Nat) * st) t) else m₁ y) → News h₀ env.locals h (news₁ ++ own) →
      wpAny (model prog w) A (execs body env) (InvPostN h₀ env.locals (J (i + 1)) own (news.map (·.1)) { s with heap := h, toks := tk } Q) E { s with heap := h, toks := tk })
    (done : ∀ m₁ news₁ h tk, J n m₁ news₁ → Fr h₀ env.locals h m₁ → News h₀ env.locals h news₁ → Q .next { s with heap := h, toks := tk }) :
    LoopAtV prog w A h₀ env x body Q E (.ref s.heap.objs.size) { s with heap := s.heap.push o } := by
  subst ho
  obtain ⟨z1, z2, z3⟩ := next_apart F N
  exact loop_invN J (Walks.range hh s.heap.objs.size x₀ st n).bound z1 z2 z3 z3 (by show IsRangeIter _ _ _ _ _; simpa using Heap.get?_push_size _ rfl) (F.push _) (fun p hp => ⟨Heap.get?_push_of_some _ (N p hp).1, (N p hp).2⟩) hj
    (fun i v m₁ nx h tk own hi hv ha hoff hJ F₁ N₁ => by
      obtain ⟨_, t, rfl⟩ := hv
      exact turn i t m₁ nx h tk own hi ha hoff hJ F₁ N₁) done
end

set_option linter.unusedVariables false
set_option maxHeartbeats 1000000 in
theorem heapify2_spec {prog : Program} {w : World} {mean : ExcName → Option Value} {mg mb : Str → Option Value} {l : Addr} {n : Nat} {news : List (Addr × Obj)} {a : Addr} {na : Nat} {xa ya : Int} {ta ua : Tok} {b : Addr} {nb : Nat} {xb yb : Int} {tb ub : Tok} (hn : ∀ p ∈ news, p.1 ≠ l) (ha : (a, tupOf xa ya ta ua na) ∈ news) (hb : (b, tupOf xb yb tb ub nb) ∈ news) :
   Spec prog w mean mg mb 30 150 60 [.ref l] ((l, listOf #[.ref a, .ref b] n) :: news) (fun r led' => r = .none ∧ led' = (l, listOf (if xa < xb ∨ (xa = xb ∧ ya < yb) then #[.ref a, .ref b] else #[.ref b, .ref a]) n) :: news) := by
  intro dp un gd cn cs a' ccd cl outer A₀ base h₀ L m s Q E B F X N T hk hd hu hret
  refine wpAny_call ?_
  w_on
  k_dflt (refine' code_def (binds := [(Str.ofString "x", .ref l)]) ?k1 ?k2 ?k3 ?k4 ?k5 ?kA ?kF ?kK ?k6 ?k7 ?k8 ?k9 ?kB ?_ ?c2 ?c3 ?c4 ?c5; (case kA => exact rfl); (case kF => exact rfl); (case kK => first | exact rfl | assumption); (case k1 => k_asm); (case k2 => k_asm); (case k3 => k_asm); (case k4 => k_asm); (case k5 => k_asm); (case k6 => k_is); (case k7 => k_is); (case k8 => ktr_room); (case k9 => first | exact BindsTo.of_eq rfl | exact kp_binds (by k_in) (fun _ => by with_unfolding_all rfl) | exact hb _ _ _ _ _ (by k_in) (by rfl) | fail "enter: no rule for these arguments"); (case c5 => decide); (case kB => exact locs rfl); (case c2 => exact rfl); (case c3 => exact rfl); (case c4 => exact rfl); k_whole; intro g' L' h1' FG' F' N' B' X' T'; (try dsimp only [List.reverse_cons, List.reverse_nil, List.nil_append, List.cons_append, List.length_cons, List.length_nil] at F'); (try dsimp only); (try k_fold))
  repeat' (first | (k_unfold; (try dsimp only)) | ((fail_if_success (first | (first | (with_reducible show KswEnd _ _ _ _ _ _ _ _ _ _ _ _) | (with_reducible show InvEndN _ _ _ _ _ _ _) | (with_reducible refine stop_mark ?h ?_; (case h => decide))) | (with_reducible show wpAny _ _ (pyIter (Value.ref _)) _ _ _) | (with_reducible show wpAny _ _ (pyIter (Value.str _ _)) _ _ _) | (with_reducible show wpAny _ _ (exec (Stmt.While _ _ _ _) _) _ _ _))); (first | walk1 | (dsimp only; walk1) | (leave1; try dsimp only))))
  rename IsRange _ _ _ _ _ _ _ _ => lR
  rename Fr _ _ _ _ => lF
  rename News _ _ _ _ => lN
  refine call_reversed_range lR (by decide +kernel) ?_
  repeat' (first | (k_unfold; (try dsimp only)) | ((fail_if_success (first | (first | (with_reducible show KswEnd _ _ _ _ _ _ _ _ _ _ _ _) | (with_reducible show InvEndN _ _ _ _ _ _ _) | (with_reducible refine stop_mark ?h ?_; (case h => decide))) | (with_reducible show wpAny _ _ (pyIter (Value.ref _)) _ _ _) | (with_reducible show wpAny _ _ (pyIter (Value.str _ _)) _ _ _) | (with_reducible show wpAny _ _ (exec (Stmt.While _ _ _ _) _) _ _ _))); (first | walk1 | (dsimp only; walk1) | (leave1; try dsimp only))))
  refine wpAny_pyIter_rangeiter (x := 0) (left := 1) (step := -1) (Heap.get?_push_size _ rfl) ?_
  refine loop_pushed (x₀ := 0) (st := -1) (n := 1) (by rfl) (fun i m nx => if i = 0 then (m = _ ∧ nx = (l, listOf #[.ref a, .ref b] n) :: news) else nx = (l, listOf (if xa < xb ∨ (xa = xb ∧ ya < yb) then #[.ref a, .ref b] else #[.ref b, .ref a]) n) :: news) (by rfl) lF lN ⟨rfl, rfl⟩ ?turn ?done
  case turn =>
    clear lF lN lR
    rintro i t m₁ nx h tk own hi hmap hoff hJ F1 N1
    obtain rfl : i = 0 := by omega
    obtain ⟨rfl, rfl⟩ := hJ
    dsimp only [List.cons_append] at N1
    have hne : ∀ p ∈ news ++ own, p.1 ≠ l := List.forall_mem_append.mpr ⟨hn, fun p hp => hoff p hp _ (List.Mem.head _)⟩
    try k_fold
    repeat' (first | (k_unfold; (try dsimp only)) | ((fail_if_success (first | (first | (with_reducible show KswEnd _ _ _ _ _ _ _ _ _ _ _ _) | (with_reducible show InvEndN _ _ _ _ _ _ _) | (with_reducible refine stop_mark ?h ?_; (case h => decide))) | (with_reducible show wpAny _ _ (pyIter (Value.ref _)) _ _ _) | (with_reducible show wpAny _ _ (pyIter (Value.str _ _)) _ _ _) | (with_reducible show wpAny _ _ (exec (Stmt.While _ _ _ _) _) _ _ _))); (first | walk1 | (dsimp only; walk1) | (leave1; try dsimp only))))
    have e : (0 + ((0 : Nat) : Int) * -1) = 0 := by decide
    rw [e]
    (k_dflt (refine Spec.use (siftup2_spec hne (List.mem_append_left _ ha) (List.mem_append_left _ hb)) (by k_asm) (by k_asm) (by k_asm) (by first | k_asm | (refine news_sub (by k_asm) ?_; simp only [List.forall_mem_cons]; simp)) (by k_asm) (by first | exact rfl | assumption) (by ktr_room) (by ktr_units) ?_))
    rintro r led' h2 tk2 ⟨rfl, rfl⟩ F2 N2
    repeat' (first | (k_unfold; (try dsimp only)) | ((fail_if_success (first | (first | (with_reducible show KswEnd _ _ _ _ _ _ _ _ _ _ _ _) | (with_reducible show InvEndN _ _ _ _ _ _ _) | (with_reducible refine stop_mark ?h ?_; (case h => decide))) | (with_reducible show wpAny _ _ (pyIter (Value.ref _)) _ _ _) | (with_reducible show wpAny _ _ (pyIter (Value.str _ _)) _ _ _) | (with_reducible show wpAny _ _ (exec (Stmt.While _ _ _ _) _) _ _ _))); (first | walk1 | (dsimp only; walk1) | (leave1; try dsimp only))))
    exact InvEndN.intro (nx := (l, listOf (if xa < xb ∨ (xa = xb ∧ ya < yb) then #[.ref a, .ref b] else #[.ref b, .ref a]) n) :: news) F2 N2 (by rw [if_neg (by decide)]) (by rfl) (fun p hp => (List.mem_cons.mp hp).elim (fun e => e ▸ List.Mem.head _) fun h => List.Mem.tail _ (List.mem_append_left _ h)) (fun p hp => List.Mem.tail _ (List.mem_append_right _ hp))
  case done =>
    clear lF lN lR
    rintro m₁ nx h tk hJ F1 N1
    obtain rfl : nx = _ := hJ
    repeat' (first | (k_unfold; (try dsimp only)) | ((fail_if_success (first | (first | (with_reducible show KswEnd _ _ _ _ _ _ _ _ _ _ _ _) | (with_reducible show InvEndN _ _ _ _ _ _ _) | (with_reducible refine stop_mark ?h ?_; (case h => decide))) | (with_reducible show wpAny _ _ (pyIter (Value.ref _)) _ _ _) | (with_reducible show wpAny _ _ (pyIter (Value.str _ _)) _ _ _) | (with_reducible show wpAny _ _ (exec (Stmt.While _ _ _ _) _) _ _ _))); (first | walk1 | (dsimp only; walk1) | (leave1; try dsimp only))))
    exact hret _ _ _ _ ⟨rfl, rfl⟩ (by assumption) (by assumption)

set_option linter.unusedVariables false
def putL (c : Int × Int) : List (Int × Int) → List (Int × Int)
  | [] => [c]
  | b :: _ => if c.1 < b.1 ∨ (c.1 = b.1 ∧ c.2 < b.2) then [c, b] else [b, c]
def raceRun (one two : Int) : Nat → List (Int × Int) → Int → Int → Int → Int → Option (Int × Int)
  | _, [], _, _, q0, q1 => some (q0, q1)
  | 0, _ :: _, _, _, _, _ => none
  | f + 1, c :: rest, p0, p1, q0, q1 =>
    if c.2 = 0 then
      (if p0 + 1 < two.fdiv 2 then raceRun one two f (putL (c.1 + one, 0) rest) (p0 + 1) p1 (q0 + p1) q1 else raceRun one two f rest (p0 + 1) p1 (q0 + p1) q1)
    else
      (if p1 + 1 < one.fdiv 2 then raceRun one two f (putL (c.1 + two, 1) rest) p0 (p1 + 1) q0 (q1 + p0) else raceRun one two f rest p0 (p1 + 1) q0 (q1 + p0))
def kI : Bool → Int
  | true => 1
  | false => 0
inductive Com where
  | c0 (n : Nat)
  | c1 (n : Nat) (a : Addr) (v : Int) (k : Bool) (tv tk : Tok) (m : Nat)
  | c2 (n : Nat) (a : Addr) (v : Int) (k : Bool) (tv tk : Tok) (m : Nat) (b : Addr) (v' : Int) (tv' tk' : Tok) (m' : Nat)
def Com.led (l : Addr) (news : List (Addr × Obj)) : Com → List (Addr × Obj)
  | .c0 n => (l, listOf #[] n) :: news
  | .c1 n a v k tv tk m => (l, listOf #[.ref a] n) :: (a, tupOf v (kI k) tv tk m) :: news
  | .c2 n a v k tv tk m b v' tv' tk' m' => (l, listOf #[.ref a, .ref b] n) :: (a, tupOf v (kI k) tv tk m) :: (b, tupOf v' (kI (!k)) tv' tk' m') :: news
def Com.off (x y z : Nat) : Com → Prop
  | .c0 _ => True
  | .c1 _ a _ _ _ _ _ => @Ne Nat a x ∧ @Ne Nat a y ∧ @Ne Nat a z
  | .c2 _ a _ _ _ _ _ b _ _ _ _ => @Ne Nat a x ∧ @Ne Nat a y ∧ @Ne Nat a z ∧ @Ne Nat b x ∧ @Ne Nat b y ∧ @Ne Nat b z
def Com.pairs : Com → List (Int × Int)
  | .c0 _ => []
  | .c1 _ _ v k _ _ _ => [(v, kI k)]
  | .c2 _ _ v k _ _ _ _ v' _ _ _ => [(v, kI k), (v', kI (!k))]
theorem Spec.upd {prog : Program} {w : World} {mean : ExcName → Option Value} {mg mb : Str → Option Value} {D U : Nat} {f l : Addr} {vs : List Value} {o o' : Obj} {led led' : List (Addr × Obj)} {R : Value} (u : Upd l o o' led led')
    (H : ∀ news : List (Addr × Obj), (∀ p ∈ news, p.1 ≠ l) → (∀ q ∈ led, q.1 ≠ l → q ∈ news) → Spec prog w mean mg mb D U f vs ((l, o) :: news) (fun r led'' => r = R ∧ led'' = (l, o') :: news)) :
    Spec prog w mean mg mb D U f vs led (fun r led'' => r = R ∧ led'' = led') := by
  obtain ⟨pre, post, rfl, rfl, h1, h2⟩ := u.split
  have H' := H (pre ++ post) (List.forall_mem_append.mpr ⟨h1, h2⟩) fun q hq hne => by
    rcases List.mem_append.mp hq with h | h
    · exact List.mem_append_left _ h
    · rcases List.mem_cons.mp h with rfl | h
      · exact absurd rfl hne
      · exact List.mem_append_right _ h
  intro dp un gd cn cs a ccd cl outer A₀ base h₀ L m s Q E B F X N T hk hd hu hret
  refine H' _ _ _ _ _ _ _ _ _ _ _ _ _ _ _ _ _ B F X (news_sub N fun p hp => ?_) T hk hd hu ?_
  · rcases List.mem_cons.mp hp with rfl | h
    · exact List.mem_append_right _ (List.Mem.head _)
    · rcases List.mem_append.mp h with h | h
      · exact List.mem_append_left _ h
      · exact List.mem_append_right _ (List.Mem.tail _ h)
  · rintro r led'' h' tk' ⟨rfl, rfl⟩ F' N'
    refine hret _ _ _ _ ⟨rfl, rfl⟩ F' (news_sub N' fun p hp => ?_)
    rcases List.mem_append.mp hp with h | h
    · exact List.Mem.tail _ (List.mem_append_left _ h)
    · rcases List.mem_cons.mp h with rfl | h
      · exact List.Mem.head _
      · exact List.Mem.tail _ (List.mem_append_right _ h)
theorem led_swap {h₀ h : Heap} {L : Addr} {a b c d e : Addr × Obj} {news : List (Addr × Obj)} (N : News h₀ L h (a :: b :: c :: d :: e :: news)) : News h₀ L h (a :: b :: c :: e :: d :: news) :=
  news_sub N fun p hp => by
    simp only [List.mem_cons] at hp ⊢
    rcases hp with h | h | h | h | h | h <;> simp [h]
structure Oth where
  b : Addr
  v : Int
  tv : Tok
  tk : Tok
  m : Nat
def mkC (n : Nat) (a : Addr) (v : Int) (k : Bool) (tv tk : Tok) (m : Nat) : Option Oth → Com
  | none => .c1 n a v k tv tk m
  | some o => .c2 n a v k tv tk m o.b o.v o.tv o.tk o.m
def refsO : Option Oth → List Value
  | none => []
  | some o => [.ref o.b]
def ledO (k : Bool) : Option Oth → List (Addr × Obj)
  | none => []
  | some o => [(o.b, tupOf o.v (kI (!k)) o.tv o.tk o.m)]
def pairsO (k : Bool) : Option Oth → List (Int × Int)
  | none => []
  | some o => [(o.v, kI (!k))]
def offO (x y z : Nat) : Option Oth → Prop
  | none => True
  | some o => @Ne Nat o.b x ∧ @Ne Nat o.b y ∧ @Ne Nat o.b z
def putO (o : Option Oth) (k : Bool) (c : Addr) (xc yc : Int) : Array Value := match o with
  | none => #[.ref c]
  | some o => if xc < o.v ∨ (xc = o.v ∧ yc < kI (!k)) then #[.ref c, .ref o.b] else #[.ref o.b, .ref c]
theorem Com.split : ∀ c : Com, (∃ n, c = .c0 n) ∨ ∃ n a v k tv tk m o, c = mkC n a v k tv tk m o
  | .c0 n => .inl ⟨n, rfl⟩
  | .c1 n a v k tv tk m => .inr ⟨n, a, v, k, tv, tk, m, none, rfl⟩
  | .c2 n a v k tv tk m b v' tv' tk' m' => .inr ⟨n, a, v, k, tv, tk, m, some ⟨b, v', tv', tk', m'⟩, rfl⟩
theorem mk_led {n : Nat} {a : Addr} {v : Int} {k : Bool} {tv tk : Tok} {m : Nat} {o : Option Oth} {l : Addr} {news : List (Addr × Obj)} : (mkC n a v k tv tk m o).led l news = (l, listOf (.ref a :: refsO o).toArray n) :: (a, tupOf v (kI k) tv tk m) :: (ledO k o ++ news) := by cases o <;> rfl
theorem mk_pairs {n : Nat} {a : Addr} {v : Int} {k : Bool} {tv tk : Tok} {m : Nat} {o : Option Oth} : (mkC n a v k tv tk m o).pairs = (v, kI k) :: pairsO k o := by cases o <;> rfl
theorem mk_off {n : Nat} {a : Addr} {v : Int} {k : Bool} {tv tk : Tok} {m : Nat} {o : Option Oth} {x y z : Nat} (h : (mkC n a v k tv tk m o).off x y z) : (@Ne Nat a x ∧ @Ne Nat a y ∧ @Ne Nat a z) ∧ offO x y z o := by
  cases o with
  | none => exact ⟨h, trivial⟩
  | some o => exact ⟨⟨h.1, h.2.1, h.2.2.1⟩, h.2.2.2⟩
theorem offO.all {x y z : Nat} {k : Bool} {o : Option Oth} {news : List (Addr × Obj)} (h : offO x y z o) (hx : ∀ p ∈ news, p.1 ≠ x) (hy : ∀ p ∈ news, p.1 ≠ y) (hz : ∀ p ∈ news, p.1 ≠ z) :
    (∀ p ∈ ledO k o ++ news, p.1 ≠ x) ∧ (∀ p ∈ ledO k o ++ news, p.1 ≠ y) ∧ ∀ p ∈ ledO k o ++ news, p.1 ≠ z := by
  cases o with
  | none => exact ⟨hx, hy, hz⟩
  | some o => exact ⟨List.forall_mem_cons.mpr ⟨h.1, hx⟩, List.forall_mem_cons.mpr ⟨h.2.1, hy⟩, List.forall_mem_cons.mpr ⟨h.2.2, hz⟩⟩
theorem refsO_le (o : Option Oth) : (refsO o).length ≤ 1 := by cases o <;> simp [refsO]
section
variable {prog : Program} {w : World} {mean : ExcName → Option Value} {mg mb : Str → Option Value} {l : Addr} {n : Nat} {nw : List (Addr × Obj)} {a : Addr} {na : Nat} {xa ya : Int} {ta ua : Tok} {o : Option Oth} {k : Bool}
theorem replaceO_spec {c : Addr} {nc : Nat} {xc yc : Int} {tc uc : Tok} (hn : ∀ p ∈ nw, p.1 ≠ l) (ha : (a, tupOf xa ya ta ua na) ∈ nw) (ho : ∀ p ∈ ledO k o, p ∈ nw) (hc : (c, tupOf xc yc tc uc nc) ∈ nw) :
    Spec prog w mean mg mb 30 150 53 [.ref l, .ref c] ((l, listOf (.ref a :: refsO o).toArray n) :: nw) (fun r led' => r = .ref a ∧ led' = (l, listOf (putO o k c xc yc) n) :: nw) := by
  cases o with
  | none => exact replace1_spec hn ha hc
  | some o => exact replace2_spec hn ha (ho _ (List.Mem.head _)) hc
theorem popO_spec (hn : ∀ p ∈ nw, p.1 ≠ l) (ha : (a, tupOf xa ya ta ua na) ∈ nw) (ho : ∀ p ∈ ledO k o, p ∈ nw) :
    Spec prog w mean mg mb 30 150 46 [.ref l] ((l, listOf (.ref a :: refsO o).toArray n) :: nw) (fun r led' => r = .ref a ∧ led' = (l, listOf (refsO o).toArray (n + 1)) :: nw) := by
  cases o with
  | none => exact pop1_spec hn ha
  | some o => exact pop2_spec hn ha (ho _ (List.Mem.head _))
end
theorem neAll {d : Addr} {l : List (Addr × Obj)} (h : AllLt d l) : ∀ p ∈ l, p.1 ≠ d := fun p hp => Nat.ne_of_lt (kst_ltOf h p hp)
set_option maxHeartbeats 2000000 in
theorem race_spec {prog : Program} {w : World} {mean : ExcName → Option Value} {mg mb : Str → Option Value} {one two : Int} {t t2 : Tok} {R : Int × Int} {f₀ : Nat} {news : List (Addr × Obj)} (hrun : raceRun one two f₀ (putL (two, 1) [(one, 0)]) 0 0 0 0 = some R) :
   Spec prog w mean mg mb 60 300 152 [.int one t, .int two t2] news (fun r led' => ∃ l t0 t1 n, r = .ref l ∧ (∀ p ∈ news, p.1 < l) ∧ led' = (l, listOf #[.int R.1 t0, .int R.2 t1] n) :: news) := by
  intro dp un gd cn cs a' ccd cl outer A₀ base h₀ L m s Q E B F X N T hk hd hu hret
  refine wpAny_call ?_
  w_on
  k_dflt (refine' code_def (binds := [(Str.ofString "one", .int one t), (Str.ofString "two", .int two t2)]) ?k1 ?k2 ?k3 ?k4 ?k5 ?kA ?kF ?kK ?k6 ?k7 ?k8 ?k9 ?kB ?_ ?c2 ?c3 ?c4 ?c5; (case kA => exact rfl); (case kF => exact rfl); (case kK => first | exact rfl | assumption); (case k1 => k_asm); (case k2 => k_asm); (case k3 => k_asm); (case k4 => k_asm); (case k5 => k_asm); (case k6 => k_is); (case k7 => k_is); (case k8 => ktr_room); (case k9 => first | exact BindsTo.of_eq rfl | exact kp_binds (by k_in) (fun _ => by with_unfolding_all rfl) | exact hb _ _ _ _ _ (by k_in) (by rfl) | fail "enter: no rule for these arguments"); (case c5 => decide); (case kB => exact locs rfl); (case c2 => exact rfl); (case c3 => exact rfl); (case c4 => exact rfl); k_whole; intro g' L' h1' FG' F' N' B' X' T'; (try dsimp only [List.reverse_cons, List.reverse_nil, List.nil_append, List.cons_append, List.length_cons, List.length_nil] at F'); (try dsimp only); (try k_fold))
  repeat' (first | (k_unfold; (try dsimp only)) | ((fail_if_success (first | (first | (with_reducible show KswEnd _ _ _ _ _ _ _ _ _ _ _ _) | (with_reducible show InvEndN _ _ _ _ _ _ _) | (with_reducible refine stop_mark ?h ?_; (case h => decide))) | (with_reducible show wpAny _ _ (pyIter (Value.ref _)) _ _ _) | (with_reducible show wpAny _ _ (pyIter (Value.str _ _)) _ _ _) | (with_reducible show wpAny _ _ (exec (Stmt.While _ _ _ _) _) _ _ _))); (first | walk1 | (dsimp only; walk1) | (leave1; try dsimp only))))
  rename ∀ p ∈ news, _ => hC
  rename _ < _ ∧ AllLt _ news => hB
  rename _ < _ ∧ _ < _ ∧ AllLt _ news => hA
  (k_dflt (refine Spec.use (heapify2_spec (by exact neAll hA) (List.Mem.tail _ (List.Mem.head _)) (List.Mem.head _)) (by k_asm) (by k_asm) (by k_asm) (by first | k_asm | (refine news_sub (by k_asm) ?_; simp only [List.forall_mem_cons]; simp)) (by k_asm) (by first | exact rfl | assumption) (by ktr_room) (by ktr_units) ?_))
  rintro r led' h2 tk2 ⟨rfl, rfl⟩ F2 N2
  repeat' (first | (k_unfold; (try dsimp only)) | ((fail_if_success (first | (first | (with_reducible show KswEnd _ _ _ _ _ _ _ _ _ _ _ _) | (with_reducible show InvEndN _ _ _ _ _ _ _) | (with_reducible refine stop_mark ?h ?_; (case h => decide))) | (with_reducible show wpAny _ _ (pyIter (Value.ref _)) _ _ _) | (with_reducible show wpAny _ _ (pyIter (Value.str _ _)) _ _ _) | (with_reducible show wpAny _ _ (exec (Stmt.While _ _ _ _) _) _ _ _))); (first | walk1 | (dsimp only; walk1) | (leave1; try dsimp only))))
  rename _ < _ ∧ _ < _ ∧ _ < _ ∧ AllLt _ news => hP
  rename _ < _ ∧ _ < _ ∧ _ < _ ∧ _ < _ ∧ AllLt _ news => hT
  rename Fr _ _ _ _ => lF
  rename News _ _ _ _ => lN
  have n1 := neAll hA.2.2
  have n2 := neAll hP.2.2.2
  have n3 := neAll hT.2.2.2.2
  rename_i D1 q1 D2 q2 l q3 q4 lp q5 q6 lt q7 q8
  have a1 := hA.1
  have a2 := hA.2.1
  have a3 := hP.1
  have a4 := hP.2.1
  have a5 := hP.2.2.1
  have a6 := hT.1
  have a7 := hT.2.1
  have a8 := hT.2.2.1
  have a9 := hT.2.2.2.1
  have m1 : @Ne Nat l lp := by omega
  have m2 : @Ne Nat l lt := by omega
  have m3 : @Ne Nat lp lt := by omega
  have b1 : @Ne Nat D1 l := by omega
  have b2 : @Ne Nat D1 lp := by omega
  have b3 : @Ne Nat D1 lt := by omega
  have b4 : @Ne Nat D2 l := by omega
  have b5 : @Ne Nat D2 lp := by omega
  have b6 : @Ne Nat D2 lt := by omega
  obtain ⟨s1, s2, s3, s4, s5, s6, lM⟩ : ∃ s1 s2 s3 s4 s5 s6, News g' L' q8 ((lt, listOf #[.int 0 s1, .int 0 s2] 0) :: (lp, listOf #[.int 0 s3, .int 0 s4] 0) :: (l, listOf (if two < one ∨ (two = one ∧ (1 : Int) < 0) then #[.ref D1, .ref D2] else #[.ref D2, .ref D1]) 0) :: (D2, tupOf one 0 t s5 0) :: (D1, tupOf two 1 t2 s6 0) :: news) := ⟨_, _, _, _, _, _, lN⟩
  clear lN
  refine' ksw_while (σ := Com × (Int × Tok × Int × Tok) × (Int × Tok × Int × Tok) × Nat)
    (fun c => (lt, listOf #[.int c.2.2.1.1 c.2.2.1.2.1, .int c.2.2.1.2.2.1 c.2.2.1.2.2.2] 0) :: (lp, listOf #[.int c.2.1.1 c.2.1.2.1, .int c.2.1.2.2.1 c.2.1.2.2.2] 0) :: c.1.led l news)
    (fun _ => []) (fun c => c.1.off l lp lt) [Str.ofString "value", Str.ofString "kind"]
    (fun c => raceRun one two c.2.2.2 c.1.pairs c.2.1.1 c.2.1.2.2.1 c.2.2.1.1 c.2.2.1.2.2.1 = some R) (fun c => c.2.2.2)
    (if two < one ∨ (two = one ∧ (1 : Int) < 0) then .c2 0 D1 two true t2 s6 0 D2 one t s5 0 else .c2 0 D2 one false t s5 0 D1 two t2 s6 0, (0, s3, 0, s4), (0, s1, 0, s2), f₀) lF ?hN ?hF (fun _ h => nomatch h) ?hP ?turn
  case hN =>
    by_cases hlow : two < one ∨ (two = one ∧ (1 : Int) < 0)
    · rw [if_pos hlow] at lM
      dsimp only
      rw [if_pos hlow]
      show News g' L' q8 (_ :: _ :: (l, listOf #[.ref D1, .ref D2] 0) :: (D1, tupOf two 1 t2 s6 0) :: (D2, tupOf one 0 t s5 0) :: news)
      exact news_sub lM (by ((repeat' (first | exact List.forall_mem_nil _ | refine List.forall_mem_cons.mpr ⟨?_, ?_⟩)); (all_goals (first | ((repeat' (first | assumption | exact List.Mem.head _ | refine List.Mem.tail _ ?_)); done) | (intro p hp; ((repeat' (first | assumption | exact List.Mem.head _ | refine List.Mem.tail _ ?_)); done))))))
    · rw [if_neg hlow] at lM
      dsimp only
      rw [if_neg hlow]
      show News g' L' q8 (_ :: _ :: (l, listOf #[.ref D2, .ref D1] 0) :: (D2, tupOf one 0 t s5 0) :: (D1, tupOf two 1 t2 s6 0) :: news)
      exact news_sub lM (by ((repeat' (first | exact List.forall_mem_nil _ | refine List.forall_mem_cons.mpr ⟨?_, ?_⟩)); (all_goals (first | ((repeat' (first | assumption | exact List.Mem.head _ | refine List.Mem.tail _ ?_)); done) | (intro p hp; ((repeat' (first | assumption | exact List.Mem.head _ | refine List.Mem.tail _ ?_)); done))))))
  case hF =>
    dsimp only
    split
    · exact ⟨b1, b2, b3, b4, b5, b6⟩
    · exact ⟨b4, b5, b6, b1, b2, b3⟩
  case hP =>
    dsimp only
    dsimp only [putL] at hrun
    by_cases hlow : two < one ∨ (two = one ∧ (1 : Int) < 0)
    · rw [if_pos hlow]
      rw [if_pos hlow] at hrun
      exact hrun
    · rw [if_neg hlow]
      rw [if_neg hlow] at hrun
      exact hrun
  clear lF lM
  rintro ⟨com, ⟨p0, tp0, p1, tp1⟩, ⟨q0, tq0, q1, tq1⟩, f⟩ u h tk hF hP F1 N1
  dsimp only [kstB] at F1 N1 hF hP ⊢
  rcases com.split with ⟨n, rfl⟩ | ⟨n, a, v, k, tv, tk', m', o, rfl⟩
  · dsimp only [Com.led, Com.pairs, Com.off] at F1 N1 hF hP
    try k_fold
    repeat' (first | (k_unfold; (try dsimp only)) | ((fail_if_success (first | (first | (with_reducible show KswEnd _ _ _ _ _ _ _ _ _ _ _ _) | (with_reducible show InvEndN _ _ _ _ _ _ _) | (with_reducible refine stop_mark ?h ?_; (case h => decide))) | (with_reducible show wpAny _ _ (pyIter (Value.ref _)) _ _ _) | (with_reducible show wpAny _ _ (pyIter (Value.str _ _)) _ _ _) | (with_reducible show wpAny _ _ (exec (Stmt.While _ _ _ _) _) _ _ _))); (first | walk1 | (dsimp only; walk1) | (leave1; try dsimp only))))
    obtain rfl : (q0, q1) = R := by
      cases f <;> exact Option.some.inj hP
    exact hret _ _ _ _ ⟨lt, tq0, tq1, 0, rfl, kst_ltOf hT.2.2.2.2, rfl⟩ (by assumption) (news_sub (by assumption) (by ((repeat' (first | exact List.forall_mem_nil _ | refine List.forall_mem_cons.mpr ⟨?_, ?_⟩)); (all_goals (first | ((repeat' (first | assumption | exact List.Mem.head _ | refine List.Mem.tail _ ?_)); done) | (intro p hp; ((repeat' (first | assumption | exact List.Mem.head _ | refine List.Mem.tail _ ?_)); done)))))))
  · rw [mk_led] at N1
    rw [mk_pairs] at hP
    obtain ⟨⟨c1, c2, c3⟩, oN⟩ := mk_off hF
    obtain ⟨z1, z2, z3⟩ := oN.all (k := k) n1 n2 n3
    obtain ⟨nw, hnw⟩ : ∃ nw, nw = ledO k o ++ news := ⟨_, rfl⟩
    rw [← hnw] at N1 z1 z2 z3
    clear n1 n2 n3
    have n1 := z1
    have n2 := z2
    have n3 := z3
    clear z1 z2 z3
    cases f with
    | zero => exact absurd hP (by simp [raceRun])
    | succ f =>
    cases k with
    | false =>
      have hO : ∀ p ∈ ledO false o, p ∈ nw := fun p hp => hnw ▸ List.mem_append_left _ hp
      dsimp only [kI] at N1 hP
      try k_fold
      repeat' (first | (k_unfold; (try dsimp only)) | ((fail_if_success (first | (first | (with_reducible show KswEnd _ _ _ _ _ _ _ _ _ _ _ _) | (with_reducible show InvEndN _ _ _ _ _ _ _) | (with_reducible refine stop_mark ?h ?_; (case h => decide))) | (with_reducible show wpAny _ _ (pyIter (Value.ref _)) _ _ _) | (with_reducible show wpAny _ _ (pyIter (Value.str _ _)) _ _ _) | (with_reducible show wpAny _ _ (exec (Stmt.While _ _ _ _) _) _ _ _))); (first | walk1 | (dsimp only; walk1) | (leave1; try dsimp only))))
      refine wpAny_truthy_list ⟨_, N1.get (List.Mem.tail _ (List.Mem.tail _ (List.Mem.head _))), rfl, _, rfl⟩ (by show (((refsO o).length + 1 : Nat) : Int) < 2 ^ 63; have := refsO_le o; omega) ?_
      rw [show (!(Value.ref a :: refsO o).toArray.isEmpty) = true from rfl]
      repeat' (first | (k_unfold; (try dsimp only)) | ((fail_if_success (first | (first | (with_reducible show KswEnd _ _ _ _ _ _ _ _ _ _ _ _) | (with_reducible show InvEndN _ _ _ _ _ _ _) | (with_reducible refine stop_mark ?h ?_; (case h => decide))) | (with_reducible show wpAny _ _ (pyIter (Value.ref _)) _ _ _) | (with_reducible show wpAny _ _ (pyIter (Value.str _ _)) _ _ _) | (with_reducible show wpAny _ _ (exec (Stmt.While _ _ _ _) _) _ _ _))); (first | walk1 | (dsimp only; walk1) | (leave1; try dsimp only))))
      · (rename News _ _ _ _ => lN9; k_dflt (refine Spec.use (N := lN9) (Spec.upd (l := l) (by k_upd) fun nw2 h1 h2 => replaceO_spec (k := false) h1 (h2 _ (by ((repeat' (first | assumption | exact List.Mem.head _ | refine List.Mem.tail _ ?_)); done)) c1) (fun p hp => h2 p (by have hm := hO p hp; ((repeat' (first | assumption | exact List.Mem.head _ | refine List.Mem.tail _ ?_)); done)) (n1 p (hO p hp))) (h2 _ (by ((repeat' (first | assumption | exact List.Mem.head _ | refine List.Mem.tail _ ?_)); done)) (by (refine neN ?_; (try dsimp only); omega)))) (by k_asm) (by k_asm) (by k_asm) (by k_asm) (by first | exact rfl | assumption) (by ktr_room) (by ktr_units) ?_))
        rintro r led' h3 tk3 ⟨rfl, rfl⟩ F3 N3
        rename _ < Int.fdiv _ _ => hlt
        have hlt' : p0 + 1 < two.fdiv 2 := hlt
        rename _ < _ ∧ _ < _ ∧ _ < _ ∧ _ < _ ∧ _ < _ ∧ _ < _ ∧ AllLt _ nw => hX
        repeat' (first | (k_unfold; (try dsimp only)) | ((fail_if_success (first | (first | (with_reducible show KswEnd _ _ _ _ _ _ _ _ _ _ _ _) | (with_reducible show InvEndN _ _ _ _ _ _ _) | (with_reducible refine stop_mark ?h ?_; (case h => decide))) | (with_reducible show wpAny _ _ (pyIter (Value.ref _)) _ _ _) | (with_reducible show wpAny _ _ (pyIter (Value.str _ _)) _ _ _) | (with_reducible show wpAny _ _ (exec (Stmt.While _ _ _ _) _) _ _ _))); (first | walk1 | (dsimp only; walk1) | (leave1; try dsimp only))))
        obtain ⟨D, sD, u0, u1, ⟨d1, d2, d3⟩, N4⟩ : ∃ D sD u0 u1, (lt < D ∧ lp < D ∧ l < D) ∧ News g' L' h3 ((lt, listOf #[.int (q0 + p1) u0, .int q1 tq1] 0) :: (lp, listOf #[.int (p0 + 1) u1, .int p1 tp1] 0) :: (l, listOf (putO o false D (v + one) 0) n) :: (D, tupOf (v + one) 0 sD tk' 0) :: nw) := ⟨_, _, _, _, ⟨hX.2.2.1, hX.2.2.2.1, hX.2.2.2.2.1⟩, news_sub N3 (by ((repeat' (first | exact List.forall_mem_nil _ | refine List.forall_mem_cons.mpr ⟨?_, ?_⟩)); (all_goals (first | ((repeat' (first | assumption | exact List.Mem.head _ | refine List.Mem.tail _ ?_)); done) | (intro p hp; ((repeat' (first | assumption | exact List.Mem.head _ | refine List.Mem.tail _ ?_)); done))))))⟩
        have e1 : @Ne Nat D l := Nat.ne_of_gt d3
        have e2 : @Ne Nat D lp := Nat.ne_of_gt d2
        have e3 : @Ne Nat D lt := Nat.ne_of_gt d1
        rw [raceRun] at hP
        dsimp only at hP
        rw [if_pos rfl, if_pos hlt'] at hP
        subst hnw
        cases o with
        | none => exact ksw_end (.c1 n D (v + one) false sD tk' 0, (p0 + 1, u1, p1, tp1), (q0 + p1, u0, q1, tq1), f) (by assumption) N4 (fun p hp => hp) ⟨e1, e2, e3⟩ (fun _ h => nomatch h) (by ksw_same) hP (Nat.lt_succ_self f)
        | some o =>
          rw [show pairsO false (some o) = [(o.v, 1)] from rfl] at hP
          dsimp only [putL] at hP
          by_cases hl : v + one < o.v ∨ (v + one = o.v ∧ (0 : Int) < 1)
          · rw [if_pos hl] at hP
            rw [show putO (some o) false D (v + one) 0 = #[.ref D, .ref o.b] from if_pos hl] at N4
            exact ksw_end (.c2 n D (v + one) false sD tk' 0 o.b o.v o.tv o.tk o.m, (p0 + 1, u1, p1, tp1), (q0 + p1, u0, q1, tq1), f) (by assumption) N4 (fun p hp => hp) ⟨e1, e2, e3, oN⟩ (fun _ h => nomatch h) (by ksw_same) hP (Nat.lt_succ_self f)
          · rw [if_neg hl] at hP
            rw [show putO (some o) false D (v + one) 0 = #[.ref o.b, .ref D] from if_neg hl] at N4
            exact ksw_end (.c2 n o.b o.v true o.tv o.tk o.m D (v + one) sD tk' 0, (p0 + 1, u1, p1, tp1), (q0 + p1, u0, q1, tq1), f) (by assumption) (led_swap N4) (fun p hp => hp) ⟨oN.1, oN.2.1, oN.2.2, e1, e2, e3⟩ (fun _ h => nomatch h) (by ksw_same) hP (Nat.lt_succ_self f)
      · (rename News _ _ _ _ => lN9; k_dflt (refine Spec.use (N := lN9) (Spec.upd (l := l) (by k_upd) fun nw2 h1 h2 => popO_spec (k := false) h1 (h2 _ (by ((repeat' (first | assumption | exact List.Mem.head _ | refine List.Mem.tail _ ?_)); done)) c1) (fun p hp => h2 p (by have hm := hO p hp; ((repeat' (first | assumption | exact List.Mem.head _ | refine List.Mem.tail _ ?_)); done)) (n1 p (hO p hp)))) (by k_asm) (by k_asm) (by k_asm) (by k_asm) (by first | exact rfl | assumption) (by ktr_room) (by ktr_units) ?_))
        rintro r led' h3 tk3 ⟨rfl, rfl⟩ F3 N3
        rename ¬ _ < Int.fdiv _ _ => hlt
        have hlt' : ¬ p0 + 1 < two.fdiv 2 := hlt
        repeat' (first | (k_unfold; (try dsimp only)) | ((fail_if_success (first | (first | (with_reducible show KswEnd _ _ _ _ _ _ _ _ _ _ _ _) | (with_reducible show InvEndN _ _ _ _ _ _ _) | (with_reducible refine stop_mark ?h ?_; (case h => decide))) | (with_reducible show wpAny _ _ (pyIter (Value.ref _)) _ _ _) | (with_reducible show wpAny _ _ (pyIter (Value.str _ _)) _ _ _) | (with_reducible show wpAny _ _ (exec (Stmt.While _ _ _ _) _) _ _ _))); (first | walk1 | (dsimp only; walk1) | (leave1; try dsimp only))))
        obtain ⟨u0, u1, N4⟩ : ∃ u0 u1, News g' L' h3 ((lt, listOf #[.int (q0 + p1) u0, .int q1 tq1] 0) :: (lp, listOf #[.int (p0 + 1) u1, .int p1 tp1] 0) :: (l, listOf (refsO o).toArray (n + 1)) :: nw) := ⟨_, _, news_sub N3 (by ((repeat' (first | exact List.forall_mem_nil _ | refine List.forall_mem_cons.mpr ⟨?_, ?_⟩)); (all_goals (first | ((repeat' (first | assumption | exact List.Mem.head _ | refine List.Mem.tail _ ?_)); done) | (intro p hp; ((repeat' (first | assumption | exact List.Mem.head _ | refine List.Mem.tail _ ?_)); done))))))⟩
        rw [raceRun] at hP
        dsimp only at hP
        rw [if_pos rfl, if_neg hlt'] at hP
        subst hnw
        cases o with
        | none => exact ksw_end (.c0 (n + 1), (p0 + 1, u1, p1, tp1), (q0 + p1, u0, q1, tq1), f) (by assumption) N4 (fun p hp => hp) trivial (fun _ h => nomatch h) (by ksw_same) hP (Nat.lt_succ_self f)
        | some o => exact ksw_end (.c1 (n + 1) o.b o.v true o.tv o.tk o.m, (p0 + 1, u1, p1, tp1), (q0 + p1, u0, q1, tq1), f) (by assumption) N4 (fun p hp => hp) oN (fun _ h => nomatch h) (by ksw_same) hP (Nat.lt_succ_self f)
    | true =>
      have hO : ∀ p ∈ ledO true o, p ∈ nw := fun p hp => hnw ▸ List.mem_append_left _ hp
      dsimp only [kI] at N1 hP
      try k_fold
      repeat' (first | (k_unfold; (try dsimp only)) | ((fail_if_success (first | (first | (with_reducible show KswEnd _ _ _ _ _ _ _ _ _ _ _ _) | (with_reducible show InvEndN _ _ _ _ _ _ _) | (with_reducible refine stop_mark ?h ?_; (case h => decide))) | (with_reducible show wpAny _ _ (pyIter (Value.ref _)) _ _ _) | (with_reducible show wpAny _ _ (pyIter (Value.str _ _)) _ _ _) | (with_reducible show wpAny _ _ (exec (Stmt.While _ _ _ _) _) _ _ _))); (first | walk1 | (dsimp only; walk1) | (leave1; try dsimp only))))
      refine wpAny_truthy_list ⟨_, N1.get (List.Mem.tail _ (List.Mem.tail _ (List.Mem.head _))), rfl, _, rfl⟩ (by show (((refsO o).length + 1 : Nat) : Int) < 2 ^ 63; have := refsO_le o; omega) ?_
      rw [show (!(Value.ref a :: refsO o).toArray.isEmpty) = true from rfl]
      repeat' (first | (k_unfold; (try dsimp only)) | ((fail_if_success (first | (first | (with_reducible show KswEnd _ _ _ _ _ _ _ _ _ _ _ _) | (with_reducible show InvEndN _ _ _ _ _ _ _) | (with_reducible refine stop_mark ?h ?_; (case h => decide))) | (with_reducible show wpAny _ _ (pyIter (Value.ref _)) _ _ _) | (with_reducible show wpAny _ _ (pyIter (Value.str _ _)) _ _ _) | (with_reducible show wpAny _ _ (exec (Stmt.While _ _ _ _) _) _ _ _))); (first | walk1 | (dsimp only; walk1) | (leave1; try dsimp only))))
      · (rename News _ _ _ _ => lN9; k_dflt (refine Spec.use (N := lN9) (Spec.upd (l := l) (by k_upd) fun nw2 h1 h2 => replaceO_spec (k := true) h1 (h2 _ (by ((repeat' (first | assumption | exact List.Mem.head _ | refine List.Mem.tail _ ?_)); done)) c1) (fun p hp => h2 p (by have hm := hO p hp; ((repeat' (first | assumption | exact List.Mem.head _ | refine List.Mem.tail _ ?_)); done)) (n1 p (hO p hp))) (h2 _ (by ((repeat' (first | assumption | exact List.Mem.head _ | refine List.Mem.tail _ ?_)); done)) (by (refine neN ?_; (try dsimp only); omega)))) (by k_asm) (by k_asm) (by k_asm) (by k_asm) (by first | exact rfl | assumption) (by ktr_room) (by ktr_units) ?_))
        rintro r led' h3 tk3 ⟨rfl, rfl⟩ F3 N3
        rename _ < Int.fdiv _ _ => hlt
        have hlt' : p1 + 1 < one.fdiv 2 := hlt
        rename _ < _ ∧ _ < _ ∧ _ < _ ∧ _ < _ ∧ _ < _ ∧ _ < _ ∧ AllLt _ nw => hX
        repeat' (first | (k_unfold; (try dsimp only)) | ((fail_if_success (first | (first | (with_reducible show KswEnd _ _ _ _ _ _ _ _ _ _ _ _) | (with_reducible show InvEndN _ _ _ _ _ _ _) | (with_reducible refine stop_mark ?h ?_; (case h => decide))) | (with_reducible show wpAny _ _ (pyIter (Value.ref _)) _ _ _) | (with_reducible show wpAny _ _ (pyIter (Value.str _ _)) _ _ _) | (with_reducible show wpAny _ _ (exec (Stmt.While _ _ _ _) _) _ _ _))); (first | walk1 | (dsimp only; walk1) | (leave1; try dsimp only))))
        obtain ⟨D, sD, u0, u1, ⟨d1, d2, d3⟩, N4⟩ : ∃ D sD u0 u1, (lt < D ∧ lp < D ∧ l < D) ∧ News g' L' h3 ((lt, listOf #[.int q0 tq0, .int (q1 + p0) u0] 0) :: (lp, listOf #[.int p0 tp0, .int (p1 + 1) u1] 0) :: (l, listOf (putO o true D (v + two) 1) n) :: (D, tupOf (v + two) 1 sD tk' 0) :: nw) := ⟨_, _, _, _, ⟨hX.2.2.1, hX.2.2.2.1, hX.2.2.2.2.1⟩, news_sub N3 (by ((repeat' (first | exact List.forall_mem_nil _ | refine List.forall_mem_cons.mpr ⟨?_, ?_⟩)); (all_goals (first | ((repeat' (first | assumption | exact List.Mem.head _ | refine List.Mem.tail _ ?_)); done) | (intro p hp; ((repeat' (first | assumption | exact List.Mem.head _ | refine List.Mem.tail _ ?_)); done))))))⟩
        have e1 : @Ne Nat D l := Nat.ne_of_gt d3
        have e2 : @Ne Nat D lp := Nat.ne_of_gt d2
        have e3 : @Ne Nat D lt := Nat.ne_of_gt d1
        rw [raceRun] at hP
        dsimp only at hP
        rw [if_neg (by decide), if_pos hlt'] at hP
        subst hnw
        cases o with
        | none => exact ksw_end (.c1 n D (v + two) true sD tk' 0, (p0, tp0, p1 + 1, u1), (q0, tq0, q1 + p0, u0), f) (by assumption) N4 (fun p hp => hp) ⟨e1, e2, e3⟩ (fun _ h => nomatch h) (by ksw_same) hP (Nat.lt_succ_self f)
        | some o =>
          rw [show pairsO true (some o) = [(o.v, 0)] from rfl] at hP
          dsimp only [putL] at hP
          by_cases hl : v + two < o.v ∨ (v + two = o.v ∧ (1 : Int) < 0)
          · rw [if_pos hl] at hP
            rw [show putO (some o) true D (v + two) 1 = #[.ref D, .ref o.b] from if_pos hl] at N4
            exact ksw_end (.c2 n D (v + two) true sD tk' 0 o.b o.v o.tv o.tk o.m, (p0, tp0, p1 + 1, u1), (q0, tq0, q1 + p0, u0), f) (by assumption) N4 (fun p hp => hp) ⟨e1, e2, e3, oN⟩ (fun _ h => nomatch h) (by ksw_same) hP (Nat.lt_succ_self f)
          · rw [if_neg hl] at hP
            rw [show putO (some o) true D (v + two) 1 = #[.ref o.b, .ref D] from if_neg hl] at N4
            exact ksw_end (.c2 n o.b o.v false o.tv o.tk o.m D (v + two) sD tk' 0, (p0, tp0, p1 + 1, u1), (q0, tq0, q1 + p0, u0), f) (by assumption) (led_swap N4) (fun p hp => hp) ⟨oN.1, oN.2.1, oN.2.2, e1, e2, e3⟩ (fun _ h => nomatch h) (by ksw_same) hP (Nat.lt_succ_self f)
      · (rename News _ _ _ _ => lN9; k_dflt (refine Spec.use (N := lN9) (Spec.upd (l := l) (by k_upd) fun nw2 h1 h2 => popO_spec (k := true) h1 (h2 _ (by ((repeat' (first | assumption | exact List.Mem.head _ | refine List.Mem.tail _ ?_)); done)) c1) (fun p hp => h2 p (by have hm := hO p hp; ((repeat' (first | assumption | exact List.Mem.head _ | refine List.Mem.tail _ ?_)); done)) (n1 p (hO p hp)))) (by k_asm) (by k_asm) (by k_asm) (by k_asm) (by first | exact rfl | assumption) (by ktr_room) (by ktr_units) ?_))
        rintro r led' h3 tk3 ⟨rfl, rfl⟩ F3 N3
        rename ¬ _ < Int.fdiv _ _ => hlt
        have hlt' : ¬ p1 + 1 < one.fdiv 2 := hlt
        repeat' (first | (k_unfold; (try dsimp only)) | ((fail_if_success (first | (first | (with_reducible show KswEnd _ _ _ _ _ _ _ _ _ _ _ _) | (with_reducible show InvEndN _ _ _ _ _ _ _) | (with_reducible refine stop_mark ?h ?_; (case h => decide))) | (with_reducible show wpAny _ _ (pyIter (Value.ref _)) _ _ _) | (with_reducible show wpAny _ _ (pyIter (Value.str _ _)) _ _ _) | (with_reducible show wpAny _ _ (exec (Stmt.While _ _ _ _) _) _ _ _))); (first | walk1 | (dsimp only; walk1) | (leave1; try dsimp only))))
        obtain ⟨u0, u1, N4⟩ : ∃ u0 u1, News g' L' h3 ((lt, listOf #[.int q0 tq0, .int (q1 + p0) u0] 0) :: (lp, listOf #[.int p0 tp0, .int (p1 + 1) u1] 0) :: (l, listOf (refsO o).toArray (n + 1)) :: nw) := ⟨_, _, news_sub N3 (by ((repeat' (first | exact List.forall_mem_nil _ | refine List.forall_mem_cons.mpr ⟨?_, ?_⟩)); (all_goals (first | ((repeat' (first | assumption | exact List.Mem.head _ | refine List.Mem.tail _ ?_)); done) | (intro p hp; ((repeat' (first | assumption | exact List.Mem.head _ | refine List.Mem.tail _ ?_)); done))))))⟩
        rw [raceRun] at hP
        dsimp only at hP
        rw [if_neg (by decide), if_neg hlt'] at hP
        subst hnw
        cases o with
        | none => exact ksw_end (.c0 (n + 1), (p0, tp0, p1 + 1, u1), (q0, tq0, q1 + p0, u0), f) (by assumption) N4 (fun p hp => hp) trivial (fun _ h => nomatch h) (by ksw_same) hP (Nat.lt_succ_self f)
        | some o => exact ksw_end (.c1 (n + 1) o.b o.v false o.tv o.tk o.m, (p0, tp0, p1 + 1, u1), (q0, tq0, q1 + p0, u0), f) (by assumption) N4 (fun p hp => hp) oN (fun _ h => nomatch h) (by ksw_same) hP (Nat.lt_succ_self f)

section
variable {prog : Program} {w : World} {A : Around} {E : Value → Shared → Prop} {s : Shared} {env : Env} {h₀ : Heap} {x : Str} {body : List Stmt} {Q : Flow → Shared → Prop}
/-- the end of a turn of a for whose things may move -/
def TEnd {σ : Type} (h₀ : Heap) (L : Addr) (s : Shared) (Led : σ → List (Addr × Obj)) (ps : σ → List (Str × Value)) (Facts : σ → Prop) (x : Str) (stored : List Str) (m₀ : Str → Option Value) (P : List Nat → σ → Prop) (pre : List Nat) (I : Addr) (oI : Obj) (s₂ : Shared) : Prop :=
  ∃ (c : σ) (h' : Heap) (tk : Nat) (m' : Str → Option Value) (news' : List (Addr × Obj)), s₂ = { s with heap := h', toks := tk } ∧ Fr h₀ L h' m' ∧ News h₀ L h' news' ∧ (I, oI) ∈ news' ∧ (∀ p ∈ Led c, p ∈ news') ∧ (∀ p ∈ Led c, p.1 ≠ I) ∧ Facts c ∧ (∀ p ∈ ps c, m' p.1 = some p.2) ∧ (∀ z, z ≠ x → (∀ p ∈ ps c, z ≠ p.1) → stored.contains z = false → m' z = m₀ z) ∧ P pre c
def TPost {σ : Type} (h₀ : Heap) (L : Addr) (s : Shared) (Led : σ → List (Addr × Obj)) (ps : σ → List (Str × Value)) (Facts : σ → Prop) (x : Str) (stored : List Str) (m₀ : Str → Option Value) (P : List Nat → σ → Prop) (pre : List Nat) (I : Addr) (oI : Obj) (Q : Flow → Shared → Prop) (f : Flow) (s₂ : Shared) : Prop :=
  match f with
  | .ret v => Q (.ret v) s₂
  | .brk => Q .next s₂
  | _ => TEnd h₀ L s Led ps Facts x stored m₀ P pre I oI s₂
theorem tend {σ : Type} {L : Addr} {Led : σ → List (Addr × Obj)} {ps : σ → List (Str × Value)} {Facts : σ → Prop} {stored : List Str} {m₀ m' : Str → Option Value} {P : List Nat → σ → Prop} {pre : List Nat} {I : Addr} {oI : Obj} {h' : Heap} {tk : Nat} {news' : List (Addr × Obj)} (c : σ)
    (F : Fr h₀ L h' m') (N : News h₀ L h' news') (hI : (I, oI) ∈ news') (hn : ∀ p ∈ Led c, p ∈ news') (hne : ∀ p ∈ Led c, p.1 ≠ I) (hf : Facts c) (hk : ∀ p ∈ ps c, m' p.1 = some p.2) (hr : ∀ z, z ≠ x → (∀ p ∈ ps c, z ≠ p.1) → stored.contains z = false → m' z = m₀ z) (hp : P pre c) :
    TEnd h₀ L s Led ps Facts x stored m₀ P pre I oI { s with heap := h', toks := tk } := ⟨c, h', tk, m', news', rfl, F, N, hI, hn, hne, hf, hk, hr, hp⟩
theorem TPost.next {σ : Type} {L : Addr} {Led : σ → List (Addr × Obj)} {ps : σ → List (Str × Value)} {Facts : σ → Prop} {stored : List Str} {m₀ : Str → Option Value} {P : List Nat → σ → Prop} {pre : List Nat} {I : Addr} {oI : Obj} {s₂ : Shared} (h : TEnd h₀ L s Led ps Facts x stored m₀ P pre I oI s₂) : TPost h₀ L s Led ps Facts x stored m₀ P pre I oI Q .next s₂ := h
theorem text_free {σ : Type} {xt : Str} {tx : Tok} {m₀ : Str → Option Value} (Led : σ → List (Addr × Obj)) (ps : σ → List (Str × Value)) (Facts : σ → Prop) (stored : List Str) (P : List Nat → σ → Prop) (c₀ : σ)
    (hasc : xt.cps.all (· < 128) = true) (hh : A.handled = none) (F : Fr h₀ env.locals s.heap m₀) (N : News h₀ env.locals s.heap (Led c₀)) (hf : Facts c₀) (hk : ∀ p ∈ ps c₀, m₀ p.1 = some p.2) (hp : P [] c₀)
    (turn : ∀ (c : σ) (pre post : List Nat) (n : Nat) t (u : Str → Option Value) h tk I oI, xt.cps.toList = pre ++ n :: post → Facts c → P pre c → (∀ p ∈ Led c, p.1 ≠ I) →
      Fr h₀ env.locals h (fun y => if y = x then some (.str ⟨#[n]⟩ t) else kstB (fun z => if stored.contains z then u z else m₀ z) (ps c) y) → News h₀ env.locals h ((I, oI) :: Led c) →
      wpAny (model prog w) A (execs body env) (TPost h₀ env.locals { s with heap := h, toks := tk } Led ps Facts x stored m₀ P (pre ++ [n]) I oI Q) E { s with heap := h, toks := tk })
    (done : ∀ (c : σ) (u : Str → Option Value) h tk, Facts c → P xt.cps.toList c → Fr h₀ env.locals h (fun y => if y = x then u y else kstB (fun z => if stored.contains z then u z else m₀ z) (ps c) y) → News h₀ env.locals h (Led c) → Q .next { s with heap := h, toks := tk }) :
    wpAny (model prog w) A (pyIter (.str xt tx)) (fun it s₂ => LoopAtV prog w A h₀ env x body Q E it s₂) E s := by
  obtain ⟨z1, z2, z3⟩ := next_apart F N
  refine wpAny_pyIter_ascii hasc ⟨s.heap.objs.size, _, _, xt.cps.size, _, _, m₀, Led c₀,
    fun i m nx => (∀ p ∈ nx, p.1 ≠ s.heap.objs.size) ∧ ∃ c : σ, nx = Led c ∧ Facts c ∧ (∀ p ∈ ps c, m p.1 = some p.2) ∧ (∀ z, z ≠ x → (∀ p ∈ ps c, z ≠ p.1) → stored.contains z = false → m z = m₀ z) ∧ P (xt.cps.toList.take i) c,
    rfl, Walks.strAscii (prog := prog) (w := w) hh s.heap.objs.size xt tx, z1, z2, z3, ⟨_, Heap.get?_push_size _ rfl, rfl, rfl⟩, F.push _, (fun p hp => ⟨Heap.get?_push_of_some _ (N p hp).1, (N p hp).2⟩),
    ⟨fun p hp => Nat.ne_of_lt (Heap.lt_size (N p hp).1), c₀, rfl, hf, hk, fun _ _ _ _ => rfl, by simpa using hp⟩, ?_, ?_⟩
  · rintro i v m₁ nx s₁ own ⟨hh', tk', rfl⟩ hin ⟨n, u, hn, rfl⟩ ⟨hoff, c, rfl, hf', h1, h2, hp'⟩ _ hown hget hall hst F₁ N₁
    obtain ⟨oI, hoI, _⟩ := hst
    have hIo : (s.heap.objs.size, oI) ∈ own := hall _ (List.mem_singleton.mpr rfl) (next_is_new F) _ hoI
    have hs : xt.cps.toList.take (i + 1) = xt.cps.toList.take i ++ [n] := by
      have : xt.cps.toList[i]? = some n := by simpa using hn
      simp [List.take_add_one, this]
    have e : xt.cps.toList = xt.cps.toList.take i ++ n :: xt.cps.toList.drop (i + 1) := by
      have ht := congrArg (· ++ xt.cps.toList.drop (i + 1)) hs
      simpa using ht
    have N₂ : News h₀ env.locals hh' ((s.heap.objs.size, oI) :: Led c) := fun p hp => (List.mem_cons.mp hp).elim (fun e => e ▸ N₁ _ (List.mem_append_left _ hIo)) fun h => N₁ p (List.mem_append_right _ h)
    refine wpAny_mono (turn c _ _ n u m₁ hh' tk' s.heap.objs.size oI e hf' hp' hoff (kst_fr h1 h2 F₁) N₂) (fun f s₂ p => ?_) fun _ _ x => x
    have fin : TEnd h₀ env.locals { s with heap := hh', toks := tk' } Led ps Facts x stored m₀ P (xt.cps.toList.take i ++ [n]) s.heap.objs.size oI s₂ → LoopStepU h₀ env.locals [s.heap.objs.size] own (fun m nx => (∀ p ∈ nx, p.1 ≠ s.heap.objs.size) ∧ ∃ c : σ, nx = Led c ∧ Facts c ∧ (∀ p ∈ ps c, m p.1 = some p.2) ∧ (∀ z, z ≠ x → (∀ p ∈ ps c, z ≠ p.1) → stored.contains z = false → m z = m₀ z) ∧ P (xt.cps.toList.take (i + 1)) c) { s with heap := hh', toks := tk' } .next s₂ := by
      rintro ⟨c', h', tk, m', news', e', F', N', hI', hn', hne', hf9, hk9, hr9, hp9⟩
      refine ⟨rfl, h', tk, m', Led c', e', F', fun p hp => ?_, fun p hp hq => hne' p hp (List.mem_singleton.mp hq), hne', c', rfl, hf9, hk9, hr9, by rw [hs]; exact hp9⟩
      rcases List.mem_append.mp hp with h | h
      · have e1 : p.1 = s.heap.objs.size := List.mem_singleton.mp (hown p h)
        have e2 : p = (s.heap.objs.size, oI) := by
          have h3 := hget p h
          rw [e1] at h3
          rw [hoI] at h3
          obtain ⟨pa, po⟩ := p
          cases e1
          cases h3
          rfl
        rw [e2]
        exact N' _ hI'
      · exact N' p (hn' p h)
    cases f with
    | ret v => exact .ret p
    | brk => exact .brk p
    | next => exact .next (fin p)
    | cont => exact .cont (fin p)
  · rintro h' tk m' news' F' N' _ ⟨_, c, rfl, hf', h1, h2, hp'⟩
    have hl : xt.cps.toList.take xt.cps.size = xt.cps.toList := List.take_of_length_le (by simp)
    rw [hl] at hp'
    exact done c m' h' tk hf' hp' (kst_frOut h1 h2 F') N'
end

set_option linter.unusedVariables false
/-- Whitespace.__init__'s turn: count, b, n, nt -/
def wstep (st : List Int × Int × Int × Int) (ch : Nat) : List Int × Int × Int × Int :=
  if ch = 32 then (st.1, st.2.1 + 1, st.2.2.1 + 1, st.2.2.2)
  else
    let ct := if (st.1.length : Int) ≤ st.2.1 then st.1 ++ (List.replicate (st.2.1 - (st.1.length : Int) + 1).toNat [0]).flatten else st.1
    (ct.set st.2.1.toNat (ct.getD st.2.1.toNat 0 + 1), 0, st.2.2.1 + 1, st.2.2.2 + 1)
def wfold (pre : List Nat) : List Int × Int × Int × Int := pre.foldl wstep ([], 0, 0, 0)
structure WSt where
  ca : Addr
  vs : List Value
  ns : List Int
  k : Nat
  b : Int
  tb : Tok
  n : Int
  tn : Tok
  nt : Int
  tnt : Tok
def WP (pre : List Nat) (c : WSt) : Prop := (c.ns, c.b, c.n, c.nt) = wfold pre ∧ (∀ ch ∈ pre, ch = 32 ∨ ch = 9) ∧ 0 ≤ c.b ∧ c.b ≤ (pre.length : Int) ∧ c.ns.length ≤ pre.length
theorem ne_of_cls {h₀ h : Heap} {L a b : Addr} {o o' : Obj} {l : List (Addr × Obj)} (N : News h₀ L h l) (ha : (a, o) ∈ l) (hb : (b, o') ∈ l) (hc : (o.cls == o'.cls) = false) : @Ne Nat a b := by
  rintro rfl
  have h1 := (N _ ha).1
  rw [(N _ hb).1] at h1
  cases h1
  simp at hc
theorem sign_is {ch : Nat} (h : (({ cps := #[ch] } : Str) == Str.ofString " ") = true) : ch = 32 := by
  rw [show Str.ofString " " = ⟨#[32]⟩ from by decide +kernel] at h
  have := eq_of_beq h
  injection this with h1
  simpa using h1
theorem sign_not {ch : Nat} (h : (({ cps := #[ch] } : Str) == Str.ofString " ") = false) : ch ≠ 32 := by
  rw [show Str.ofString " " = ⟨#[32]⟩ from by decide +kernel] at h
  rintro rfl
  simp at h
theorem tab_is {ch : Nat} (h : (({ cps := #[ch] } : Str) == Str.ofString "\t") = true) : ch = 9 := by
  rw [show Str.ofString "\t" = ⟨#[9]⟩ from by decide +kernel] at h
  have := eq_of_beq h
  injection this with h1
  simpa using h1
theorem tab_not {ch : Nat} (h : (({ cps := #[ch] } : Str) == Str.ofString "\t") = false) : ch ≠ 9 := by
  rw [show Str.ofString "\t" = ⟨#[9]⟩ from by decide +kernel] at h
  rintro rfl
  simp at h
theorem wfold_snoc (pre : List Nat) (ch : Nat) : wfold (pre ++ [ch]) = wstep (wfold pre) ch := by simp [wfold]
theorem all_snoc {pre : List Nat} {ch : Nat} (h : ∀ c ∈ pre, c = 32 ∨ c = 9) (hc : ch = 32 ∨ ch = 9) : ∀ c ∈ pre ++ [ch], c = 32 ∨ c = 9 := by
  intro c hm
  rcases List.mem_append.mp hm with h1 | h1
  · exact h c h1
  · rw [List.mem_singleton.mp h1]; exact hc
theorem wp_blank {pre : List Nat} {ch : Nat} {ca ca' : Addr} {vs vs' : List Value} {ns : List Int} {k k' : Nat} {b n nt : Int} {t1 t2 t3 u1 u2 u3 : Tok} (h : WP pre ⟨ca, vs, ns, k, b, t1, n, t2, nt, t3⟩) (hc : ch = 32) : WP (pre ++ [ch]) ⟨ca', vs', ns, k', b + 1, u1, n + 1, u2, nt, u3⟩ := by
  obtain ⟨hw, hall, h0, h1, h2⟩ := h
  dsimp only at hw h0 h1 h2
  refine ⟨?_, all_snoc hall (.inl hc), by dsimp only; omega, by simp only [List.length_append, List.length_cons, List.length_nil]; omega, by simp only [List.length_append, List.length_cons, List.length_nil]; omega⟩
  rw [wfold_snoc, ← hw, wstep, if_pos hc]
theorem wp_tab1 {pre : List Nat} {ch : Nat} {ca ca' : Addr} {vs vs' : List Value} {ns : List Int} {k k' : Nat} {b n nt : Int} {t1 t2 t3 u1 u2 u3 : Tok} (h : WP pre ⟨ca, vs, ns, k, b, t1, n, t2, nt, t3⟩) (hc : ch = 9) (hl : (ns.length : Int) ≤ b) :
    WP (pre ++ [ch]) ⟨ca', vs', (ns ++ (List.replicate (b - (ns.length : Int) + 1).toNat [0]).flatten).set b.toNat ((ns ++ (List.replicate (b - (ns.length : Int) + 1).toNat [0]).flatten).getD b.toNat 0 + 1), k', 0, u1, n + 1, u2, nt + 1, u3⟩ := by
  obtain ⟨hw, hall, h0, h1, h2⟩ := h
  dsimp only at hw h0 h1 h2
  refine ⟨?_, all_snoc hall (.inr hc), Int.le_refl _, by dsimp only; omega, ?_⟩
  · rw [wfold_snoc, ← hw, wstep, if_neg (by omega)]
    dsimp only
    rw [if_pos hl]
  · dsimp only
    have e : ((List.replicate (b - (ns.length : Int) + 1).toNat [(0 : Int)]).flatten).length = (b - (ns.length : Int) + 1).toNat := by simp
    rw [List.length_set, List.length_append, List.length_append, e]
    simp only [List.length_cons, List.length_nil]
    omega
theorem wp_tab2 {pre : List Nat} {ch : Nat} {ca ca' : Addr} {vs vs' : List Value} {ns : List Int} {k k' : Nat} {b n nt : Int} {t1 t2 t3 u1 u2 u3 : Tok} (h : WP pre ⟨ca, vs, ns, k, b, t1, n, t2, nt, t3⟩) (hc : ch = 9) (hl : ¬ (ns.length : Int) ≤ b) :
    WP (pre ++ [ch]) ⟨ca', vs', ns.set b.toNat (ns.getD b.toNat 0 + 1), k', 0, u1, n + 1, u2, nt + 1, u3⟩ := by
  obtain ⟨hw, hall, h0, h1, h2⟩ := h
  dsimp only at hw h0 h1 h2
  refine ⟨?_, all_snoc hall (.inr hc), Int.le_refl _, by dsimp only; omega, ?_⟩
  · rw [wfold_snoc, ← hw, wstep, if_neg (by omega)]
    dsimp only
    rw [if_neg hl]
  · dsimp only
    rw [List.length_set, List.length_append]
    omega
theorem cut_at : ∀ {pre body post : List Nat} {ch : Nat}, pre ++ ch :: post = body ++ [120, 9] → (∀ c ∈ pre, c = 32 ∨ c = 9) → (∀ c ∈ body, c = 32 ∨ c = 9) → ch ≠ 32 → ch ≠ 9 → pre = body
  | [], [], _, _, _, _, _, _, _ => rfl
  | [], c :: body, _, ch, h, _, hb, h1, h2 => by
    have : ch = c := by simpa using congrArg List.head? h
    rcases hb c (List.Mem.head _) with e | e <;> omega
  | c :: pre, [], _, ch, h, hp, _, h1, h2 => by
    have : c = 120 := by simpa using congrArg List.head? h
    rcases hp c (List.Mem.head _) with e | e <;> omega
  | c :: pre, d :: body, post, ch, h, hp, hb, h1, h2 => by
    simp only [List.cons_append, List.cons.injEq] at h
    rw [h.1, cut_at h.2 (fun x hx => hp x (List.Mem.tail _ hx)) (fun x hx => hb x (List.Mem.tail _ hx)) h1 h2]
set_option maxHeartbeats 2000000 in
theorem white_spec {prog : Program} {w : World} {mean : ExcName → Option Value} {mg mb : Str → Option Value} {xt : Str} {t : Tok} {news : List (Addr × Obj)} {body : List Nat} (hasc : xt.cps.all (· < 128) = true) (hlen : xt.cps.size < 5000) (hx : xt.cps.toList = body ++ [120, 9]) (hbody : ∀ ch ∈ body, ch = 32 ∨ ch = 9) :
   Spec prog w mean mg mb 60 300 136 [.str xt t] news (fun r led' => ∃ (x d Dn Dc : Addr) (vs : List Value) (k1 k2 k3 k4 k5 tb tn tnt : Tok) (bs : Bool), r = .ref x ∧ IntsAre vs (wfold body).1 ∧ (∀ p ∈ news, p.1 < d) ∧ d < x ∧ led' = (x, instObj 136 d) :: (d, dictOf [{ hash := PyData.keyHash w.params (Str.ofString "raw"), key := .str (Str.ofString "raw") k1, val := .str xt t }, { hash := PyData.keyHash w.params (Str.ofString "n"), key := .str (Str.ofString "n") k2, val := .int (wfold body).2.2.1 tn }, { hash := PyData.keyHash w.params (Str.ofString "nt"), key := .str (Str.ofString "nt") k3, val := .int (wfold body).2.2.2 tnt }, { hash := PyData.keyHash w.params (Str.ofString "norm"), key := .str (Str.ofString "norm") k4, val := .ref Dn }, { hash := PyData.keyHash w.params (Str.ofString "is_simple"), key := .str (Str.ofString "is_simple") k5, val := .bool bs }] 5) :: (Dn, { cls := .type "tuple", data := .seq #[.ref Dc, .int (wfold body).2.1 tb] }) :: (Dc, { cls := .type "tuple", data := .seq vs.toArray }) :: news) := by
  intro dp un gd cn cs a' ccd cl outer A₀ base h₀ L m s Q E B F X N T hk hd hu hret
  w_on
  k_dflt (refine' call_cls ?k1 ?k2 ?k3 ?k4 ?k5 ?k6 ?_; (case k1 => k_asm); (case k2 => k_asm); (case k3 => k_asm); (case k4 => k_is); (case k5 => k_is); (case k6 => k_is); k_whole; intro x' d' h' F' N' l1 l2; (try k_lt l1); (try k_lt2 l2); (try k_sweep))
  k_dflt (refine' code_def (binds := [(Str.ofString "self", .ref x'), (Str.ofString "ws", .str xt t)]) ?k1 ?k2 ?k3 ?k4 ?k5 ?kA ?kF ?kK ?k6 ?k7 ?k8 ?k9 ?kB ?_ ?c2 ?c3 ?c4 ?c5; (case kA => exact rfl); (case kF => exact rfl); (case kK => first | exact rfl | assumption); (case k1 => k_asm); (case k2 => k_asm); (case k3 => k_asm); (case k4 => k_asm); (case k5 => k_asm); (case k6 => k_is); (case k7 => k_is); (case k8 => ktr_room); (case k9 => first | exact BindsTo.of_eq rfl | exact kp_binds (by k_in) (fun _ => by with_unfolding_all rfl) | exact hb _ _ _ _ _ (by k_in) (by rfl) | fail "enter: no rule for these arguments"); (case c5 => decide); (case kB => exact locs rfl); (case c2 => exact rfl); (case c3 => exact rfl); (case c4 => exact rfl); k_whole; intro g' L' h1' FG' F' N' B' X' T'; (try dsimp only [List.reverse_cons, List.reverse_nil, List.nil_append, List.cons_append, List.length_cons, List.length_nil] at F'); (try dsimp only); (try k_fold))
  repeat' (first | (k_unfold; (try dsimp only)) | ((fail_if_success (first | (first | (with_reducible show KswEnd _ _ _ _ _ _ _ _ _ _ _ _) | (with_reducible show InvEndN _ _ _ _ _ _ _) | (with_reducible refine stop_mark ?h ?_; (case h => decide))) | (with_reducible show wpAny _ _ (pyIter (Value.ref _)) _ _ _) | (with_reducible show wpAny _ _ (pyIter (Value.str _ _)) _ _ _) | (with_reducible show wpAny _ _ (exec (Stmt.While _ _ _ _) _) _ _ _))); (first | walk1 | (dsimp only; walk1) | (leave1; try dsimp only))))
  rename_i q0 D1 q1 hB q2 q3 q4 ca q5 hA q6 q7 q8 q9 lF lN
  have hx1 : @Ne Nat x' ca := Nat.ne_of_lt hA.2.1
  have hx2 : @Ne Nat d' ca := Nat.ne_of_lt hA.2.2.1
  have hx3 : ∀ p ∈ news, p.1 ≠ ca := fun p hp => Nat.ne_of_lt (kst_ltOf hA.2.2.2 p hp)
  obtain ⟨tr, lM⟩ : ∃ tr, News g' L' q9 ((ca, listOf #[] 0) :: (x', instObj 136 d') :: (d', dictOf [{ hash := PyData.keyHash w.params (Str.ofString "raw"), key := .str (Str.ofString "raw") tr, val := .str xt t }] 1) :: news) := ⟨_, news_sub lN (by ((repeat' (first | exact List.forall_mem_nil _ | refine List.forall_mem_cons.mpr ⟨?_, ?_⟩)); (all_goals (first | ((repeat' (first | assumption | exact List.Mem.head _ | refine List.Mem.tail _ ?_)); done) | (intro p hp; ((repeat' (first | assumption | exact List.Mem.head _ | refine List.Mem.tail _ ?_)); done))))))⟩
  refine' text_free (σ := WSt) (fun c => (c.ca, listOf c.vs.toArray c.k) :: (x', instObj 136 d') :: (d', dictOf [{ hash := PyData.keyHash w.params (Str.ofString "raw"), key := .str (Str.ofString "raw") tr, val := .str xt t }] 1) :: news)
    (fun c => [(Str.ofString "count", .ref c.ca), (Str.ofString "b", .int c.b c.tb), (Str.ofString "n", .int c.n c.tn), (Str.ofString "nt", .int c.nt c.tnt)])
    (fun c => IntsAre c.vs c.ns ∧ @Ne Nat x' c.ca ∧ @Ne Nat d' c.ca ∧ ∀ p ∈ news, p.1 ≠ c.ca) [] WP ⟨ca, [], [], 0, 0, ?t1, 0, ?t2, 0, ?t3⟩ hasc (by rfl) lF lM ⟨.nil, hx1, hx2, hx3⟩ ?hk ⟨rfl, (fun _ h => nomatch h), Int.le_refl _, Int.le_refl _, Nat.le_refl _⟩ ?turn ?done
  case hk => kst_all
  case turn =>
    clear lF lN lM hx1 hx2 hx3
    rintro ⟨ca, vs, ns, k, b, tb, n, tn, nt, tnt⟩ pre post ch t3 u h tk I oI hxt ⟨hI, hx1, hx2, hx3⟩ hW hne F1 N1
    have hb0 := hW.2.2.1
    have hb1 := hW.2.2.2.1
    have hn1 := hW.2.2.2.2
    dsimp only [kstB] at F1 N1 hI hx1 hx2 hx3 hb0 hb1 hn1 hne ⊢
    have hpre : pre.length < 5000 := by
      have := congrArg List.length hxt
      simp only [Array.length_toList, List.length_append, List.length_cons] at this
      omega
    have hI1 : @Ne Nat ca I := hne _ (List.Mem.head _)
    have hI2 : @Ne Nat x' I := hne _ (List.Mem.tail _ (List.Mem.head _))
    have hI3 : @Ne Nat d' I := hne _ (List.Mem.tail _ (List.Mem.tail _ (List.Mem.head _)))
    have hI4 : ∀ p ∈ news, p.1 ≠ I := fun p hp => hne _ (List.Mem.tail _ (List.Mem.tail _ (List.Mem.tail _ hp)))
    try k_fold
    repeat' (first | (k_unfold; (try dsimp only)) | ((fail_if_success (first | (first | (with_reducible show KswEnd _ _ _ _ _ _ _ _ _ _ _ _) | (with_reducible show InvEndN _ _ _ _ _ _ _) | (with_reducible refine stop_mark ?h ?_; (case h => decide))) | (with_reducible show wpAny _ _ (pyIter (Value.ref _)) _ _ _) | (with_reducible show wpAny _ _ (pyIter (Value.str _ _)) _ _ _) | (with_reducible show wpAny _ _ (exec (Stmt.While _ _ _ _) _) _ _ _))); (first | walk1 | (dsimp only; walk1) | (leave1; try dsimp only))))
    · rename (_ == _) = true => hc
      exact TPost.next (tend ⟨ca, vs, ns, k, _, _, _, _, _, _⟩ (by assumption) (by assumption) (by ((repeat' (first | assumption | exact List.Mem.head _ | refine List.Mem.tail _ ?_)); done)) (by ((repeat' (first | exact List.forall_mem_nil _ | refine List.forall_mem_cons.mpr ⟨?_, ?_⟩)); (all_goals (first | ((repeat' (first | assumption | exact List.Mem.head _ | refine List.Mem.tail _ ?_)); done) | (intro p hp; ((repeat' (first | assumption | exact List.Mem.head _ | refine List.Mem.tail _ ?_)); done)))))) hne ⟨hI, hx1, hx2, hx3⟩ (by kst_all) (by kst_same) (wp_blank hW (sign_is hc)))
    · rename (_ == Str.ofString "\t") = true => hc
      rename (ns.length : Int) ≤ b => hl
      rename IntsAre (List.set _ _ _) _ => hI9
      rename _ < _ ∧ _ < _ ∧ _ < _ ∧ _ < _ ∧ _ < _ ∧ _ < _ ∧ AllLt _ news => hD
      refine TPost.next (tend ⟨_, _, _, 0, _, _, _, _, _, _⟩ (by assumption) (by assumption) (by ((repeat' (first | assumption | exact List.Mem.head _ | refine List.Mem.tail _ ?_)); done)) (by ((repeat' (first | exact List.forall_mem_nil _ | refine List.forall_mem_cons.mpr ⟨?_, ?_⟩)); (all_goals (first | ((repeat' (first | assumption | exact List.Mem.head _ | refine List.Mem.tail _ ?_)); done) | (intro p hp; ((repeat' (first | assumption | exact List.Mem.head _ | refine List.Mem.tail _ ?_)); done)))))) ?hne9 ⟨hI9, Nat.ne_of_lt hD.2.2.2.2.1, Nat.ne_of_lt hD.2.2.2.2.2.1, fun p hp => Nat.ne_of_lt (kst_ltOf hD.2.2.2.2.2.2 p hp)⟩ (by kst_all) (by kst_same) (wp_tab1 hW (tab_is hc) hl))
      case hne9 =>
        refine List.forall_mem_cons.mpr ⟨Nat.ne_of_gt hD.2.2.1, fun p hp => hne p (List.Mem.tail _ hp)⟩
    · rename (_ == Str.ofString "\t") = true => hc
      rename ¬ (ns.length : Int) ≤ b => hl
      rename IntsAre (List.set _ _ _) _ => hI9
      exact TPost.next (tend ⟨ca, _, _, k, _, _, _, _, _, _⟩ (by assumption) (by assumption) (by ((repeat' (first | assumption | exact List.Mem.head _ | refine List.Mem.tail _ ?_)); done)) (by ((repeat' (first | exact List.forall_mem_nil _ | refine List.forall_mem_cons.mpr ⟨?_, ?_⟩)); (all_goals (first | ((repeat' (first | assumption | exact List.Mem.head _ | refine List.Mem.tail _ ?_)); done) | (intro p hp; ((repeat' (first | assumption | exact List.Mem.head _ | refine List.Mem.tail _ ?_)); done)))))) (List.forall_mem_cons.mpr ⟨hI1, fun p hp => hne p (List.Mem.tail _ hp)⟩) ⟨hI9, hx1, hx2, hx3⟩ (by kst_all) (by kst_same) (wp_tab2 hW (tab_is hc) hl))
    · rename (_ == Str.ofString "\t") = false => hc2
      rename (_ == Str.ofString " ") = false => hc1
      obtain rfl : pre = body := cut_at (hxt ▸ hx) hW.2.1 hbody (sign_not hc1) (tab_not hc2)
      dsimp only [TPost]
      repeat' (first | (k_unfold; (try dsimp only)) | ((fail_if_success (first | (first | (with_reducible show KswEnd _ _ _ _ _ _ _ _ _ _ _ _) | (with_reducible show InvEndN _ _ _ _ _ _ _) | (with_reducible refine stop_mark ?h ?_; (case h => decide))) | (with_reducible show wpAny _ _ (pyIter (Value.ref _)) _ _ _) | (with_reducible show wpAny _ _ (pyIter (Value.str _ _)) _ _ _) | (with_reducible show wpAny _ _ (exec (Stmt.While _ _ _ _) _) _ _ _))); (first | walk1 | (dsimp only; walk1) | (leave1; try dsimp only))))
      rename News _ _ _ _ => lN9
      have hDd : @Ne Nat _ d' := ne_of_cls (o' := dictOf _ _) lN9 (List.Mem.tail _ (List.Mem.head _)) (by ((repeat' (first | assumption | exact List.Mem.head _ | refine List.Mem.tail _ ?_)); done)) (by rfl)
      repeat' (first | (k_unfold; (try dsimp only)) | ((fail_if_success (first | (first | (with_reducible show KswEnd _ _ _ _ _ _ _ _ _ _ _ _) | (with_reducible show InvEndN _ _ _ _ _ _ _) | (with_reducible refine stop_mark ?h ?_; (case h => decide))) | (with_reducible show wpAny _ _ (pyIter (Value.ref _)) _ _ _) | (with_reducible show wpAny _ _ (pyIter (Value.str _ _)) _ _ _) | (with_reducible show wpAny _ _ (exec (Stmt.While _ _ _ _) _) _ _ _))); (first | walk1 | (dsimp only; walk1) | (leave1; try dsimp only))))
      have hw : (ns, b, n, nt) = wfold pre := hW.1
      rename News _ _ _ _ => lN8
      refine' hret _ _ _ _ ⟨x', d', _, _, vs, tr, _, _, _, _, tb, tn, tnt, _, rfl, ?hi9, l1, l2, rfl⟩ (by assumption) ?hN9
      case hN9 =>
        rw [← hw]
        exact news_sub lN8 (by ((repeat' (first | exact List.forall_mem_nil _ | refine List.forall_mem_cons.mpr ⟨?_, ?_⟩)); (all_goals (first | ((repeat' (first | assumption | exact List.Mem.head _ | refine List.Mem.tail _ ?_)); done) | (intro p hp; ((repeat' (first | assumption | exact List.Mem.head _ | refine List.Mem.tail _ ?_)); done))))))
      case hi9 =>
        rw [← hw]
        exact hI
  case done =>
    rintro c u h tk _ hW _ _
    exact absurd (hW.2.1 120 (by rw [hx]; simp)) (by decide)

set_option linter.unusedVariables false
def ilF (ns : List Int) (size : Int) (is : List Int) : Int := is.foldl (fun il i => il + i.fdiv size * ns.getD i.toNat 0) 0
theorem getD_bound {ns : List Int} (h : ∀ i ∈ ns, 0 ≤ i ∧ i < 100000) (k : Nat) : 0 ≤ ns.getD k 0 ∧ ns.getD k 0 < 100000 := by
  rw [List.getD_eq_getElem?_getD]
  cases e : ns[k]? with
  | none => simp
  | some v => exact h v (List.mem_of_getElem? e)
theorem fdiv_bound {k size : Int} (h0 : 0 ≤ k) (h1 : 0 < size) : 0 ≤ k.fdiv size ∧ k.fdiv size ≤ k := by
  rw [Int.fdiv_eq_ediv_of_nonneg _ (Int.le_of_lt h1)]
  exact ⟨Int.ediv_nonneg h0 (Int.le_of_lt h1), Int.ediv_le_self _ h0⟩
set_option maxHeartbeats 2000000 in
theorem indent_spec {prog : Program} {w : World} {mean : ExcName → Option Value} {mg mb : Str → Option Value} {x d Dn Dc : Addr} {vs : List Value} {ns : List Int} {k1 k2 k3 k4 k5 tb tn tnt t t2 : Tok} {bs : Bool} {xt : Str} {n nt b size : Int} {news : List (Addr × Obj)}
    (hx : (x, instObj 136 d) ∈ news) (hdd : (d, dictOf [{ hash := PyData.keyHash w.params (Str.ofString "raw"), key := .str (Str.ofString "raw") k1, val := .str xt t }, { hash := PyData.keyHash w.params (Str.ofString "n"), key := .str (Str.ofString "n") k2, val := .int n tn }, { hash := PyData.keyHash w.params (Str.ofString "nt"), key := .str (Str.ofString "nt") k3, val := .int nt tnt }, { hash := PyData.keyHash w.params (Str.ofString "norm"), key := .str (Str.ofString "norm") k4, val := .ref Dn }, { hash := PyData.keyHash w.params (Str.ofString "is_simple"), key := .str (Str.ofString "is_simple") k5, val := .bool bs }] 5) ∈ news) (hDn : (Dn, ({ cls := .type "tuple", data := .seq #[.ref Dc, .int b tb] } : Obj)) ∈ news) (hDc : (Dc, ({ cls := .type "tuple", data := .seq vs.toArray } : Obj)) ∈ news)
    (hI : IntsAre vs ns) (hlen : ns.length < 5000) (hs1 : 0 < size) (hs2 : size < 100) (hns : ∀ i ∈ ns, 0 ≤ i ∧ i < 100000) :
   Spec prog w mean mg mb 60 300 105 [.ref x, .int size t2] news (fun r led' => (∃ t', r = .int (b + size * (ilF ns size (rangeKs size ((ns.length : Int) - size).toNat) + nt)) t') ∧ led' = news) := by
  intro dp un gd cn cs a' ccd cl outer A₀ base h₀ L m s Q E B F X N T hk hd hu hret
  refine wpAny_call ?_
  w_on
  k_dflt (refine' code_def (binds := [(Str.ofString "self", .ref x), (Str.ofString "tabsize", .int size t2)]) ?k1 ?k2 ?k3 ?k4 ?k5 ?kA ?kF ?kK ?k6 ?k7 ?k8 ?k9 ?kB ?_ ?c2 ?c3 ?c4 ?c5; (case kA => exact rfl); (case kF => exact rfl); (case kK => first | exact rfl | assumption); (case k1 => k_asm); (case k2 => k_asm); (case k3 => k_asm); (case k4 => k_asm); (case k5 => k_asm); (case k6 => k_is); (case k7 => k_is); (case k8 => ktr_room); (case k9 => first | exact BindsTo.of_eq rfl | exact kp_binds (by k_in) (fun _ => by with_unfolding_all rfl) | exact hb _ _ _ _ _ (by k_in) (by rfl) | fail "enter: no rule for these arguments"); (case c5 => decide); (case kB => exact locs rfl); (case c2 => exact rfl); (case c3 => exact rfl); (case c4 => exact rfl); k_whole; intro g' L' h1' FG' F' N' B' X' T'; (try dsimp only [List.reverse_cons, List.reverse_nil, List.nil_append, List.cons_append, List.length_cons, List.length_nil] at F'); (try dsimp only); (try k_fold))
  repeat' (first | (k_unfold; (try dsimp only)) | ((fail_if_success (first | (first | (with_reducible show KswEnd _ _ _ _ _ _ _ _ _ _ _ _) | (with_reducible show InvEndN _ _ _ _ _ _ _) | (with_reducible refine stop_mark ?h ?_; (case h => decide))) | (with_reducible show wpAny _ _ (pyIter (Value.ref _)) _ _ _) | (with_reducible show wpAny _ _ (pyIter (Value.str _ _)) _ _ _) | (with_reducible show wpAny _ _ (exec (Stmt.While _ _ _ _) _) _ _ _))); (first | walk1 | (dsimp only; walk1) | (leave1; try dsimp only))))
  rename News _ _ _ _ => lN1
  have hsz : vs.toArray.size = ns.length := by simp [hI.length]
  refine PyProof.Rows.len_tuple (items := vs.toArray) ⟨_, lN1.get hDc, rfl, _, rfl⟩ (by rw [hsz]; omega) ?_
  rw [hsz]
  repeat' (first | (k_unfold; (try dsimp only)) | ((fail_if_success (first | (first | (with_reducible show KswEnd _ _ _ _ _ _ _ _ _ _ _ _) | (with_reducible show InvEndN _ _ _ _ _ _ _) | (with_reducible refine stop_mark ?h ?_; (case h => decide))) | (with_reducible show wpAny _ _ (pyIter (Value.ref _)) _ _ _) | (with_reducible show wpAny _ _ (pyIter (Value.str _ _)) _ _ _) | (with_reducible show wpAny _ _ (exec (Stmt.While _ _ _ _) _) _ _ _))); (first | walk1 | (dsimp only; walk1) | (leave1; try dsimp only))))
  rename Fr _ _ _ _ => lF
  rename News _ _ _ _ => lN
  rename IsRange _ _ _ _ _ _ _ _ => lR
  refine' kst_range (σ := Int × Tok) (fun c => news) (fun c => [(Str.ofString "il", Value.int c.1 c.2)]) (fun c => True) []
    (fun pre c => c.1 = ilF ns size pre ∧ 0 ≤ c.1 ∧ c.1 ≤ 1000000000 * (pre.length : Int)) (0, ?t1) (by rfl) lR (small_one (by omega) (by omega) (by omega) (by omega)) (rangeSize_nat _ _) lF lN trivial ?hk ⟨rfl, Int.le_refl _, Int.le_refl _⟩ ?turn ?done
  case hk => kst_all
  case turn =>
    clear lF lN lR
    rintro ⟨il, ti⟩ pre k t3 u h tk own hk3 hlt hoff hF ⟨hP, hP0, hP1⟩ F1 N1
    dsimp only [kstB] at F1 N1 hF hP hP0 hP1 ⊢
    have hk0 : 0 ≤ k := by omega
    have hk1 : k < (ns.length : Int) := by omega
    have hg := getD_bound hns k.toNat
    have hq := fdiv_bound hk0 hs1
    try k_fold
    repeat' (first | (k_unfold; (try dsimp only)) | ((fail_if_success (first | (first | (with_reducible show KswEnd _ _ _ _ _ _ _ _ _ _ _ _) | (with_reducible show InvEndN _ _ _ _ _ _ _) | (with_reducible refine stop_mark ?h ?_; (case h => decide))) | (with_reducible show wpAny _ _ (pyIter (Value.ref _)) _ _ _) | (with_reducible show wpAny _ _ (pyIter (Value.str _ _)) _ _ _) | (with_reducible show wpAny _ _ (exec (Stmt.While _ _ _ _) _) _ _ _))); (first | walk1 | (dsimp only; walk1) | (leave1; try dsimp only))))
    refine kst_end (_, _) (by assumption) (by assumption) (fun p hp => List.mem_append_left _ hp) (fun p hp => List.mem_append_right _ hp) (by rfl) trivial (by kst_all) (by kst_same) ⟨?_, ?_, ?_⟩
    · show _ = (pre ++ [k]).foldl _ _
      rw [List.foldl_append, show pre.foldl _ _ = ilF ns size pre from rfl, ← hP]
      rfl
    · have := Int.mul_nonneg hq.1 hg.1
      dsimp only
      omega
    · have h1 := Int.mul_le_mul (show k.fdiv size ≤ 5000 by omega) (show ns.getD k.toNat 0 ≤ 100000 by omega) hg.1 (by decide)
      simp only [List.length_append, List.length_cons, List.length_nil]
      omega
  case done =>
    clear lF lN lR
    rintro ⟨il, ti⟩ u h tk hF ⟨hP, hP0, hP1⟩ F1 N1
    dsimp only [kstB] at F1 N1 hF hP hP0 hP1 ⊢
    repeat' (first | (k_unfold; (try dsimp only)) | ((fail_if_success (first | (first | (with_reducible show KswEnd _ _ _ _ _ _ _ _ _ _ _ _) | (with_reducible show InvEndN _ _ _ _ _ _ _) | (with_reducible refine stop_mark ?h ?_; (case h => decide))) | (with_reducible show wpAny _ _ (pyIter (Value.ref _)) _ _ _) | (with_reducible show wpAny _ _ (pyIter (Value.str _ _)) _ _ _) | (with_reducible show wpAny _ _ (exec (Stmt.While _ _ _ _) _) _ _ _))); (first | walk1 | (dsimp only; walk1) | (leave1; try dsimp only))))
    exact hret _ _ _ _ ⟨⟨_, by rw [← hP]⟩, rfl⟩ (by assumption) (by assumption)

def oneRun (k : Int) : Str := Txt.mul (Str.ofString " ") k ++ Str.ofString "\t"
def bodyL (rs : List Int) (tail : Int) : List Nat := (rs.map fun k => List.replicate k.toNat 32 ++ [9]).flatten ++ List.replicate tail.toNat 32
theorem blank_str : Str.ofString " " = ⟨#[32]⟩ := by decide +kernel
theorem tab_str : Str.ofString "\t" = ⟨#[9]⟩ := by decide +kernel
theorem xtab_str : Str.ofString "x\t" = ⟨#[120, 9]⟩ := by decide +kernel
theorem nil_str : Str.ofString "" = ⟨#[]⟩ := by decide +kernel
theorem oneRun_list (k : Int) : (oneRun k).cps.toList = List.replicate k.toNat 32 ++ [9] := by
  unfold oneRun
  rw [Str.cps_append, Array.toList_append, blank_str, mul_one_list, tab_str]
theorem foldl_join (l : List Str) : ∀ acc : Array Nat, (l.foldl (fun acc p => acc ++ (⟨#[]⟩ : Str).cps ++ p.cps) acc).toList = acc.toList ++ (l.map (·.cps.toList)).flatten := by
  induction l with
  | nil => intro acc; simp
  | cons p r ih =>
    intro acc
    rw [List.foldl_cons, ih]
    simp
theorem join_list_nil (l : List Str) : (Txt.join (Str.ofString "") l).cps.toList = (l.map (·.cps.toList)).flatten := by
  rw [nil_str]
  cases l with
  | nil => rfl
  | cons x r =>
    show (r.foldl (fun acc p => acc ++ (⟨#[]⟩ : Str).cps ++ p.cps) x.cps).toList = _
    rw [foldl_join]
    simp
theorem text_list (rs : List Int) (tail : Int) : ((Txt.join (Str.ofString "") (rs.map oneRun) ++ Txt.mul (Str.ofString " ") tail) ++ Str.ofString "x\t").cps.toList = bodyL rs tail ++ [120, 9] := by
  rw [Str.cps_append, Array.toList_append, Str.cps_append, Array.toList_append, join_list_nil, blank_str, mul_one_list, xtab_str]
  unfold bodyL
  rw [List.map_map]
  have e : ((fun x : Str => x.cps.toList) ∘ oneRun) = fun k : Int => List.replicate k.toNat 32 ++ [9] := by
    funext k
    exact oneRun_list k
  rw [e]
theorem bodyL_signs (rs : List Int) (tail : Int) : ∀ ch ∈ bodyL rs tail, ch = 32 ∨ ch = 9 := by
  intro ch h
  unfold bodyL at h
  rcases List.mem_append.mp h with h | h
  · obtain ⟨l, hl, hc⟩ := List.mem_flatten.mp h
    obtain ⟨k, _, rfl⟩ := List.mem_map.mp hl
    rcases List.mem_append.mp hc with h1 | h1
    · exact .inl (List.mem_replicate.mp h1).2
    · exact .inr (List.mem_singleton.mp h1)
  · exact .inl (List.mem_replicate.mp h).2
theorem bodyL_length (rs : List Int) (tail : Int) (B : Nat) (h : ∀ r ∈ rs, 0 ≤ r ∧ r < (B : Int)) : (bodyL rs tail).length ≤ rs.length * B + tail.toNat := by
  unfold bodyL
  rw [List.length_append, List.length_replicate]
  refine Nat.add_le_add_right ?_ _
  induction rs with
  | nil => simp
  | cons r rs ih =>
    have h1 := h r (List.Mem.head _)
    have h2 := ih fun x hx => h x (List.Mem.tail _ hx)
    rw [List.map_cons, List.flatten_cons, List.length_append, List.length_append, List.length_replicate]
    simp only [List.length_cons, List.length_nil, Nat.add_mul, Nat.one_mul]
    omega
theorem oneRun_length (k : Int) : (oneRun k).length = k.toNat + 1 := by
  have := congrArg List.length (oneRun_list k)
  simpa [Str.length] using this
theorem sum_runs (rs : List Int) (B : Nat) (h : ∀ r ∈ rs, 0 ≤ r ∧ r < (B : Int)) : ((rs.map oneRun).map (·.length)).sum ≤ rs.length * B := by
  induction rs with
  | nil => simp
  | cons r rs ih =>
    have h1 := h r (List.Mem.head _)
    have h2 := ih fun x hx => h x (List.Mem.tail _ hx)
    rw [List.map_cons, List.map_cons, List.sum_cons, oneRun_length]
    simp only [List.length_cons, Nat.add_mul, Nat.one_mul]
    omega
theorem text_ascii (rs : List Int) (tail : Int) : (((Txt.join (Str.ofString "") (rs.map oneRun) ++ Txt.mul (Str.ofString " ") tail) ++ Str.ofString "x\t").cps.all (· < 128)) = true := by
  rw [← Array.all_toList, text_list, List.all_eq_true]
  intro ch h
  rcases List.mem_append.mp h with h | h
  · rcases bodyL_signs rs tail ch h with e | e <;> (subst e; decide)
  · simp only [List.mem_cons, List.not_mem_nil, or_false] at h
    rcases h with e | e <;> (subst e; decide)
theorem join_len (rs : List Int) (B : Nat) (h : ∀ r ∈ rs, 0 ≤ r ∧ r < (B : Int)) : (Txt.join (Str.ofString "") (rs.map oneRun)).length ≤ rs.length * B := by
  have h1 : (Txt.join (Str.ofString "") (rs.map oneRun)).length = ((rs.map oneRun).map (·.length)).sum := by
    have := congrArg List.length (join_list_nil (rs.map oneRun))
    rw [List.length_flatten, List.map_map] at this
    simpa [Str.length, Function.comp_def] using this
  rw [h1]
  exact sum_runs rs B h
theorem mul_len (k : Int) : (Txt.mul (Str.ofString " ") k).length = k.toNat := by
  have := congrArg List.length (mul_one_list 32 k)
  rw [blank_str]
  simpa [Str.length] using this
theorem text_size (rs : List Int) (tail : Int) (B : Nat) (h : ∀ r ∈ rs, 0 ≤ r ∧ r < (B : Int)) : ((Txt.join (Str.ofString "") (rs.map oneRun) ++ Txt.mul (Str.ofString " ") tail) ++ Str.ofString "x\t").cps.size ≤ rs.length * B + tail.toNat + 2 := by
  have := congrArg List.length (text_list rs tail)
  rw [List.length_append, Array.length_toList] at this
  have h2 := bodyL_length rs tail B h
  simp only [List.length_cons, List.length_nil] at this
  omega
def WInv (st : List Int × Int × Int × Int) (N : Nat) : Prop := st.1.length ≤ N ∧ 0 ≤ st.2.1 ∧ st.2.1 ≤ (N : Int) ∧ ∀ i ∈ st.1, 0 ≤ i ∧ i ≤ (N : Int)
theorem wstep_inv {st : List Int × Int × Int × Int} {N : Nat} (h : WInv st N) (ch : Nat) : WInv (wstep st ch) (N + 1) := by
  obtain ⟨h1, h2, h3, h4⟩ := h
  unfold wstep
  split
  · refine ⟨?_, ?_, ?_, fun i hi => ?_⟩
    · show st.1.length ≤ N + 1; omega
    · show 0 ≤ st.2.1 + 1; omega
    · show st.2.1 + 1 ≤ ((N + 1 : Nat) : Int); omega
    · have := h4 i hi; omega
  · have key : ∀ ct : List Int, ct.length ≤ N + 1 → (∀ i ∈ ct, 0 ≤ i ∧ i ≤ (N : Int)) → WInv (ct.set st.2.1.toNat (ct.getD st.2.1.toNat 0 + 1), 0, st.2.2.1 + 1, st.2.2.2 + 1) (N + 1) := by
      intro ct hc1 hc2
      refine ⟨?_, Int.le_refl _, ?_, fun i hi => ?_⟩
      · show (ct.set _ _).length ≤ N + 1
        rw [List.length_set]; exact hc1
      · show (0 : Int) ≤ ((N + 1 : Nat) : Int); omega
      · rcases List.mem_or_eq_of_mem_set hi with h | h
        · have := hc2 i h; omega
        · have hg : 0 ≤ ct.getD st.2.1.toNat 0 ∧ ct.getD st.2.1.toNat 0 ≤ (N : Int) := by
            rw [List.getD_eq_getElem?_getD]
            cases e : ct[st.2.1.toNat]? with
            | none => exact ⟨Int.le_refl _, Int.natCast_nonneg _⟩
            | some v => exact hc2 v (List.mem_of_getElem? e)
          rw [h]; omega
    dsimp only
    split
    · refine key _ ?_ ?_
      · rw [List.length_append]
        have e : ((List.replicate (st.2.1 - (st.1.length : Int) + 1).toNat [(0 : Int)]).flatten).length = (st.2.1 - (st.1.length : Int) + 1).toNat := by simp
        rw [e]; omega
      · intro i hi
        rcases List.mem_append.mp hi with h | h
        · exact h4 i h
        · obtain ⟨l, hl, hc⟩ := List.mem_flatten.mp h
          rw [(List.mem_replicate.mp hl).2] at hc
          rw [List.mem_singleton.mp hc]
          exact ⟨Int.le_refl _, Int.natCast_nonneg _⟩
    · exact key _ (by omega) h4
theorem wfoldl_inv : ∀ (pre : List Nat) {st : List Int × Int × Int × Int} {N : Nat}, WInv st N → WInv (pre.foldl wstep st) (N + pre.length)
  | [], _, _, h => h
  | ch :: r, st, N, h => by
    have := wfoldl_inv r (wstep_inv h ch)
    rw [List.foldl_cons, List.length_cons]
    have e : N + (r.length + 1) = N + 1 + r.length := by omega
    rw [e]; exact this
theorem wfold_facts (pre : List Nat) : WInv (wfold pre) pre.length := by
  have := wfoldl_inv pre (st := ([], 0, 0, 0)) (N := 0) ⟨Nat.le_refl _, Int.le_refl _, Int.le_refl _, fun _ h => nomatch h⟩
  rw [Nat.zero_add] at this
  exact this
def runsL (step size tail : Int) : List Int := if tail.fmod 2 = 1 then ((rangeKs 1 (size.fdiv 2 + 1 - 1).toNat).map (fun k' => step * k')).reverse else (rangeKs 1 (size.fdiv 2 + 1 - 1).toNat).map (fun k' => step * k')
def seatsOf (rs : List Int) (size tail : Int) (ilf : List Int → Int → List Int → Int) : Int :=
  (wfold (bodyL rs tail)).2.1 + size * (ilf (wfold (bodyL rs tail)).1 size (rangeKs size (((wfold (bodyL rs tail)).1.length : Int) - size).toNat) + (wfold (bodyL rs tail)).2.2.2) - tail - size * (rs.length : Int)

set_option linter.unusedVariables false
/-- _law_seats behind its if -/
def SeatsMid (s : Shared) (g' : Heap) (L' : Addr) (size : Int) (t2 : Tok) (tail : Int) (t3 : Tok) (news : List (Addr × Obj)) (rs : List Int) (f : Flow) (s' : Shared) : Prop :=
  f = .next ∧ ∃ (h' : Heap) (tk' : Nat) (a : Addr) (vs : List Value) (k : Nat) (m₀ : Str → Option Value), s' = { s with heap := h', toks := tk' } ∧ Fr g' L' h' (fun y => if y = Str.ofString "runs" then some (.ref a) else if y = Str.ofString "size" then some (.int size t2) else if y = Str.ofString "tail" then some (.int tail t3) else m₀ y) ∧
    News g' L' h' ((a, listOf vs.toArray k) :: news) ∧ IntsAre vs rs
set_option maxHeartbeats 2000000 in
theorem seats_spec {prog : Program} {w : World} {mean : ExcName → Option Value} {mg mb : Str → Option Value} {step size tail : Int} {t t2 t3 : Tok} {news : List (Addr × Obj)} (h1 : 0 < step) (h2 : step ≤ 13) (h3 : 2 < size) (h4 : size ≤ 13) (h5 : 0 ≤ tail) (h6 : tail < 5) :
   Spec prog w mean mg mb 100 500 145 [.int step t, .int size t2, .int tail t3] news (fun r led' => ∃ T u1 u2, r = .ref T ∧ (∀ p ∈ news, p.1 < T) ∧ led' = (T, { cls := .type "tuple", data := .seq #[.int ((seatsOf (runsL step size tail) size tail ilF).fdiv size) u1, .int ((seatsOf (runsL step size tail) size tail ilF).fmod size) u2] }) :: news) := by
  intro dp un gd cn cs a' ccd cl outer A₀ base h₀ L m s Q E B F X N T hk hd hu hret
  refine wpAny_call ?_
  w_on
  k_dflt (refine' code_defC (binds := [(Str.ofString "step", .int step t), (Str.ofString "size", .int size t2), (Str.ofString "tail", .int tail t3)]) ?k1 ?k2 ?k3 ?k4 ?k5 ?kA ?kF ?kK ?k6 ?k7 ?k8 ?k9 ?kB ?kD ?_ ?c2 ?c3 ?c4; (case kA => exact rfl); (case kF => exact rfl); (case kK => first | exact rfl | assumption); (case k1 => k_asm); (case k2 => k_asm); (case k3 => k_asm); (case k4 => k_asm); (case k5 => k_asm); (case k6 => k_is); (case k7 => k_is); (case k8 => ktr_room); (case k9 => exact BindsTo.of_eq rfl); (case kB => exact rfl); (case kD => decide +kernel); (case c2 => exact rfl); (case c3 => exact rfl); (case c4 => exact rfl); k_whole; intro g' L' h' tk' cells' FG' F' N' Y' B' X' T' l1; (try k_lt l1); k_cells Y'; (try simp only [List.cons_append, List.nil_append] at N'); (try dsimp only); (try k_fold))
  rename PySem.Obj.data _ = _ => d1
  replace d1 : PySem.Obj.data _ = PySem.Data.cell (some (.int step t)) := d1
  have hq : 1 ≤ size.fdiv 2 ∧ size.fdiv 2 ≤ 6 := by
    rw [Int.fdiv_eq_ediv_of_nonneg _ (by decide)]
    omega
  obtain ⟨hq1, hq2⟩ := hq
  have hb : ∀ r ∈ (rangeKs 1 (size.fdiv 2 + 1 - 1).toNat).map (fun k' => step * k'), 0 ≤ r ∧ r < ((79 : Nat) : Int) := by
    intro r hr
    obtain ⟨k', hk', rfl⟩ := List.mem_map.mp hr
    have hm := mem_rangeKs hk'
    have e1 := Int.mul_nonneg (Int.le_of_lt h1) (show (0 : Int) ≤ k' by omega)
    have e2 := Int.mul_le_mul (show step ≤ 13 by omega) (show k' ≤ 6 by omega) (show (0 : Int) ≤ k' by omega) (by decide)
    omega
  have hbl : ((rangeKs 1 (size.fdiv 2 + 1 - 1).toNat).map (fun k' => step * k')).length ≤ 6 := by
    rw [List.length_map, rangeKs_length]; omega
  repeat' ((fail_if_success (with_reducible show wpAny _ _ (exec (Stmt.If _ _ _ _) _) _ _ _)); ((fail_if_success (with_reducible show wpAny _ _ (eval (Expr.ListComp _ _ _ _) _) _ _ _)); (first | (k_unfold; (try dsimp only)) | ((fail_if_success (first | (first | (with_reducible show KswEnd _ _ _ _ _ _ _ _ _ _ _ _) | (with_reducible show InvEndN _ _ _ _ _ _ _) | (with_reducible refine stop_mark ?h ?_; (case h => decide))) | (with_reducible show wpAny _ _ (pyIter (Value.ref _)) _ _ _) | (with_reducible show wpAny _ _ (pyIter (Value.str _ _)) _ _ _) | (with_reducible show wpAny _ _ (exec (Stmt.While _ _ _ _) _) _ _ _))); (first | walk1 | (dsimp only; walk1) | (leave1; try dsimp only))))))
  refine wpAny_mono (Q := SeatsMid s g' L' size t2 tail t3 news (runsL step size tail)) ?walk ?rest (fun _ _ e => e)
  case walk =>
    repeat' ((fail_if_success (with_reducible show wpAny _ _ (eval (Expr.ListComp _ _ _ _) _) _ _ _)); (first | (k_unfold; (try dsimp only)) | ((fail_if_success (first | (first | (with_reducible show KswEnd _ _ _ _ _ _ _ _ _ _ _ _) | (with_reducible show InvEndN _ _ _ _ _ _ _) | (with_reducible refine stop_mark ?h ?_; (case h => decide))) | (with_reducible show wpAny _ _ (pyIter (Value.ref _)) _ _ _) | (with_reducible show wpAny _ _ (pyIter (Value.str _ _)) _ _ _) | (with_reducible show wpAny _ _ (exec (Stmt.While _ _ _ _) _) _ _ _))); (first | walk1 | (dsimp only; walk1) | (leave1; try dsimp only)))))
    · rename Fr _ _ _ _ => lF
      rename News _ _ _ _ => lN
      rename IntsAre _ (List.reverse _) => hR
      rename Int.fmod tail 2 = 1 => hpar
      obtain ⟨m₀, lG⟩ := fr_fold3 lF (x := Str.ofString "runs") (x2 := Str.ofString "size") (x3 := Str.ofString "tail") rfl rfl rfl
      unfold SeatsMid
      exact ⟨rfl, _, _, _, _, _, m₀, rfl, lG, news_sub lN (by ((repeat' (first | exact List.forall_mem_nil _ | refine List.forall_mem_cons.mpr ⟨?_, ?_⟩)); (all_goals (first | ((repeat' (first | assumption | exact List.Mem.head _ | refine List.Mem.tail _ ?_)); done) | (intro p hp; ((repeat' (first | assumption | exact List.Mem.head _ | refine List.Mem.tail _ ?_)); done)))))), by unfold runsL; rw [if_pos hpar]; exact hR⟩
    · rename Fr _ _ _ _ => lF
      rename News _ _ _ _ => lN
      rename IntsAre _ _ => hR
      rename ¬ Int.fmod tail 2 = 1 => hpar
      obtain ⟨m₀, lG⟩ := fr_fold3 lF (x := Str.ofString "runs") (x2 := Str.ofString "size") (x3 := Str.ofString "tail") rfl rfl rfl
      unfold SeatsMid
      exact ⟨rfl, _, _, _, _, _, m₀, rfl, lG, news_sub lN (by ((repeat' (first | exact List.forall_mem_nil _ | refine List.forall_mem_cons.mpr ⟨?_, ?_⟩)); (all_goals (first | ((repeat' (first | assumption | exact List.Mem.head _ | refine List.Mem.tail _ ?_)); done) | (intro p hp; ((repeat' (first | assumption | exact List.Mem.head _ | refine List.Mem.tail _ ?_)); done)))))), by unfold runsL; rw [if_neg hpar]; exact hR⟩
  have hrs : ∀ r ∈ runsL step size tail, 0 ≤ r ∧ r < ((79 : Nat) : Int) := by
    intro r hr
    unfold runsL at hr
    split at hr
    · exact hb r (List.mem_reverse.mp hr)
    · exact hb r hr
  have hrl : (runsL step size tail).length ≤ 6 := by
    unfold runsL
    split
    · rw [List.length_reverse]; exact hbl
    · exact hbl
  generalize hrun : runsL step size tail = rs at hrs hrl hret ⊢
  clear hb hbl
  intro f s' hJ
  unfold SeatsMid at hJ
  obtain ⟨rfl, h9, tk9, a9, vs9, k9, m₀, rfl, F9, N9, hR⟩ := hJ
  dsimp only
  try k_fold
  repeat' ((fail_if_success (with_reducible show wpAny _ _ (eval (Expr.ListComp _ _ _ _) _) _ _ _)); (first | (k_unfold; (try dsimp only)) | ((fail_if_success (first | (first | (with_reducible show KswEnd _ _ _ _ _ _ _ _ _ _ _ _) | (with_reducible show InvEndN _ _ _ _ _ _ _) | (with_reducible refine stop_mark ?h ?_; (case h => decide))) | (with_reducible show wpAny _ _ (pyIter (Value.ref _)) _ _ _) | (with_reducible show wpAny _ _ (pyIter (Value.str _ _)) _ _ _) | (with_reducible show wpAny _ _ (exec (Stmt.While _ _ _ _) _) _ _ _))); (first | walk1 | (dsimp only; walk1) | (leave1; try dsimp only)))))
  refine LCg.ListComp_U (F₀ := by k_asm) (by with_unfolding_all rfl) (by decide) (by rfl) (by decide) (by rfl) ?_
  repeat' ((fail_if_success (with_reducible show wpAny _ _ (eval (Expr.ListComp _ _ _ _) _) _ _ _)); (first | (k_unfold; (try dsimp only)) | ((fail_if_success (first | (first | (with_reducible show KswEnd _ _ _ _ _ _ _ _ _ _ _ _) | (with_reducible show InvEndN _ _ _ _ _ _ _) | (with_reducible refine stop_mark ?h ?_; (case h => decide))) | (with_reducible show wpAny _ _ (pyIter (Value.ref _)) _ _ _) | (with_reducible show wpAny _ _ (pyIter (Value.str _ _)) _ _ _) | (with_reducible show wpAny _ _ (exec (Stmt.While _ _ _ _) _) _ _ _))); (first | walk1 | (dsimp only; walk1) | (leave1; try dsimp only)))))
  refine LCg.CompSrc.ledger (by rfl) (by k_asm) (by k_asm) (by k_mem) (by rw [PySem.sizeLine_eq, List.size_toArray, hR.length]; omega) ?_
  intro g9
  refine' kct_list oneRun hR (fun k' t' I' oI' C' oC' D' m' ys' h' tk' E' hk' hC' hx' F' N' off' ne' hM' => ?_) ?_
  · have off0 := off'
    simp only [LCg.Off3, and_true] at off'
    have hkb := hrs k' hk'
    try k_fold
    repeat' ((fail_if_success (with_reducible show wpAny _ _ (eval (Expr.ListComp _ _ _ _) _) _ _ _)); (first | (k_unfold; (try dsimp only)) | ((fail_if_success (first | (first | (with_reducible show KswEnd _ _ _ _ _ _ _ _ _ _ _ _) | (with_reducible show InvEndN _ _ _ _ _ _ _) | (with_reducible refine stop_mark ?h ?_; (case h => decide))) | (with_reducible show wpAny _ _ (pyIter (Value.ref _)) _ _ _) | (with_reducible show wpAny _ _ (pyIter (Value.str _ _)) _ _ _) | (with_reducible show wpAny _ _ (exec (Stmt.While _ _ _ _) _) _ _ _))); (first | walk1 | (dsimp only; walk1) | (leave1; try dsimp only)))))
    refine LCg.CompEnd.intro (by assumption) N' _ (fun p hp => hp) off0 (Or.inr ⟨_, by ((repeat' (first | assumption | exact List.Mem.head _ | refine List.Mem.tail _ ?_)); done), rfl, _, rfl⟩) ⟨rfl, _, rfl⟩
  · repeat' ((fail_if_success (with_reducible show wpAny _ _ (eval (Expr.ListComp _ _ _ _) _) _ _ _)); (first | (k_unfold; (try dsimp only)) | ((fail_if_success (first | (first | (with_reducible show KswEnd _ _ _ _ _ _ _ _ _ _ _ _) | (with_reducible show InvEndN _ _ _ _ _ _ _) | (with_reducible refine stop_mark ?h ?_; (case h => decide))) | (with_reducible show wpAny _ _ (pyIter (Value.ref _)) _ _ _) | (with_reducible show wpAny _ _ (pyIter (Value.str _ _)) _ _ _) | (with_reducible show wpAny _ _ (exec (Stmt.While _ _ _ _) _) _ _ _))); (first | walk1 | (dsimp only; walk1) | (leave1; try dsimp only)))))
    rename CarriedAll _ _ => hCa
    rename News _ _ _ _ => lN2
    have hS : StrsAre _ (rs.map oneRun) := StrsAre.of_carried (by rw [List.map_map]; exact hCa)
    have hs1 := sum_runs rs 79 hrs
    have hs2 := join_len rs 79 hrs
    have hs3 := mul_len tail
    have hs4 := text_size rs tail 79 hrs
    have hs5 : (Str.ofString "x\t").length = 2 := by decide +kernel
    have hs6 : (Str.ofString "").length = 0 := by decide +kernel
    refine join_list ⟨_, lN2.get (List.Mem.head _), rfl, _, rfl⟩ hS (by rw [hs6]; omega) ?_
    intro t9 k9
    repeat' ((fail_if_success (first | (with_reducible show wpAny _ _ (eval (Expr.ListComp _ _ _ _) _) _ _ _) | (with_reducible show wpAny _ _ (call (Value.ref 136) _) _ _ _) | (with_reducible show wpAny _ _ (call (Value.ref 105) _) _ _ _))); (first | (k_unfold; (try dsimp only)) | ((fail_if_success (first | (first | (with_reducible show KswEnd _ _ _ _ _ _ _ _ _ _ _ _) | (with_reducible show InvEndN _ _ _ _ _ _ _) | (with_reducible refine stop_mark ?h ?_; (case h => decide))) | (with_reducible show wpAny _ _ (pyIter (Value.ref _)) _ _ _) | (with_reducible show wpAny _ _ (pyIter (Value.str _ _)) _ _ _) | (with_reducible show wpAny _ _ (exec (Stmt.While _ _ _ _) _) _ _ _))); (first | walk1 | (dsimp only; walk1) | (leave1; try dsimp only)))))
    (rename News _ _ _ _ => lN9; k_dflt (refine Spec.use (N := lN9) (white_spec (text_ascii rs tail) (by omega) (text_list rs tail) (bodyL_signs rs tail)) (by k_asm) (by k_asm) (by k_asm) (by k_asm) (by first | exact rfl | assumption) (by ktr_room) (by ktr_units) ?_))
    rintro r led' h2 tk2 ⟨x, d, Dn, Dc, vs, k1, k2, k3, k4, k5, tb, tn, tnt, bs, rfl, hIW, l8, l9, rfl⟩ F2 N2
    repeat' ((fail_if_success (first | (with_reducible show wpAny _ _ (eval (Expr.ListComp _ _ _ _) _) _ _ _) | (with_reducible show wpAny _ _ (call (Value.ref 136) _) _ _ _) | (with_reducible show wpAny _ _ (call (Value.ref 105) _) _ _ _))); (first | (k_unfold; (try dsimp only)) | ((fail_if_success (first | (first | (with_reducible show KswEnd _ _ _ _ _ _ _ _ _ _ _ _) | (with_reducible show InvEndN _ _ _ _ _ _ _) | (with_reducible refine stop_mark ?h ?_; (case h => decide))) | (with_reducible show wpAny _ _ (pyIter (Value.ref _)) _ _ _) | (with_reducible show wpAny _ _ (pyIter (Value.str _ _)) _ _ _) | (with_reducible show wpAny _ _ (exec (Stmt.While _ _ _ _) _) _ _ _))); (first | walk1 | (dsimp only; walk1) | (leave1; try dsimp only)))))
    have hWf := wfold_facts (bodyL rs tail)
    have hBl := bodyL_length rs tail 79 hrs
    (rename News _ _ _ _ => lN9; k_dflt (refine Spec.use (N := lN9) (indent_spec (x := x) (d := d) (Dn := Dn) (Dc := Dc) (by ((repeat' (first | assumption | exact List.Mem.head _ | refine List.Mem.tail _ ?_)); done)) (by ((repeat' (first | assumption | exact List.Mem.head _ | refine List.Mem.tail _ ?_)); done)) (by ((repeat' (first | assumption | exact List.Mem.head _ | refine List.Mem.tail _ ?_)); done)) (by ((repeat' (first | assumption | exact List.Mem.head _ | refine List.Mem.tail _ ?_)); done)) hIW (by have := hWf.1; omega) (by omega) (by omega) (fun i hi => by have := hWf.2.2.2 i hi; omega)) (by k_asm) (by k_asm) (by k_asm) (by k_asm) (by first | exact rfl | assumption) (by ktr_room) (by ktr_units) ?_))
    rintro r led' h3 tk3 ⟨⟨t6, rfl⟩, rfl⟩ F3 N3
    repeat' ((fail_if_success (first | (with_reducible show wpAny _ _ (eval (Expr.ListComp _ _ _ _) _) _ _ _) | (with_reducible show wpAny _ _ (call (Value.ref 136) _) _ _ _) | (with_reducible show wpAny _ _ (call (Value.ref 105) _) _ _ _))); (first | (k_unfold; (try dsimp only)) | ((fail_if_success (first | (first | (with_reducible show KswEnd _ _ _ _ _ _ _ _ _ _ _ _) | (with_reducible show InvEndN _ _ _ _ _ _ _) | (with_reducible refine stop_mark ?h ?_; (case h => decide))) | (with_reducible show wpAny _ _ (pyIter (Value.ref _)) _ _ _) | (with_reducible show wpAny _ _ (pyIter (Value.str _ _)) _ _ _) | (with_reducible show wpAny _ _ (exec (Stmt.While _ _ _ _) _) _ _ _))); (first | walk1 | (dsimp only; walk1) | (leave1; try dsimp only)))))
    rename News _ _ _ _ => lN5
    refine' hret _ _ _ _ ⟨_, _, _, rfl, (fun p hp => Heap.lt_size (N3 p (by ((repeat' (first | assumption | exact List.Mem.head _ | refine List.Mem.tail _ ?_)); done))).1), rfl⟩ (by assumption) (news_sub lN5 (by ((repeat' (first | exact List.forall_mem_nil _ | refine List.forall_mem_cons.mpr ⟨?_, ?_⟩)); (all_goals (first | ((repeat' (first | assumption | exact List.Mem.head _ | refine List.Mem.tail _ ?_)); done) | (intro p hp; ((repeat' (first | assumption | exact List.Mem.head _ | refine List.Mem.tail _ ?_)); done)))))))

open PySem.Spec PySem.Calls PyProof.Rows.LCg in
/-- the end of an element of a comprehension over enumerate -/
def EnEnd (h₀ : Heap) (L : Addr) (m : Str → Option Value) (s₁ : Shared) (led : List (Addr × Obj)) (rest : Value → Prop) (y : Value) (s₂ : Shared) : Prop :=
  ∃ h' tk', s₂ = { s₁ with heap := h', toks := tk' } ∧ Fr h₀ L h' m ∧ News h₀ L h' led ∧ rest y
def EnRest (prog : Program) (w : World) (A : Around) (h₀ : Heap) (L : Addr) (m : Str → Option Value) (env : Env) (elt : PySem.Expr) (a b : Str) (scope : Scope) (cl : List (Str × Addr)) (s : Shared) (Fin : List Value → Prop) (news : List (Addr × Obj)) : Nat → List Value → List Value → Prop
  | _, [], ys => Fin ys
  | i, p :: r, ys => ∀ (t : Tok) e oe it oit C oC D m₂ h tk (E' : Value → Shared → Prop), LCg.NsObj oC m₂ → m₂ a = some (.int (i : Nat) t) → m₂ b = some p → Fr h₀ L h m → News h₀ L h ((e, oe) :: (it, oit) :: (C, oC) :: (D, LCg.lst ys) :: news) →
      (∀ q ∈ news, @Ne Nat q.1 e ∧ @Ne Nat q.1 it ∧ @Ne Nat q.1 C ∧ @Ne Nat q.1 D) → (@Ne Nat e it ∧ @Ne Nat e C ∧ @Ne Nat e D ∧ @Ne Nat it C ∧ @Ne Nat it D ∧ @Ne Nat C D) →
      wpAny (model prog w) A (eval elt (compEnvC scope cl C env)) (EnEnd h₀ L m { s with heap := h, toks := tk } ((e, oe) :: (it, oit) :: (C, oC) :: (D, LCg.lst ys) :: news) (fun y => EnRest prog w A h₀ L m env elt a b scope cl s Fin news (i + 1) r (ys ++ [y]))) E' { s with heap := h, toks := tk }
section
variable {prog : Program} {w : World} {A : Around} {E : Value → Shared → Prop} {s : Shared} {h₀ : Heap} {L : Addr} {m : Str → Option Value} {env : Env}
theorem EnRest.cons {elt : PySem.Expr} {a b : Str} {scope : Scope} {cl : List (Str × Addr)} {Fin : List Value → Prop} {news : List (Addr × Obj)} {i : Nat} {p : Value} {r ys : List Value}
    (h : ∀ (t : Tok) e oe it oit C oC D m₂ h tk (E' : Value → Shared → Prop), LCg.NsObj oC m₂ → m₂ a = some (.int (i : Nat) t) → m₂ b = some p → Fr h₀ L h m → News h₀ L h ((e, oe) :: (it, oit) :: (C, oC) :: (D, LCg.lst ys) :: news) →
      (∀ q ∈ news, @Ne Nat q.1 e ∧ @Ne Nat q.1 it ∧ @Ne Nat q.1 C ∧ @Ne Nat q.1 D) → (@Ne Nat e it ∧ @Ne Nat e C ∧ @Ne Nat e D ∧ @Ne Nat it C ∧ @Ne Nat it D ∧ @Ne Nat C D) →
      wpAny (model prog w) A (eval elt (compEnvC scope cl C env)) (EnEnd h₀ L m { s with heap := h, toks := tk } ((e, oe) :: (it, oit) :: (C, oC) :: (D, LCg.lst ys) :: news) (fun y => EnRest prog w A h₀ L m env elt a b scope cl s Fin news (i + 1) r (ys ++ [y]))) E' { s with heap := h, toks := tk }) :
    EnRest prog w A h₀ L m env elt a b scope cl s Fin news i (p :: r) ys := h
theorem EnRest.nil {elt : PySem.Expr} {a b : Str} {scope : Scope} {cl : List (Str × Addr)} {Fin : List Value → Prop} {news : List (Addr × Obj)} {i : Nat} {ys : List Value} (h : Fin ys) : EnRest prog w A h₀ L m env elt a b scope cl s Fin news i [] ys := h
theorem fresh_above {h : Heap} {x : Addr} (F : Fr h₀ L h m) (hx : h.objs.size ≤ x) : h₀.get? x = none := by
  cases e : h₀.get? x with
  | none => rfl
  | some o => exact absurd (Heap.lt_size (F.keep x o e)) (Nat.not_lt.mpr hx)
theorem en_end {h' : Heap} {tk' : Nat} {led news' : List (Addr × Obj)} {rest : Value → Prop} {y : Value} (F : Fr h₀ L h' m) (N : News h₀ L h' news') (hs : ∀ p ∈ led, p ∈ news') (hr : rest y) : EnEnd h₀ L m s led rest y { s with heap := h', toks := tk' } := ⟨h', tk', rfl, F, fun p hp => N p (hs p hp), hr⟩
/-- the two things that a comprehension makes: its list at D, its names at C -/
theorem comp_room {scope : Scope} {cl : List (Str × Addr)} {K : Value → Env → Shared → Prop} (hcell : ∀ y ∈ scope.names, y.2 ≠ .cell) (hkind : scope.kind = .function)
    (h : ∀ (D C : Addr) (h' : Heap) (tk : Nat) (m' : Str → Option Value), s.heap.objs.size ≤ D → D < C → Kept [] s.heap h' → h'.get? D = some (LCg.lst []) → h'.Ns C m' → K (.ref D) (newEnv scope C env.globals cl env.qual none .none (some env) builtinsNs) { s with heap := h', toks := tk }) :
    wpAny (model prog w) A (newList []) (fun acc s₃ => wpAny (model prog w) A (newFunctionEnv scope env.globals cl [] env.qual none .none (some env)) (fun cenv s₄ => K acc cenv s₄) E s₃) E s := by
  have grow : ∀ (H : Heap) (o : Obj) (H' : Heap), Heap.SameBut H.objs.size (H.push o) H' → Kept [] H H' := fun H o H' hb c x _ hg => hb.extBut c x (Nat.ne_of_lt (Heap.lt_size hg)) (Heap.get?_push_of_some _ hg)
  refine wpAny_newObj_type (wpAny_newFunctionEnv hcell (fun _ hx => nomatch hx) (fun h' hns hb => ?_) hkind)
  refine h s.heap.objs.size _ h' _ _ (Nat.le_refl _) (by dsimp only; rw [Heap.size_push]; exact Nat.lt_succ_self _) ?_ ?_ hns
  · exact fun c x hc hg => grow _ _ _ hb c x hc (Heap.get?_push_of_some _ hg)
  · exact grow _ _ _ hb _ _ (List.not_mem_nil) (Heap.get?_push_size _ rfl)
/-- the turns of a comprehension over enumerate(the list at l) -/
theorem en_loop {elt iter : PySem.Expr} {a b : Str} {pa pb tp : Pos} {kk : Nat} {scope : Scope} {cl : List (Str × Addr)} {pos : Pos} {e it l C D : Addr} {its : List Value} {news : List (Addr × Obj)} {Fin : List Value → Prop} {R : Result → Shared → Prop} {h : Heap} {tk : Nat} {m' : Str → Option Value}
    (hh : A.handled = none) (hsz : its.length ≤ sizeLine) (hl : ∃ n, (l, listOf its.toArray n) ∈ news) (hkind : scope.kind = .function) (hxa : scope.names.lookup a = some .local) (hxb : scope.names.lookup b = some .local) (hab : ¬ a = b)
    (ne : @Ne Nat e it ∧ @Ne Nat e C ∧ @Ne Nat e D ∧ @Ne Nat it C ∧ @Ne Nat it D ∧ @Ne Nat C D) (hL : L ∉ [e, it, C, D]) (hw : ∀ c ∈ [e, it, C, D], h₀.get? c = none) (off : ∀ q ∈ news, @Ne Nat q.1 e ∧ @Ne Nat q.1 it ∧ @Ne Nat q.1 C ∧ @Ne Nat q.1 D)
    (he : IsEnum h e it 0 .none) (hit : h.IsListIter it l 0) (F : Fr h₀ L h m) (N : News h₀ L h ((D, LCg.lst []) :: news)) (hns : h.Ns C m')
    (rest : EnRest prog w A h₀ L m env elt a b scope cl s Fin news 0 its [])
    (hR : ∀ h tk m' ys, Fr h₀ L h m → News h₀ L h ((D, LCg.lst ys) :: news) → h.Ns C m' → Fin ys → R (.ok .next) { s with heap := h, toks := tk }) :
    codeAny (model prog w) A (.compLoop (.ListComp elt [⟨.Tuple [.Name a pa, .Name b pb] kk tp, iter, [], 0⟩] scope pos) 0 (.ref e) (.ref D) (compEnvC scope cl C env)) R { s with heap := h, toks := tk } := by
  obtain ⟨n1, n2, n3, n4, n5, n6⟩ := ne
  simp only [List.mem_cons, List.not_mem_nil, or_false, not_or] at hL
  obtain ⟨L1, L2, L3, L4⟩ := hL
  simp only [List.forall_mem_cons, List.not_mem_nil, false_implies, implies_true, and_true] at hw
  obtain ⟨w1, w2, w3, w4⟩ := hw
  obtain ⟨nl, hml⟩ := hl
  have hol := off _ hml
  have W := WalksT.enumerate (prog := prog) (w := w) hh e it l n1 hol.1 hol.2.1 its.toArray
  rw [List.size_toArray] at W
  refine kcp_loop (fun k s' => ∃ i h tk ys m', k + i = its.length + 1 ∧ i ≤ its.length ∧ ys.length = i ∧ s' = { s with heap := h, toks := tk } ∧ ((∃ old, IsEnum h e it (i : Nat) old) ∧ h.IsListIter it l i ∧ h.IsList l its.toArray) ∧ Fr h₀ L h m ∧ h.Ns C m' ∧
    News h₀ L h ((D, LCg.lst ys) :: news) ∧ EnRest prog w A h₀ L m env elt a b scope cl s Fin news i (its.drop i) ys) ?_ (its.length + 1)
    ⟨0, h, tk, [], m', rfl, Nat.zero_le _, rfl, rfl, ⟨⟨_, he⟩, hit, ⟨_, (N _ (List.Mem.tail _ hml)).1, rfl, _, rfl⟩⟩, F, hns, N, rest⟩
  clear he hit F N hns rest
  rintro k s' ⟨i, h, tk, ys, m', hk, hi, hy, rfl, S, F, hns, N, rest⟩
  by_cases hlt : i < its.length
  · refine W.item i _ _ _ hlt S fun T vals h₁ tk₁ hP _ hT hM k₁ => ?_
    obtain ⟨t, x, hx, rfl⟩ := hP
    refine W.go _ _ _ i T _ _ _ hM fun h₂ S₂ k₂ => ?_
    have K : Kept [e, it] h h₂ := fun c o hc hg => k₂ c o hc (k₁ c o hc hg)
    have hT₂ : h₂.IsTuple T #[.int (i : Nat) t, x] := hT.at fun o => k₂ T o (W.apart i T _ hM)
    refine kcp_assign (env := compEnvC scope cl C env) hh hT₂ (lookup_relabel_local hxa) (lookup_relabel_local hxb) (by simp [compEnvC, relabel, hkind]) (hns.at' fun o => K C o (by simp [compEnvC, Ne.symm n2, Ne.symm n4])) fun h₃ tk₃ ns₃ k₃ => ?_
    have K' : Kept ([e, it] ++ [C]) h h₃ := K.trans fun c o hc => k₃ c o (by simpa [compEnvC] using hc)
    have F₃ := K'.frame F (by simp [L1, L2, L3]) (by simp [w1, w2, w3])
    have N₃ := K'.ledger N (List.forall_mem_cons.mpr ⟨by simp [Ne.symm n3, Ne.symm n5, Ne.symm n6], fun q hq => by simp [(off q hq).1, (off q hq).2.1, (off q hq).2.2.1]⟩)
    have S₃ := W.frame _ _ h₃ S₂ fun c hc o hg => k₃ c o (fun e => by
      change c = C at e
      subst e
      simp only [List.mem_cons, List.not_mem_nil, or_false] at hc
      rcases hc with e | e | e
      · exact n2 e.symm
      · exact n4 e.symm
      · exact hol.2.2.1 e.symm) hg
    obtain ⟨oC, gC, hC⟩ := LCg.ns_obj ns₃
    obtain ⟨oe, ge⟩ : ∃ oe, h₃.get? e = some oe := let ⟨⟨_, hx⟩, _⟩ := S₃; ⟨_, hx⟩
    obtain ⟨oi, gi⟩ : ∃ oi, h₃.get? it = some oi := let ⟨_, ⟨o, hx, _⟩, _⟩ := S₃; ⟨o, hx⟩
    have all : News h₀ L h₃ ((e, oe) :: (it, oi) :: (C, oC) :: (D, LCg.lst ys) :: news) :=
      List.forall_mem_cons.mpr ⟨⟨ge, Ne.symm L1, w1⟩, List.forall_mem_cons.mpr ⟨⟨gi, Ne.symm L2, w2⟩, List.forall_mem_cons.mpr ⟨⟨gC, Ne.symm L3, w3⟩, N₃⟩⟩⟩
    have cut : its.drop i = x :: its.drop (i + 1) := by
      rw [List.getElem?_toArray] at hx
      obtain ⟨_, rfl⟩ := List.getElem?_eq_some_iff.mp hx
      exact List.drop_eq_getElem_cons hlt
    rw [cut] at rest
    refine wpAny_mono (rest t e oe it oi C oC D _ h₃ _ _ hC (by simp [hab]) (by simp) F₃ all off ⟨n1, n2, n3, n4, n5, n6⟩) ?_ fun _ _ x => x
    rintro y _ ⟨h₄, tk₄, rfl, F₄, N₄, rest'⟩
    have gD := (N₄ (D, LCg.lst ys) (by simp)).1
    refine append_at (hsz := by rw [List.size_toArray, hy]; exact Nat.le_trans hi hsz) gD fun h₅ b₅ g₅ => ?_
    have stay : ∀ q ∈ (e, oe) :: (it, oi) :: (C, oC) :: (D, LCg.lst ys) :: news, @Ne Nat q.1 D → ∀ o, h₃.get? q.1 = some o → h₅.get? q.1 = some o := fun q hq hn o hg =>
      b₅.extBut _ _ hn ((N₄ q hq).1.trans ((all q hq).1.symm.trans hg))
    have S₅ := W.frame _ _ h₅ S₃ (List.forall_mem_cons.mpr ⟨stay (e, oe) (by simp) n3, List.forall_mem_cons.mpr ⟨stay (it, oi) (by simp) n5, List.forall_mem_cons.mpr ⟨stay _ (by simp [hml]) hol.2.2.2, fun _ h => nomatch h⟩⟩⟩)
    refine ⟨its.length - i, by omega, i + 1, h₅, tk₄, ys ++ [y], _, by omega, hlt, by simp [hy], rfl, S₅, F₄.change b₅ (Ne.symm L4) w4, (hC.ns (N₄ (C, oC) (by simp)).1).sameBut b₅ n6, ?_, rest'⟩
    exact List.forall_mem_cons.mpr ⟨⟨g₅.trans (congrArg some (LCg.lst_snoc ys y)), Ne.symm L4, w4⟩, fun q hq => ⟨b₅.extBut _ _ (off q hq).2.2.2 (N₄ q (by simp [hq])).1, (all q (by simp [hq])).2⟩⟩
  · obtain rfl : i = its.length := by omega
    rw [List.drop_length] at rest
    refine W.done _ _ _ S fun h₁ tk₁ k₁ => ?_
    have K : Kept [e, it] h h₁ := k₁
    exact hR h₁ tk₁ m' ys (K.frame F (by simp [L1, L2]) (by simp [w1, w2])) (K.ledger N (List.forall_mem_cons.mpr ⟨by simp [Ne.symm n3, Ne.symm n5], fun q hq => by simp [(off q hq).1, (off q hq).2.1]⟩)) (hns.at' fun o => K C o (by simp [Ne.symm n2, Ne.symm n4])) rest
end
section
variable {prog : Program} {w : World} {A : Around} {E : Value → Shared → Prop} {s : Shared} {h₀ : Heap} {L : Addr} {m : Str → Option Value} {env : Env}
/-- y = [elt for a, b in enumerate(a list)] -/
theorem en_assign {elt iter : PySem.Expr} {a b y : Str} {pa pb tp py : Pos} {kk : Nat} {scope : Scope} {cl : List (Str × Addr)} {pos spos : Pos} {Q : Flow → Shared → Prop} (_F₀ : Fr h₀ L s.heap m) (hLe : env.locals = L)
    (hsw : swapsWith (.ListComp elt [⟨.Tuple [.Name a pa, .Name b pb] kk tp, iter, [], 0⟩] scope pos) (some (.Name y py)) spos.line env = pure true)
    (hclos : closureFor scope env = pure cl) (hcell : ∀ z ∈ scope.names, z.2 ≠ .cell) (hkind : scope.kind = .function)
    (hnames : ∀ z ∈ scope.names, z.2 = .local → scope.names.lookup z.1 = some .local) (hxa : scope.names.lookup a = some .local) (hxb : scope.names.lookup b = some .local) (hab : ¬ a = b)
    (hy : env.kindOf y = some .local) (hp : (env.scope.kind == .class || (env.scope.kind == .module && env.locals != env.globals)) = false) (hh : A.handled = none)
    (h : wpAny (model prog w) A (eval iter env) (fun xv s₁ => ∃ (e it l : Addr) (its : List Value) (n : Nat) (news : List (Addr × Obj)), xv = .ref e ∧ Fr h₀ L s₁.heap m ∧ News h₀ L s₁.heap news ∧ (l, listOf its.toArray n) ∈ news ∧ its.length ≤ sizeLine ∧
      IsEnum s₁.heap e it 0 .none ∧ s₁.heap.IsListIter it l 0 ∧ e ≠ it ∧ L ≠ e ∧ L ≠ it ∧ h₀.get? e = none ∧ h₀.get? it = none ∧ (∀ p ∈ news, p.1 ≠ e ∧ p.1 ≠ it) ∧
      EnRest prog w A h₀ L m env elt a b scope cl s₁ (fun ys => ∀ D h tk, Fr h₀ L h (fun z => if z = y then some (.ref D) else m z) → News h₀ L h ((D, LCg.lst ys) :: news) → (∀ p ∈ news, @Ne Nat p.1 D) → Q .next { s₁ with heap := h, toks := tk }) news 0 its []) E s)
    (hs : ∀ x, foldedSetIterable iter env x = pure x := by intro _; rfl) :
    wpAny (model prog w) A (exec (.Assign [.Name y py] (.ListComp elt [⟨.Tuple [.Name a pa, .Name b pb] kk tp, iter, [], 0⟩] scope pos) spos) env) Q E s := by
  subst hLe
  have step : ∀ pos', wpAny (model prog w) A (comprehension (.ListComp elt [⟨.Tuple [.Name a pa, .Name b pb] kk tp, iter, [], 0⟩] scope pos) scope env pos' (newList []) false (eval iter env) (some (assign (.Name y py) env))) (fun _ s' => Q .next s') E s := by
    intro pos'
    refine wpAny_comprehension_free rfl hs hclos hkind hnames (wpAny_mono h ?_ fun _ _ x => x)
    rintro _ s₁ ⟨e, it, l, its, n, news, rfl, F, N, hml, hsz, he, hit, hei, heL, hiL, he₀, hi₀, off, rest⟩
    refine wpAny_pyIter_enum he (comp_room hcell hkind fun D C h' tk m' hD hC hk gD hns => ?_)
    have up : ∀ c, c < s₁.heap.objs.size → @Ne Nat c C ∧ @Ne Nat c D := fun c hc => ⟨Nat.ne_of_lt (Nat.lt_of_lt_of_le hc (Nat.le_trans hD (Nat.le_of_lt hC))), Nat.ne_of_lt (Nat.lt_of_lt_of_le hc hD)⟩
    have ue := up e (Heap.lt_size he)
    have ui := up it (let ⟨_, hx, _⟩ := hit; Heap.lt_size hx)
    have uL := up env.locals F.ns.lt
    have fD := fresh_above F hD
    have fC := fresh_above F (Nat.le_trans hD (Nat.le_of_lt hC))
    have F' := hk.frame F (fun hm => nomatch hm) (fun _ hm => nomatch hm)
    have N' : News h₀ env.locals h' ((D, LCg.lst []) :: news) := List.forall_mem_cons.mpr ⟨⟨gD, Ne.symm uL.2, fD⟩, hk.ledger N fun _ _ hm => nomatch hm⟩
    have he' : IsEnum h' e it 0 .none := hk e _ (fun hm => nomatch hm) he
    have hit' : h'.IsListIter it l 0 := hit.at fun o => hk it o (fun hm => nomatch hm)
    have loop := en_loop (s := s₁) (R := compPost (model prog w) A E (some (assign (.Name y py) env)) (fun _ s' => Q .next s') (.ref D) C) (elt := elt) (iter := iter) (pa := pa) (pb := pb) (tp := tp) (kk := kk) (pos := pos) (cl := cl) (tk := tk) hh hsz ⟨n, hml⟩ hkind hxa hxb hab
      ⟨hei, ue.1, ue.2, ui.1, ui.2, Ne.symm (Nat.ne_of_lt hC)⟩ (by simp [heL, hiL, uL.1, uL.2]) (by simp [he₀, hi₀, fC, fD]) (fun q hq => ⟨(off q hq).1, (off q hq).2, up _ (Heap.lt_size (N q hq).1)⟩) he' hit' F' N' hns rest ?_
    · exact codeAny_compStart_list loop (wpAny_pyIter_enum he' loop)
    intro h₁ tk₁ m₁ ys F₁ N₁ ns₁ fin
    refine wpAny_assign_Name (wpAny_storeName_local hy F₁.ns (fun h₂ ns₂ b₂ => ?_) hp)
    have old : Kept [env.locals] h₁ h₂ := fun c o hc => b₂.extBut c o (fun e => hc (e ▸ List.Mem.head _))
    refine ⟨m₁, ns₁.sameBut b₂ (Ne.symm uL.1), fun h₃ b₃ => fin D h₃ _ ?_ (fun q hq => ?_) fun q hq => (up _ (Heap.lt_size (N q hq).1)).2⟩
    · exact Fr.change ⟨ns₂, fun c o hc => old c o (fun hm => by
        rw [List.mem_singleton.mp hm, Heap.get?_none_of_le F₁.above] at hc
        exact nomatch hc) (F₁.keep c o hc), F₁.above⟩ b₃ (Ne.symm uL.1) fC
    · refine ⟨b₃.extBut _ _ ?_ (old _ _ (by simpa using (N₁ q hq).2.1) (N₁ q hq).1), (N₁ q hq).2⟩
      rcases List.mem_cons.mp hq with rfl | hq
      · exact Nat.ne_of_lt hC
      · exact (up _ (Heap.lt_size (N q hq).1)).1
  rw [exec_Assign_Name_used _ _ _ _ hsw]
  exact wpAny_bind (wpAny_standAt (wpAny_bind (wpAny_bind (wpAny_mono (step _) (fun _ _ hq => wpAny_pure (wpAny_pure hq)) fun _ _ x => x))))
end
section
variable {prog : Program} {w : World} {A : Around} {E : Value → Shared → Prop} {s : Shared} {h₀ : Heap} {L : Addr} {m : Str → Option Value} {env : Env}
/-- ints all along, one turn for all of them -/
theorem EnRest.ints {elt : PySem.Expr} {a b : Str} {scope : Scope} {cl : List (Str × Addr)} {Fin : List Value → Prop} {news : List (Addr × Obj)} {bs : List (Int × Tok)} (P : Int → Prop)
    (turn : ∀ (i : Nat) (bi : Int) (tb : Tok) (ys : List Value) (R : Value → Prop), bs[i]? = some (bi, tb) → (∀ T tk, P T → R (.int T tk)) → ∀ (t : Tok) e oe it oit C oC D m₂ h tk (E' : Value → Shared → Prop), LCg.NsObj oC m₂ → m₂ a = some (.int (i : Nat) t) → m₂ b = some (.int bi tb) → Fr h₀ L h m → News h₀ L h ((e, oe) :: (it, oit) :: (C, oC) :: (D, LCg.lst ys) :: news) →
      (∀ q ∈ news, @Ne Nat q.1 e ∧ @Ne Nat q.1 it ∧ @Ne Nat q.1 C ∧ @Ne Nat q.1 D) → (@Ne Nat e it ∧ @Ne Nat e C ∧ @Ne Nat e D ∧ @Ne Nat it C ∧ @Ne Nat it D ∧ @Ne Nat C D) →
      wpAny (model prog w) A (eval elt (compEnvC scope cl C env)) (EnEnd h₀ L m { s with heap := h, toks := tk } ((e, oe) :: (it, oit) :: (C, oC) :: (D, LCg.lst ys) :: news) R) E' { s with heap := h, toks := tk })
    (fin : ∀ Ts : List (Int × Tok), Ts.length = bs.length → (∀ p ∈ Ts, P p.1) → Fin (Ts.map fun p => .int p.1 p.2)) :
    EnRest prog w A h₀ L m env elt a b scope cl s Fin news 0 (bs.map fun p => .int p.1 p.2) [] := by
  have key : ∀ (rest pre don : List (Int × Tok)), bs = pre ++ rest → don.length = pre.length → (∀ p ∈ don, P p.1) → EnRest prog w A h₀ L m env elt a b scope cl s Fin news pre.length (rest.map fun p => .int p.1 p.2) (don.map fun p => .int p.1 p.2) := by
    intro rest
    induction rest with
    | nil =>
      intro pre don hb hl hp
      rw [List.append_nil] at hb
      exact fin don (by rw [hl, hb]) hp
    | cons q r ih =>
      intro pre don hb hl hp
      refine EnRest.cons fun t e oe it oit C oC D m₂ h tk E' hC ha hbb F N off ne => ?_
      refine turn pre.length q.1 q.2 _ _ (by rw [hb, List.getElem?_append_right (Nat.le_refl _), Nat.sub_self]; rfl) (fun T tk2 hT => ?_) t e oe it oit C oC D m₂ h tk E' hC ha hbb F N off ne
      have := ih (pre ++ [q]) (don ++ [(T, tk2)]) (by rw [hb, List.append_assoc]; rfl) (by rw [List.length_append, List.length_append, hl]; rfl) (fun p hm => by
        rcases List.mem_append.mp hm with h | h
        · exact hp p h
        · rw [List.mem_singleton.mp h]; exact hT)
      rw [List.length_append, List.map_append] at this
      exact this
  exact key bs [] [] rfl rfl (fun _ h => nomatch h)
theorem begs {t1 t2 t3 tb : Tok} {i : Nat} {bi : Int} (h : [((2 : Int), t1), (1, t2), (5, t3)][i]? = some (bi, tb)) : i < 3 ∧ 0 ≤ bi ∧ bi ≤ 5 := by
  match i, h with
  | 0, h => cases h; decide
  | 1, h => cases h; decide
  | 2, h => cases h; decide
  | n + 3, h => simp at h
end

theorem tot_bd {b : Int} (l : List Int) (hl : l.length ≤ 63) (h0 : 0 ≤ b) (h1 : b ≤ 5) : 0 ≤ b + (l.map (fun k' : Int => k'.fmod (10 ^ Int.toNat 6))).sum ∧ b + (l.map (fun k' : Int => k'.fmod (10 ^ Int.toNat 6))).sum < 100000000 := by
  have h : ∀ l : List Int, 0 ≤ (l.map (fun k' : Int => k'.fmod (10 ^ Int.toNat 6))).sum ∧ (l.map (fun k' : Int => k'.fmod (10 ^ Int.toNat 6))).sum ≤ 1000000 * (l.length : Int) := by
    intro l
    induction l with
    | nil => simp
    | cons x l ih =>
      have e1 : (0 : Int) ≤ x.fmod (10 ^ Int.toNat 6) := Int.fmod_nonneg_of_pos _ (by decide)
      have e2 : x.fmod (10 ^ Int.toNat 6) < 10 ^ Int.toNat 6 := Int.fmod_lt_of_pos _ (by decide)
      have e3 : (10 : Int) ^ Int.toNat 6 = 1000000 := by decide
      simp only [List.map_cons, List.sum_cons, List.length_cons]
      omega
  have := h l
  omega
def Odd6 (z : Int) : Prop := z = 3 ∨ z = 5 ∨ z = 7 ∨ z = 9 ∨ z = 11 ∨ z = 13
theorem odd_bd (T : Int) : Odd6 (3 + 2 * T.fmod 6) := by
  have e1 : (0 : Int) ≤ T.fmod 6 := Int.fmod_nonneg_of_pos _ (by decide)
  have e2 : T.fmod 6 < 6 := Int.fmod_lt_of_pos _ (by decide)
  generalize T.fmod 6 = r at *
  unfold Odd6
  omega
theorem Odd6.bd {z : Int} (h : Odd6 z) : 3 ≤ z ∧ z ≤ 13 := by unfold Odd6 at h; omega
theorem tail_bd (T : Int) : 0 ≤ T.fmod 5 ∧ T.fmod 5 < 5 := ⟨Int.fmod_nonneg_of_pos _ (by decide), Int.fmod_lt_of_pos _ (by decide)⟩
def comL (z s : Int) : List Int := List.foldl (fun l' k' => if z.fmod k' = 0 ∧ s.fmod k' = 0 then l' ++ [k'] else if z.fmod k' = 0 ∧ ¬ s.fmod k' = 0 then l' else l') [] (rangeKs 1 (z + 1 - 1).toNat)
theorem com_pos {z s : Int} (hz : Odd6 z) (hs : Odd6 s) : 0 < (comL z s).length := by
  rcases hz with rfl | rfl | rfl | rfl | rfl | rfl <;> rcases hs with rfl | rfl | rfl | rfl | rfl | rfl <;> decide
theorem store_gen {M : Model} {A : Around} {x : Str} {env : Env} {v : Int} {t : Tok} {P : Int → Prop} {Q : Unit → Shared → Prop} {E : Value → Shared → Prop} {s : Shared} (hv : P v) (h : ∀ z t, P z → wpAny M A (storeName env x (.int z t)) Q E s) : wpAny M A (storeName env x (.int v t)) Q E s := h v t hv
/-- the law behind the last if of a turn -/
def LawMid (s : Shared) (h₀ : Heap) (L D : Addr) (led : List (Addr × Obj)) (f : Flow) (s' : Shared) : Prop :=
  f = .next ∧ ∃ (h' : Heap) (tk' : Nat) (m₀ : Str → Option Value), s' = { s with heap := h', toks := tk' } ∧ Fr h₀ L h' (fun y => if y = Str.ofString "totals" then some (.ref D) else m₀ y) ∧ News h₀ L h' led
theorem law_mid {M : Model} {A : Around} {t : Sem Flow} {s : Shared} {h₀ : Heap} {L D : Addr} {led : List (Addr × Obj)} {Q : Flow → Shared → Prop} {E : Value → Shared → Prop} (_N : News h₀ L s.heap led) (walk : wpAny M A t (LawMid s h₀ L D led) E s)
    (rest : ∀ (h' : Heap) (tk' : Nat) (m₀ : Str → Option Value), Fr h₀ L h' (fun y => if y = Str.ofString "totals" then some (.ref D) else m₀ y) → News h₀ L h' led → Q .next { s with heap := h', toks := tk' }) : wpAny M A t Q E s :=
  wpAny_mono walk (fun f s' h => by
    obtain ⟨rfl, h', tk', m₀, rfl, F, N⟩ := h
    exact rest h' tk' m₀ F N) (fun _ _ e => e)
theorem law_true {cl : Str → Option Addr} {mean : ExcName → Option Value} {args : List WData} {s₁ s' : Shared} {L : Addr} {m : Str → Option Value} (F : Fr s₁.heap L s'.heap m) (hg : s'.gens = #[]) (hos : s'.os = s₁.os) :
    GoodW PySem.Challenge.rw_pe0234_01.row.claim cl mean args s₁ (.ok (.ret (.bool true))) s' :=
  goodW_bool F hg (raisesW_false (fun _ h => nomatch h)) (postW_of rfl rfl (by w_fin)) hos

theorem comL_def (z s : Int) : List.foldl (fun l' k' => if z.fmod k' = 0 ∧ s.fmod k' = 0 then l' ++ [k'] else if z.fmod k' = 0 ∧ ¬ s.fmod k' = 0 then l' else l') [] (rangeKs 1 (z + 1 - 1).toNat) = comL z s := rfl
/-- the greatest common factor, as the law takes it -/
def cmx (z s : Int) : Int := (comL z s).foldl max 0
theorem cmx_ok {z s : Int} (hz : Odd6 z) (hs : Odd6 s) : cmx z s ∈ comL z s ∧ ∀ a ∈ comL z s, a ≤ cmx z s := by
  rcases hz with rfl | rfl | rfl | rfl | rfl | rfl <;> rcases hs with rfl | rfl | rfl | rfl | rfl | rfl <;> decide +kernel
theorem cmx_is {z s M : Int} (hz : Odd6 z) (hs : Odd6 s) (h1 : M ∈ comL z s) (h2 : ∀ a, a ∈ comL z s → a ≤ M) : M = cmx z s := by
  have h := cmx_ok hz hs
  have e1 := h.2 M h1
  have e2 := h2 _ h.1
  omega
def raceR (z s : Int) : Int × Int := (raceRun s z 40 (putL (z, 1) [(s, 0)]) 0 0 0 0).getD (0, 0)
theorem race_is {z s : Int} (hz : Odd6 z) (hs : Odd6 s) : raceRun s z 40 (putL (z, 1) [(s, 0)]) 0 0 0 0 = some (raceR z s) := by
  rcases hz with rfl | rfl | rfl | rfl | rfl | rfl <;> rcases hs with rfl | rfl | rfl | rfl | rfl | rfl <;> decide +kernel
def tails : List Int := [0, 1, 2, 3, 4]
theorem tail_mem {w : Int} (h : 0 ≤ w ∧ w < 5) : w ∈ tails := by
  have : w = 0 ∨ w = 1 ∨ w = 2 ∨ w = 3 ∨ w = 4 := by omega
  rcases this with rfl | rfl | rfl | rfl | rfl <;> decide
def seats (a b w : Int) : Int := seatsOf (runsL a b w) b w ilF
theorem seats_all {z s : Int} (hz : Odd6 z) (hs : Odd6 s) : ∀ w ∈ tails, ((seats s z w).fdiv z = (raceR z s).1 + (cmx z s).fdiv 2 ∧ (seats s z w).fmod z = 0) ∧ (seats z s w).fdiv s = (raceR z s).2 ∧ (seats z s w).fmod s = 0 := by
  rcases hz with rfl | rfl | rfl | rfl | rfl | rfl <;> rcases hs with rfl | rfl | rfl | rfl | rfl | rfl <;> decide +kernel
theorem turned_mod (u l t : Int) (ks : List Int) : turnedF (u - l * t) l ks = turnedF u l ks := by
  have e : turnStep (u - l * t) l = turnStep u l := by
    funext st k
    have h : ((u - l * t) * k).fmod l = (u * k).fmod l := by
      have : (u - l * t) * k = u * k + l * (-(t * k)) := by
        rw [Int.sub_mul, Int.mul_neg, Int.mul_assoc]
        rfl
      rw [this, Int.add_mul_fmod_self_left]
    unfold turnStep
    rw [h]
  unfold turnedF
  rw [e]
def rowOf (M l : Int) : List Int := (rangeKs 0 l.toNat).map fun k => M * k.fdiv M
theorem row_is {u l : Int} (hu : Odd6 u) (hl : Odd6 l) : (turnedF u l (rangeKs 0 l.toNat)).2 = rowOf (cmx u l) l ∧ (turnedF u l (rangeKs 0 l.toNat)).2 = rowOf (cmx l u) l := by
  rcases hu with rfl | rfl | rfl | rfl | rfl | rfl <;> rcases hl with rfl | rfl | rfl | rfl | rfl | rfl <;> decide +kernel
theorem sym_is {z s : Int} (hz : Odd6 z) (hs : Odd6 s) : cmx z s = 1 →
    (1 - 2 * (turnedF s z (rangeKs 0 z.toNat)).1.fmod 2 = (symF s z (rangeKs 2 (z - 1).toNat)).2 ∧ 1 - 2 * ((raceR z s).1 + (cmx z s).fdiv 2).fmod 2 = (symF s z (rangeKs 2 (z - 1).toNat)).2) ∧
    1 - 2 * (turnedF z s (rangeKs 0 s.toNat)).1.fmod 2 = (symF z s (rangeKs 2 (s - 1).toNat)).2 ∧ 1 - 2 * (raceR z s).2.fmod 2 = (symF z s (rangeKs 2 (s - 1).toNat)).2 := by
  rcases hz with rfl | rfl | rfl | rfl | rfl | rfl <;> rcases hs with rfl | rfl | rfl | rfl | rfl | rfl <;> decide +kernel
theorem seats_cmp {z s w M : Int} (hz : Odd6 z) (hs : Odd6 s) (hw : 0 ≤ w ∧ w < 5) (hM : M = cmx z s) :
    ((seatsOf (runsL s z w) z w ilF).fdiv z == [(raceR z s).1, (raceR z s).2].getD (Int.toNat 0) 0 + M.fdiv 2 && (seatsOf (runsL s z w) z w ilF).fmod z == 0 && ((seatsOf (runsL z s w) s w ilF).fdiv s == [(raceR z s).1, (raceR z s).2].getD (Int.toNat 1) 0 && (seatsOf (runsL z s w) s w ilF).fmod s == 0)) = true := by
  have h := seats_all hz hs w (tail_mem hw)
  unfold seats at h
  rw [hM, h.1.1, h.1.2, h.2.1, h.2.2]
  simp
theorem cmx_bd {z s : Int} (hz : Odd6 z) (hs : Odd6 s) : 1 ≤ cmx z s ∧ cmx z s ≤ 13 := by
  rcases hz with rfl | rfl | rfl | rfl | rfl | rfl <;> rcases hs with rfl | rfl | rfl | rfl | rfl | rfl <;> decide +kernel
theorem fac_bd {u l T : Int} (hu : 3 ≤ u ∧ u ≤ 13) (hl : 3 ≤ l ∧ l ≤ 13) (hT : 0 ≤ T ∧ T < 100000000) : -1000000000000 < u - l * T ∧ u - l * T < 1000000000000 := by
  have h1 := Int.mul_nonneg (show 0 ≤ l by omega) hT.1
  have h2 := Int.mul_le_mul (show l ≤ 13 by omega) (show T ≤ 100000000 by omega) hT.1 (by decide)
  omega
theorem row_eq (M l : Int) : rowOf M l = List.map (fun k' => M * k'.fdiv M) (rangeKs 0 (l - 0).toNat) := by
  unfold rowOf
  rw [Int.sub_zero]
theorem sym_cmp1 {z s w M : Int} (hz : Odd6 z) (hs : Odd6 s) (hw : 0 ≤ w ∧ w < 5) (hM : M = cmx z s) (h1 : M = 1) :
    (1 - 2 * (turnedF s z (rangeKs 0 z.toNat)).1.fmod 2 == (symF s z (rangeKs 2 (z - 1).toNat)).2 && 1 - 2 * ((seatsOf (runsL s z w) z w ilF).fdiv z).fmod 2 == (symF s z (rangeKs 2 (z - 1).toNat)).2) = true := by
  have h := seats_all hz hs w (tail_mem hw)
  have g := sym_is hz hs (hM.symm.trans h1)
  unfold seats at h
  rw [h.1.1, g.1.1, g.1.2]
  simp
theorem sym_cmp2 {z s w M : Int} (hz : Odd6 z) (hs : Odd6 s) (hw : 0 ≤ w ∧ w < 5) (hM : M = cmx z s) (h1 : M = 1) :
    (1 - 2 * (turnedF z s (rangeKs 0 s.toNat)).1.fmod 2 == (symF z s (rangeKs 2 (s - 1).toNat)).2 && 1 - 2 * ((seatsOf (runsL z s w) s w ilF).fdiv s).fmod 2 == (symF z s (rangeKs 2 (s - 1).toNat)).2) = true := by
  have h := seats_all hz hs w (tail_mem hw)
  have g := sym_is hz hs (hM.symm.trans h1)
  unfold seats at h
  rw [h.2.1, g.2.1, g.2.2]
  simp

local macro_rules | `(tactic| walk_at "CompEnd") => `(tactic| (refine LCg.CompEnd.intro (by assumption) (by assumption) _ (fun p hp => hp) (by first | assumption | (simp only [LCg.Off3, and_true]; assumption)) (by first | exact True.intro | assumption | lcg_src) ?_))
set_option maxHeartbeats 40000000 in
theorem law_holds : PySem.Challenge.rw_pe0234_01.Holds := Mine.hd (by
  w_on
  k_go0
  all_goals try k_fold
  walk1
  rename PySem.Obj.data _ = _ => d1
  revert d1
  rename PySem.Obj.data _ = _ => d2
  revert d2
  rename PySem.Obj.data _ = _ => d3
  revert d3
  rename PySem.Obj.data _ = _ => d4
  intro d3 d2 d1
  replace d1 : PySem.Obj.data _ = PySem.Data.cell (some (.ref _)) := d1
  replace d2 : PySem.Obj.data _ = PySem.Data.cell none := d2
  replace d3 : PySem.Obj.data _ = PySem.Data.cell none := d3
  replace d4 : PySem.Obj.data _ = PySem.Data.cell none := d4
  rename IntsAre _ _ => hI
  rename PySem.Heap.IsList _ _ _ => hL
  rename ¬ ((63 : Nat) : Int) < _ => h63
  rename Fr _ _ _ _ => lF
  rename News _ _ _ _ => lN
  refine en_assign lF (by rfl) (by with_unfolding_all rfl) (by with_unfolding_all rfl) (by decide) (by rfl) (by decide) (by rfl) (by rfl) (by decide) (by rfl) (by rfl) (by rfl) ?_
  repeat' (first | (k_unfold; (try dsimp only)) | ((fail_if_success (first | (first | (with_reducible show KswEnd _ _ _ _ _ _ _ _ _ _ _ _) | (with_reducible show InvEndN _ _ _ _ _ _ _) | (with_reducible refine stop_mark ?h ?_; (case h => decide))) | (with_reducible show wpAny _ _ (pyIter (Value.ref _)) _ _ _) | (with_reducible show wpAny _ _ (pyIter (Value.str _ _)) _ _ _) | (with_reducible show wpAny _ _ (exec (Stmt.While _ _ _ _) _) _ _ _))); (first | walk1 | (dsimp only; walk1) | (leave1; try dsimp only))))
  rename Fr _ _ _ _ => lF2
  rename News _ _ _ _ => lN2
  refine call_enumerate_list ⟨_, lN2.get (List.Mem.head _), rfl, _, rfl⟩ ?_
  intro h9 he hit hsz9 hk9
  have lF3 := Fr.keeps lF2 hk9
  have lN3 := News.grown lN2 hk9
  have hlt9 := fun p hp => Heap.lt_size (lN2 p hp).1
  have hLlt := lF2.ns.lt
  refine ⟨_, _, _, _, _, _, rfl, lF3, lN3, List.Mem.head _, (by rw [PySem.sizeLine_eq]; exact Nat.le_of_ble_eq_true rfl), he, hit, Nat.succ_ne_self _, Nat.ne_of_lt (Nat.lt_succ_of_lt hLlt), Nat.ne_of_lt hLlt, fresh_above lF2 (Nat.le_succ _), fresh_above lF2 (Nat.le_refl _), fun p hp => ⟨Nat.ne_of_lt (Nat.lt_succ_of_lt (hlt9 p hp)), Nat.ne_of_lt (hlt9 p hp)⟩, ?_⟩
  clear lF2 lN2 lF3 lN3
  refine EnRest.ints (fun T => 0 ≤ T ∧ T < 100000000) (bs := [(2, _), (1, _), (5, _)]) ?turn ?fin
  case turn =>
    intro i bi tb ys R hbs hR t e oe it oit C oC D m₂ h tk E' hC ha hb F1 N1 off ne
    obtain ⟨hi3, hb0, hb5⟩ := begs hbs
    have hP := IntsAre.pick hI (some (i : Int)) none (some 3)
    have hPl := length_pickNums_le hI (some (i : Int)) none (some 3)
    simp only [List.forall_mem_cons, List.not_mem_nil, false_implies, implies_true, and_true] at off
    try k_fold
    repeat' ((fail_if_success (with_reducible show wpAny _ _ (eval (Expr.ListComp _ _ _ _) _) _ _ _)); (first | (k_unfold; (try dsimp only)) | ((fail_if_success (first | (first | (with_reducible show KswEnd _ _ _ _ _ _ _ _ _ _ _ _) | (with_reducible show InvEndN _ _ _ _ _ _ _) | (with_reducible refine stop_mark ?h ?_; (case h => decide))) | (with_reducible show wpAny _ _ (pyIter (Value.ref _)) _ _ _) | (with_reducible show wpAny _ _ (pyIter (Value.str _ _)) _ _ _) | (with_reducible show wpAny _ _ (exec (Stmt.While _ _ _ _) _) _ _ _))); (first | walk1 | (dsimp only; walk1) | (leave1; try dsimp only)))))
    refine LCg.ListComp_U (F₀ := by k_asm) (by with_unfolding_all rfl) (by decide) (by rfl) (by decide) (by rfl) ?_
    repeat' ((fail_if_success (with_reducible show wpAny _ _ (eval (Expr.ListComp _ _ _ _) _) _ _ _)); (first | (k_unfold; (try dsimp only)) | ((fail_if_success (first | (first | (with_reducible show KswEnd _ _ _ _ _ _ _ _ _ _ _ _) | (with_reducible show InvEndN _ _ _ _ _ _ _) | (with_reducible refine stop_mark ?h ?_; (case h => decide))) | (with_reducible show wpAny _ _ (pyIter (Value.ref _)) _ _ _) | (with_reducible show wpAny _ _ (pyIter (Value.str _ _)) _ _ _) | (with_reducible show wpAny _ _ (exec (Stmt.While _ _ _ _) _) _ _ _))); (first | walk1 | (dsimp only; walk1) | (leave1; try dsimp only)))))
    refine en_end (by k_asm) (by k_asm) (by ((repeat' (first | exact List.forall_mem_nil _ | refine List.forall_mem_cons.mpr ⟨?_, ?_⟩)); (all_goals (first | ((repeat' (first | assumption | exact List.Mem.head _ | refine List.Mem.tail _ ?_)); done) | (intro p hp; ((repeat' (first | assumption | exact List.Mem.head _ | refine List.Mem.tail _ ?_)); done)))))) ?_
    exact hR _ _ (tot_bd (b := bi) _ (Nat.le_trans hPl (by omega)) hb0 hb5)
  intro Ts hTl hTP
  rcases Ts with _ | ⟨⟨T0, k0⟩, _ | ⟨⟨T1, k1⟩, _ | ⟨⟨T2, k2⟩, _ | ⟨q9, Ts⟩⟩⟩⟩
  · exact absurd hTl (by simp)
  · exact absurd hTl (by simp)
  · exact absurd hTl (by simp)
  rotate_left
  · exact absurd hTl (by simp)
  have hT2 := hTP (T2, k2) (by simp)
  dsimp only at hT2
  clear hTl hTP
  intro D h tk F1 N1 off
  dsimp only [List.map] at N1
  simp only [List.forall_mem_cons, List.not_mem_nil, false_implies, implies_true, and_true] at off
  obtain ⟨m9, lG⟩ := fr_fold F1 (x := Str.ofString "totals") (v := .ref D) (by rfl)
  clear F1
  try k_fold
  repeat' ((fail_if_success (with_reducible show wpAny _ _ (storeName _ _ (Value.int _ _)) _ _ _)); (first | (k_unfold; (try dsimp only)) | ((fail_if_success (first | (first | (with_reducible show KswEnd _ _ _ _ _ _ _ _ _ _ _ _) | (with_reducible show InvEndN _ _ _ _ _ _ _) | (with_reducible refine stop_mark ?h ?_; (case h => decide))) | (with_reducible show wpAny _ _ (pyIter (Value.ref _)) _ _ _) | (with_reducible show wpAny _ _ (pyIter (Value.str _ _)) _ _ _) | (with_reducible show wpAny _ _ (exec (Stmt.While _ _ _ _) _) _ _ _))); (first | walk1 | (dsimp only; walk1) | (leave1; try dsimp only)))))
  refine store_gen (P := Odd6) (odd_bd _) ?_
  intro Z tZ hz
  have hz1 := hz.bd
  (first | (k_unfold; (try dsimp only)) | ((fail_if_success (first | (first | (with_reducible show KswEnd _ _ _ _ _ _ _ _ _ _ _ _) | (with_reducible show InvEndN _ _ _ _ _ _ _) | (with_reducible refine stop_mark ?h ?_; (case h => decide))) | (with_reducible show wpAny _ _ (pyIter (Value.ref _)) _ _ _) | (with_reducible show wpAny _ _ (pyIter (Value.str _ _)) _ _ _) | (with_reducible show wpAny _ _ (exec (Stmt.While _ _ _ _) _) _ _ _))); (first | walk1 | (dsimp only; walk1) | (leave1; try dsimp only))))
  repeat' ((fail_if_success (with_reducible show wpAny _ _ (storeName _ _ (Value.int _ _)) _ _ _)); (first | (k_unfold; (try dsimp only)) | ((fail_if_success (first | (first | (with_reducible show KswEnd _ _ _ _ _ _ _ _ _ _ _ _) | (with_reducible show InvEndN _ _ _ _ _ _ _) | (with_reducible refine stop_mark ?h ?_; (case h => decide))) | (with_reducible show wpAny _ _ (pyIter (Value.ref _)) _ _ _) | (with_reducible show wpAny _ _ (pyIter (Value.str _ _)) _ _ _) | (with_reducible show wpAny _ _ (exec (Stmt.While _ _ _ _) _) _ _ _))); (first | walk1 | (dsimp only; walk1) | (leave1; try dsimp only)))))
  refine store_gen (P := Odd6) (odd_bd _) ?_
  intro S tS hs
  have hs1 := hs.bd
  (first | (k_unfold; (try dsimp only)) | ((fail_if_success (first | (first | (with_reducible show KswEnd _ _ _ _ _ _ _ _ _ _ _ _) | (with_reducible show InvEndN _ _ _ _ _ _ _) | (with_reducible refine stop_mark ?h ?_; (case h => decide))) | (with_reducible show wpAny _ _ (pyIter (Value.ref _)) _ _ _) | (with_reducible show wpAny _ _ (pyIter (Value.str _ _)) _ _ _) | (with_reducible show wpAny _ _ (exec (Stmt.While _ _ _ _) _) _ _ _))); (first | walk1 | (dsimp only; walk1) | (leave1; try dsimp only))))
  repeat' ((fail_if_success (with_reducible show wpAny _ _ (storeName _ _ (Value.int _ _)) _ _ _)); (first | (k_unfold; (try dsimp only)) | ((fail_if_success (first | (first | (with_reducible show KswEnd _ _ _ _ _ _ _ _ _ _ _ _) | (with_reducible show InvEndN _ _ _ _ _ _ _) | (with_reducible refine stop_mark ?h ?_; (case h => decide))) | (with_reducible show wpAny _ _ (pyIter (Value.ref _)) _ _ _) | (with_reducible show wpAny _ _ (pyIter (Value.str _ _)) _ _ _) | (with_reducible show wpAny _ _ (exec (Stmt.While _ _ _ _) _) _ _ _))); (first | walk1 | (dsimp only; walk1) | (leave1; try dsimp only)))))
  refine store_gen (P := fun v => 0 ≤ v ∧ v < 5) (tail_bd _) ?_
  intro W tW hw
  repeat' (first | (k_unfold; (try dsimp only)) | ((fail_if_success (first | (first | (with_reducible show KswEnd _ _ _ _ _ _ _ _ _ _ _ _) | (with_reducible show InvEndN _ _ _ _ _ _ _) | (with_reducible refine stop_mark ?h ?_; (case h => decide))) | (with_reducible show wpAny _ _ (pyIter (Value.ref _)) _ _ _) | (with_reducible show wpAny _ _ (pyIter (Value.str _ _)) _ _ _) | (with_reducible show wpAny _ _ (exec (Stmt.While _ _ _ _) _) _ _ _))); (first | walk1 | (dsimp only; walk1) | (leave1; try dsimp only))))
  rename IntsAre _ _ => hIc
  rename News _ _ _ _ => lN
  have hcl := com_pos hz hs
  refine kso_max (by k_asm) (by k_asm) ⟨_, lN.get (List.Mem.head _), rfl, _, rfl⟩ hIc hcl (by rfl) ?_
  intro h9 M t9 tk9 F9 N9 hM1 hM2
  have lM := news_mask N9 [false, true, false, true, true, true]
  dsimp only [mask] at lM
  clear N9
  repeat' (first | (k_unfold; (try dsimp only)) | ((fail_if_success (first | (first | (with_reducible show KswEnd _ _ _ _ _ _ _ _ _ _ _ _) | (with_reducible show InvEndN _ _ _ _ _ _ _) | (with_reducible refine stop_mark ?h ?_; (case h => decide))) | (with_reducible show wpAny _ _ (pyIter (Value.ref _)) _ _ _) | (with_reducible show wpAny _ _ (pyIter (Value.str _ _)) _ _ _) | (with_reducible show wpAny _ _ (exec (Stmt.While _ _ _ _) _) _ _ _))); (first | walk1 | (dsimp only; walk1) | (leave1; try dsimp only))))
  (rename News _ _ _ _ => lN9; k_dflt (refine Spec.use (N := lN9) (seats_spec (by omega) (by omega) (by omega) (by omega) hw.1 hw.2) (by k_asm) (by k_asm) (by k_asm) (by k_asm) (by first | exact rfl | assumption) (by ktr_room) (by ktr_units) ?_))
  rintro r led' h2 tk2 ⟨To, u1, u2, rfl, lo1, rfl⟩ F2 N2
  repeat' (first | (k_unfold; (try dsimp only)) | ((fail_if_success (first | (first | (with_reducible show KswEnd _ _ _ _ _ _ _ _ _ _ _ _) | (with_reducible show InvEndN _ _ _ _ _ _ _) | (with_reducible refine stop_mark ?h ?_; (case h => decide))) | (with_reducible show wpAny _ _ (pyIter (Value.ref _)) _ _ _) | (with_reducible show wpAny _ _ (pyIter (Value.str _ _)) _ _ _) | (with_reducible show wpAny _ _ (exec (Stmt.While _ _ _ _) _) _ _ _))); (first | walk1 | (dsimp only; walk1) | (leave1; try dsimp only))))
  (rename News _ _ _ _ => lN9; k_dflt (refine Spec.use (N := lN9) (seats_spec (by omega) (by omega) (by omega) (by omega) hw.1 hw.2) (by k_asm) (by k_asm) (by k_asm) (by k_asm) (by first | exact rfl | assumption) (by ktr_room) (by ktr_units) ?_))
  rintro r led' h2 tk2 ⟨Tu, u3, u4, rfl, lo2, rfl⟩ F2 N2
  repeat' (first | (k_unfold; (try dsimp only)) | ((fail_if_success (first | (first | (with_reducible show KswEnd _ _ _ _ _ _ _ _ _ _ _ _) | (with_reducible show InvEndN _ _ _ _ _ _ _) | (with_reducible refine stop_mark ?h ?_; (case h => decide))) | (with_reducible show wpAny _ _ (pyIter (Value.ref _)) _ _ _) | (with_reducible show wpAny _ _ (pyIter (Value.str _ _)) _ _ _) | (with_reducible show wpAny _ _ (exec (Stmt.While _ _ _ _) _) _ _ _))); (first | walk1 | (dsimp only; walk1) | (leave1; try dsimp only))))
  (rename News _ _ _ _ => lN9; k_dflt (refine Spec.use (N := lN9) (race_spec (race_is hz hs)) (by k_asm) (by k_asm) (by k_asm) (by k_asm) (by first | exact rfl | assumption) (by ktr_room) (by ktr_units) ?_))
  rintro r led' h2 tk2 ⟨Tr, u5, u6, n9, rfl, lo3, rfl⟩ F2 N2
  repeat' (first | (k_unfold; (try dsimp only)) | ((fail_if_success (first | (first | (with_reducible show KswEnd _ _ _ _ _ _ _ _ _ _ _ _) | (with_reducible show InvEndN _ _ _ _ _ _ _) | (with_reducible refine stop_mark ?h ?_; (case h => decide))) | (with_reducible show wpAny _ _ (pyIter (Value.ref _)) _ _ _) | (with_reducible show wpAny _ _ (pyIter (Value.str _ _)) _ _ _) | (with_reducible show wpAny _ _ (exec (Stmt.While _ _ _ _) _) _ _ _))); (first | walk1 | (dsimp only; walk1) | (leave1; try dsimp only))))
  have hM := cmx_is hz hs hM1 hM2
  rotate_left
  have hM := cmx_is hz hs hM1 hM2
  rename _ = false => hcmp
  exact absurd ((seats_cmp hz hs hw hM).symm.trans hcmp) (by decide)
  clear hM1 hM2 hIc
  rename Fr _ _ _ _ => lF
  obtain ⟨m8, lG⟩ := fr_fold lF (x := Str.ofString "totals") (v := .ref D) (by rfl)
  clear lF
  rename News _ _ _ _ => lN
  have lM := news_mask lN [true, true, true, false, false, false, false, false, false, false, true, true]
  dsimp only [mask] at lM
  clear lN
  (first | (k_unfold; (try dsimp only)) | ((fail_if_success (first | (with_reducible show KswEnd _ _ _ _ _ _ _ _ _ _ _ _) | (with_reducible show InvEndN _ _ _ _ _ _ _) | (with_reducible refine stop_mark ?h ?_; (case h => decide)))); (first | walk1 | (dsimp only; walk1) | (leave1; try dsimp only))))
  (first | (k_unfold; (try dsimp only)) | ((fail_if_success (first | (with_reducible show KswEnd _ _ _ _ _ _ _ _ _ _ _ _) | (with_reducible show InvEndN _ _ _ _ _ _ _) | (with_reducible refine stop_mark ?h ?_; (case h => decide)))); (first | walk1 | (dsimp only; walk1) | (leave1; try dsimp only))))
  (first | (k_unfold; (try dsimp only)) | ((fail_if_success (first | (with_reducible show KswEnd _ _ _ _ _ _ _ _ _ _ _ _) | (with_reducible show InvEndN _ _ _ _ _ _ _) | (with_reducible refine stop_mark ?h ?_; (case h => decide)))); (first | walk1 | (dsimp only; walk1) | (leave1; try dsimp only))))
  repeat' (first | (k_unfold; (try dsimp only)) | ((fail_if_success (first | (with_reducible show KswEnd _ _ _ _ _ _ _ _ _ _ _ _) | (with_reducible show InvEndN _ _ _ _ _ _ _) | (with_reducible refine stop_mark ?h ?_; (case h => decide)))); (first | walk1 | (dsimp only; walk1) | (leave1; try dsimp only))))
  have hMb := cmx_bd hz hs
  rw [← hM] at hMb
  (rename News _ _ _ _ => lN9; k_dflt (refine Spec.use (N := lN9) (turned_spec (fac_bd hs1 hz1 hT2).1 (fac_bd hs1 hz1 hT2).2 (by omega) (by omega)) (by k_asm) (by k_asm) (by k_asm) (by k_asm) (by first | exact rfl | assumption) (by ktr_room) (by ktr_units) ?_))
  rintro r led' h2 tk2 ⟨Tt, lr, tok, vs, nn, rfl, hIr, hlT, hll, rfl⟩ F2 N2
  rw [turned_mod] at hIr N2
  rw [(row_is hs hz).2, ← hM] at hIr
  repeat' ((fail_if_success (with_reducible show wpAny _ _ (exec (Stmt.If _ _ _ _) _) _ _ _)); (first | (k_unfold; (try dsimp only)) | ((fail_if_success (first | (with_reducible show KswEnd _ _ _ _ _ _ _ _ _ _ _ _) | (with_reducible show InvEndN _ _ _ _ _ _ _) | (with_reducible refine stop_mark ?h ?_; (case h => decide)))); (first | walk1 | (dsimp only; walk1) | (leave1; try dsimp only)))))
  (first | (k_unfold; (try dsimp only)) | ((fail_if_success (first | (with_reducible show KswEnd _ _ _ _ _ _ _ _ _ _ _ _) | (with_reducible show InvEndN _ _ _ _ _ _ _) | (with_reducible refine stop_mark ?h ?_; (case h => decide)))); (first | walk1 | (dsimp only; walk1) | (leave1; try dsimp only))))
  repeat' ((fail_if_success (with_reducible show wpAny _ _ (exec (Stmt.If _ _ _ _) _) _ _ _)); (first | (k_unfold; (try dsimp only)) | ((fail_if_success (first | (with_reducible show KswEnd _ _ _ _ _ _ _ _ _ _ _ _) | (with_reducible show InvEndN _ _ _ _ _ _ _) | (with_reducible refine stop_mark ?h ?_; (case h => decide)))); (first | walk1 | (dsimp only; walk1) | (leave1; try dsimp only)))))
  rotate_left
  rename ¬ rowOf _ _ = _ => hne
  exact absurd (row_eq M Z) hne
  rename News _ _ _ _ => lN
  have lM := news_mask lN [false, false, false, true, true, true, false, true, true]
  dsimp only [mask] at lM
  clear lN
  refine law_mid (D := D) lM ?walk ?rest
  case walk =>
    try k_fold
    repeat' (first | (k_unfold; (try dsimp only)) | ((fail_if_success (first | (with_reducible show KswEnd _ _ _ _ _ _ _ _ _ _ _ _) | (with_reducible show InvEndN _ _ _ _ _ _ _) | (with_reducible refine stop_mark ?h ?_; (case h => decide)))); (first | walk1 | (dsimp only; walk1) | (leave1; try dsimp only))))
    · rename M = 1 => hM1
      (rename News _ _ _ _ => lN9; k_dflt (refine Spec.use (N := lN9) (symbol_spec (by omega) (by omega) (by omega) (by omega)) (by k_asm) (by k_asm) (by k_asm) (by k_asm) (by first | exact rfl | assumption) (by ktr_room) (by ktr_units) ?_))
      rintro r led' h2 tk2 ⟨⟨tsy, rfl⟩, rfl⟩ F2 N2
      repeat' (first | (k_unfold; (try dsimp only)) | ((fail_if_success (first | (with_reducible show KswEnd _ _ _ _ _ _ _ _ _ _ _ _) | (with_reducible show InvEndN _ _ _ _ _ _ _) | (with_reducible refine stop_mark ?h ?_; (case h => decide)))); (first | walk1 | (dsimp only; walk1) | (leave1; try dsimp only))))
      · rename Fr _ _ _ _ => lF
        rename News _ _ _ _ => lN
        obtain ⟨m₀, lG⟩ := fr_fold lF (x := Str.ofString "totals") (v := .ref D) (by rfl)
        unfold LawMid
        exact ⟨rfl, _, _, m₀, rfl, lG, news_sub lN (by ((repeat' (first | exact List.forall_mem_nil _ | refine List.forall_mem_cons.mpr ⟨?_, ?_⟩)); (all_goals (first | ((repeat' (first | assumption | exact List.Mem.head _ | refine List.Mem.tail _ ?_)); done) | (intro p hp; ((repeat' (first | assumption | exact List.Mem.head _ | refine List.Mem.tail _ ?_)); done))))))⟩
      · rename _ = false => hc
        exact absurd ((sym_cmp1 hz hs hw hM hM1).symm.trans hc) (by decide)
    · rename Fr _ _ _ _ => lF
      rename News _ _ _ _ => lN
      obtain ⟨m₀, lG⟩ := fr_fold lF (x := Str.ofString "totals") (v := .ref D) (by rfl)
      unfold LawMid
      exact ⟨rfl, _, _, m₀, rfl, lG, news_sub lN (by ((repeat' (first | exact List.forall_mem_nil _ | refine List.forall_mem_cons.mpr ⟨?_, ?_⟩)); (all_goals (first | ((repeat' (first | assumption | exact List.Mem.head _ | refine List.Mem.tail _ ?_)); done) | (intro p hp; ((repeat' (first | assumption | exact List.Mem.head _ | refine List.Mem.tail _ ?_)); done))))))⟩
  clear lM
  intro h9 tk9 m9 F9 N9
  dsimp only
  try k_fold
  repeat' (first | (k_unfold; (try dsimp only)) | ((fail_if_success (first | (with_reducible show KswEnd _ _ _ _ _ _ _ _ _ _ _ _) | (with_reducible show InvEndN _ _ _ _ _ _ _) | (with_reducible refine stop_mark ?h ?_; (case h => decide)))); (first | walk1 | (dsimp only; walk1) | (leave1; try dsimp only))))
  rename News _ _ _ _ => lN
  have lM := news_mask lN [true, true, false, true, true]
  dsimp only [mask] at lM
  clear lN
  (rename News _ _ _ _ => lN9; k_dflt (refine Spec.use (N := lN9) (turned_spec (fac_bd hz1 hs1 hT2).1 (fac_bd hz1 hs1 hT2).2 (by omega) (by omega)) (by k_asm) (by k_asm) (by k_asm) (by k_asm) (by first | exact rfl | assumption) (by ktr_room) (by ktr_units) ?_))
  rintro r led' h2 tk2 ⟨Tt2, lr2, tok2, vs2, nn2, rfl, hIr2, hlT2, hll2, rfl⟩ F2 N2
  rw [turned_mod] at hIr2 N2
  rw [(row_is hz hs).1, ← hM] at hIr2
  repeat' ((fail_if_success (with_reducible show wpAny _ _ (exec (Stmt.If _ _ _ _) _) _ _ _)); (first | (k_unfold; (try dsimp only)) | ((fail_if_success (first | (with_reducible show KswEnd _ _ _ _ _ _ _ _ _ _ _ _) | (with_reducible show InvEndN _ _ _ _ _ _ _) | (with_reducible refine stop_mark ?h ?_; (case h => decide)))); (first | walk1 | (dsimp only; walk1) | (leave1; try dsimp only)))))
  (first | (k_unfold; (try dsimp only)) | ((fail_if_success (first | (with_reducible show KswEnd _ _ _ _ _ _ _ _ _ _ _ _) | (with_reducible show InvEndN _ _ _ _ _ _ _) | (with_reducible refine stop_mark ?h ?_; (case h => decide)))); (first | walk1 | (dsimp only; walk1) | (leave1; try dsimp only))))
  repeat' ((fail_if_success (with_reducible show wpAny _ _ (exec (Stmt.If _ _ _ _) _) _ _ _)); (first | (k_unfold; (try dsimp only)) | ((fail_if_success (first | (with_reducible show KswEnd _ _ _ _ _ _ _ _ _ _ _ _) | (with_reducible show InvEndN _ _ _ _ _ _ _) | (with_reducible refine stop_mark ?h ?_; (case h => decide)))); (first | walk1 | (dsimp only; walk1) | (leave1; try dsimp only)))))
  rotate_left
  rename ¬ rowOf _ _ = _ => hne
  exact absurd (row_eq M S) hne
  rename News _ _ _ _ => lN
  have lM := news_mask lN [false, false, false, true, true, true, true]
  dsimp only [mask] at lM
  clear lN
  refine law_mid (D := D) lM ?walk2 ?rest2
  case walk2 =>
    try k_fold
    repeat' (first | (k_unfold; (try dsimp only)) | ((fail_if_success (first | (with_reducible show KswEnd _ _ _ _ _ _ _ _ _ _ _ _) | (with_reducible show InvEndN _ _ _ _ _ _ _) | (with_reducible refine stop_mark ?h ?_; (case h => decide)))); (first | walk1 | (dsimp only; walk1) | (leave1; try dsimp only))))
    · rename M = 1 => hM1
      (rename News _ _ _ _ => lN9; k_dflt (refine Spec.use (N := lN9) (symbol_spec (by omega) (by omega) (by omega) (by omega)) (by k_asm) (by k_asm) (by k_asm) (by k_asm) (by first | exact rfl | assumption) (by ktr_room) (by ktr_units) ?_))
      rintro r led' h2 tk2 ⟨⟨tsy, rfl⟩, rfl⟩ F2 N2
      repeat' (first | (k_unfold; (try dsimp only)) | ((fail_if_success (first | (with_reducible show KswEnd _ _ _ _ _ _ _ _ _ _ _ _) | (with_reducible show InvEndN _ _ _ _ _ _ _) | (with_reducible refine stop_mark ?h ?_; (case h => decide)))); (first | walk1 | (dsimp only; walk1) | (leave1; try dsimp only))))
      · rename Fr _ _ _ _ => lF
        rename News _ _ _ _ => lN
        obtain ⟨m₀, lG⟩ := fr_fold lF (x := Str.ofString "totals") (v := .ref D) (by rfl)
        unfold LawMid
        exact ⟨rfl, _, _, m₀, rfl, lG, news_sub lN (by ((repeat' (first | exact List.forall_mem_nil _ | refine List.forall_mem_cons.mpr ⟨?_, ?_⟩)); (all_goals (first | ((repeat' (first | assumption | exact List.Mem.head _ | refine List.Mem.tail _ ?_)); done) | (intro p hp; ((repeat' (first | assumption | exact List.Mem.head _ | refine List.Mem.tail _ ?_)); done))))))⟩
      · rename _ = false => hc
        exact absurd ((sym_cmp2 hz hs hw hM hM1).symm.trans hc) (by decide)
    · rename Fr _ _ _ _ => lF
      rename News _ _ _ _ => lN
      obtain ⟨m₀, lG⟩ := fr_fold lF (x := Str.ofString "totals") (v := .ref D) (by rfl)
      unfold LawMid
      exact ⟨rfl, _, _, m₀, rfl, lG, news_sub lN (by ((repeat' (first | exact List.forall_mem_nil _ | refine List.forall_mem_cons.mpr ⟨?_, ?_⟩)); (all_goals (first | ((repeat' (first | assumption | exact List.Mem.head _ | refine List.Mem.tail _ ?_)); done) | (intro p hp; ((repeat' (first | assumption | exact List.Mem.head _ | refine List.Mem.tail _ ?_)); done))))))⟩
  clear lM
  intro h9 tk9 m9 F9 N9
  dsimp only
  try k_fold
  repeat' (first | (k_unfold; (try dsimp only)) | ((fail_if_success (first | (with_reducible show KswEnd _ _ _ _ _ _ _ _ _ _ _ _) | (with_reducible show InvEndN _ _ _ _ _ _ _) | (with_reducible refine stop_mark ?h ?_; (case h => decide)))); (first | walk1 | (dsimp only; walk1) | (leave1; try dsimp only))))
  dsimp only
  repeat' (k_unfold; (try dsimp only))
  rename Fr _ _ _ _ => lF
  exact law_true lF (by assumption) (by rfl))

end Mine
set_option maxRecDepth 100000 in
set_option maxHeartbeats 8000000 in
theorem PySem.Challenge.cw_pe0234_01_holds : PySem.Challenge.rw_pe0234_01.Holds := by
  exact Mine.law_holds
