import PyProof.Rows.All
import Wide.All
import OpenK.AllK
import Wide.FinOn
import PySem.Challenge.RW_sw0045_01
set_option Elab.async false
set_option rowWalk.seconds 0

namespace Mine
open PySem PySem.W PyProof.Rows
/- Top1 -/
section
open PySem PySem.W PyProof.Rows
set_option maxRecDepth 100000 in
set_option maxHeartbeats 8000000 in
open_top hd for PySem.Challenge.rw_sw0045_01
end

/- Base1 -/
section
open PySem PySem.W PyProof.Rows
set_option maxRecDepth 100000

noncomputable abbrev prg : Program := PySem.Challenge.rw_sw0045_01.row.prog

abbrev Ret (h₀ : Heap) (L : Addr) (m : Str → Option Value) (s : Shared) (Q : Value → Shared → Prop) (Post : Value → List (Addr × Obj) → Prop) : Prop :=
  ∀ (v : Value) (news' : List (Addr × Obj)) (h' : Heap) (tk' : Nat), Fr h₀ L h' m → News h₀ L h' news' → Post v news' → Q v { s with heap := h', toks := tk' }

/-- a call of the def at f on vs, wherever it stands: from a ledger news it comes back with a value and a ledger as Post says -/
abbrev Cl (w : World) (mean : ExcName → Option Value) (mg mb : Str → Option Value) (f : Addr) (dd du : Nat) (news : List (Addr × Obj)) (vs : List Value) (Post : Value → List (Addr × Obj) → Prop) : Prop :=
  ∀ (dp un : Nat) (gd : Option (List Code)) (cn : Str) (cs : Scope) (a : Addr) (ccd : Value) (cl : List (Str × Addr)) (outer : List Env) (A₀ : Around) (base h₀ : Heap) (L : Addr) (m : Str → Option Value) (s : Shared) (Q E : Value → Shared → Prop),
    Below A₀ base outer h₀ → Fr h₀ L s.heap m → (hd.heap_39 w.params).In h₀ → News h₀ L s.heap news → (∃ lo, Top topProg lo mean mg mb h₀) → cs.kind = .function → dp + dd < recursionLimit → un + du < cLine → Ret h₀ L m s Q Post →
    wpAny (model PySem.Challenge.rw_sw0045_01.row.prog w) (ktrTop dp un gd cn cs L a ccd cl outer) (PySem.call (.ref f) vs) Q E s

theorem ret_end {h₀ : Heap} {L : Addr} {m : Str → Option Value} {s : Shared} {Q : Value → Shared → Prop} {Post : Value → List (Addr × Obj) → Prop} (hret : Ret h₀ L m s Q Post) {h' : Heap} {tk' : Nat} {v : Value} (news' : List (Addr × Obj))
    (F : Fr h₀ L h' m) (N : News h₀ L h' news') (hp : Post v news') : Q v { s with heap := h', toks := tk' } := hret _ _ _ _ F N hp

noncomputable def cntI (x : Int) : Int := [0, 1, 1, 2, 1, 2, 2, 3, 1, 2, 2, 3, 2, 3, 3, 4].getD x.toNat 0
theorem cnt_step (x : Int) (h0 : 0 < x) (h1 : x < 16) : cntI x = Int.fmod x 2 + cntI (Int.fdiv x 2) := by
  have : ∀ n : Fin 16, 0 < n.val → cntI (n.val : Int) = Int.fmod (n.val : Int) 2 + cntI (Int.fdiv (n.val : Int) 2) := by decide
  have h := this ⟨x.toNat, by omega⟩ (by show 0 < x.toNat; omega)
  have e : ((⟨x.toNat, by omega⟩ : Fin 16).val : Int) = x := by show ((x.toNat : Nat) : Int) = x; omega
  rw [e] at h
  exact h
theorem cnt_turn {c y k : Int} (h0 : 0 ≤ y) (h1 : y < 16) (h2 : c + cntI y = k) (h3 : 0 < y) : 0 ≤ Int.fdiv y 2 ∧ Int.fdiv y 2 < 16 ∧ (c + Int.fmod y 2) + cntI (Int.fdiv y 2) = k := by
  have h := cnt_step y h3 h1
  refine ⟨?_, ?_, by omega⟩ <;> (rw [Int.fdiv_eq_ediv_of_nonneg _ (by decide)]; omega)
theorem cnt_less {y : Int} (h3 : 0 < y) : (Int.fdiv y 2).toNat < y.toNat := by
  rw [Int.fdiv_eq_ediv_of_nonneg _ (by decide)]; omega
theorem cnt_done {c y k : Int} (h0 : 0 ≤ y) (h2 : c + cntI y = k) (h3 : ¬ 0 < y) : c = k := by
  have : y = 0 := by omega
  subst this
  have : cntI 0 = 0 := by decide
  omega
end

/- Bis -/
section
open PySem PySem.W PyProof.Rows
/-- p false below lo, true from hi on: the state of a search by halving (p i: the i-th is beyond) -/
noncomputable def BInv (p : Int → Prop) (n lo hi : Int) : Prop := (∀ i, 0 ≤ i → i < lo → ¬ p i) ∧ (∀ i, hi ≤ i → i < n → p i)
theorem bInv_start (p : Int → Prop) (n : Int) : BInv p n 0 n := ⟨fun i h1 h2 => by omega, fun i h1 h2 => by omega⟩

noncomputable def beyondR (ns : List Int) (x : Int) (i : Int) : Prop := x < ns.getD i.toNat 0
noncomputable def beyondL (ns : List Int) (x : Int) (i : Int) : Prop := ¬ (ns.getD i.toNat 0 < x)
abbrev Sorted (ns : List Int) : Prop := ns.Pairwise (· ≤ ·)
theorem sorted_get {ns : List Int} (h : Sorted ns) {i j : Nat} (hij : i ≤ j) (hj : j < ns.length) : ns.getD i 0 ≤ ns.getD j 0 := by
  rw [List.getD_eq_getElem?_getD, List.getD_eq_getElem?_getD, List.getElem?_eq_getElem hj, List.getElem?_eq_getElem (by omega)]
  show ns[i] ≤ ns[j]
  rcases Nat.eq_or_lt_of_le hij with e | e
  · subst e; omega
  · exact List.pairwise_iff_getElem.mp h i j (by omega) hj e

theorem mono_step {p : Int → Prop} {n lo hi mid : Int} (hm : ∀ i j, 0 ≤ i → i ≤ j → j < n → p i → p j) (h0 : 0 ≤ lo) (h1 : hi ≤ n) (e1 : lo ≤ mid) (e2 : mid < hi) (B : BInv p n lo hi) :
    (p mid → BInv p n lo mid) ∧ (¬ p mid → BInv p n (mid + 1) hi) :=
  ⟨fun hp => ⟨B.1, fun i hi1 hi2 => hm mid i (by omega) hi1 hi2 hp⟩, fun hp => ⟨fun i hi1 hi2 hpi => hp (hm i mid hi1 (by omega) (by omega) hpi), B.2⟩⟩
theorem monoR {ns : List Int} (h : Sorted ns) (x : Int) : ∀ i j, 0 ≤ i → i ≤ j → j < (ns.length : Int) → beyondR ns x i → beyondR ns x j := by
  intro i j h0 h1 h2 hp
  have := sorted_get h (show i.toNat ≤ j.toNat by omega) (by omega)
  unfold beyondR at *
  omega
theorem monoL {ns : List Int} (h : Sorted ns) (x : Int) : ∀ i j, 0 ≤ i → i ≤ j → j < (ns.length : Int) → beyondL ns x i → beyondL ns x j := by
  intro i j h0 h1 h2 hp
  have := sorted_get h (show i.toNat ≤ j.toNat by omega) (by omega)
  unfold beyondL at *
  omega

/-- the place that a search ends at is the count of what is not beyond -/
theorem count_of {q : Int → Bool} : ∀ (ns : List Int) (k : Nat), k ≤ ns.length → (∀ i, i < k → q (ns.getD i 0) = true) → (∀ i, k ≤ i → i < ns.length → q (ns.getD i 0) = false) → ns.countP q = k := by
  intro ns
  induction ns with
  | nil => intro k hk _ _; simp at hk; subst hk; rfl
  | cons a r ih =>
    intro k hk h1 h2
    cases k with
    | zero =>
      have ha : q a = false := by have := h2 0 (Nat.le_refl _) (by simp); simpa using this
      have hr := ih 0 (Nat.zero_le _) (fun i hi => absurd hi (Nat.not_lt_zero _)) (fun i _ hi => by have := h2 (i + 1) (Nat.zero_le _) (by simpa using hi); simpa using this)
      rw [List.countP_cons, hr, ha]; rfl
    | succ k =>
      have ha : q a = true := by have := h1 0 (Nat.succ_pos _); simpa using this
      have hr := ih k (by simpa using hk) (fun i hi => by have := h1 (i + 1) (by omega); simpa using this) (fun i h3 hi => by have := h2 (i + 1) (by omega) (by simpa using hi); simpa using this)
      rw [List.countP_cons, hr, ha]; rfl
noncomputable def cR (ns : List Int) (x : Int) : Int := (ns.countP fun y => decide (y ≤ x) : Nat)
noncomputable def cL (ns : List Int) (x : Int) : Int := (ns.countP fun y => decide (y < x) : Nat)
theorem cR_of {ns : List Int} {x lo hi : Int} (h0 : 0 ≤ lo) (h : lo ≤ hi) (hn : hi ≤ (ns.length : Int)) (B : BInv (beyondR ns x) ns.length lo hi) (hl : ¬ lo < hi) : lo = cR ns x := by
  have : lo = hi := by omega
  subst this
  have e := count_of (q := fun y => decide (y ≤ x)) ns lo.toNat (by omega)
    (fun i hi => by have := B.1 i (by omega) (by omega); unfold beyondR at this; simp only [Int.toNat_natCast] at this; exact decide_eq_true (by omega))
    (fun i h1 h2 => by have := B.2 i (by omega) (by omega); unfold beyondR at this; simp only [Int.toNat_natCast] at this; exact decide_eq_false (by omega))
  unfold cR; rw [e]; omega
theorem cL_of {ns : List Int} {x lo hi : Int} (h0 : 0 ≤ lo) (h : lo ≤ hi) (hn : hi ≤ (ns.length : Int)) (B : BInv (beyondL ns x) ns.length lo hi) (hl : ¬ lo < hi) : lo = cL ns x := by
  have : lo = hi := by omega
  subst this
  have e := count_of (q := fun y => decide (y < x)) ns lo.toNat (by omega)
    (fun i hi => by have := B.1 i (by omega) (by omega); unfold beyondL at this; simp only [Int.toNat_natCast] at this; exact decide_eq_true (by omega))
    (fun i h1 h2 => by have := B.2 i (by omega) (by omega); unfold beyondL at this; simp only [Int.toNat_natCast] at this; exact decide_eq_false (by omega))
  unfold cL; rw [e]; omega
theorem mid_facts {lo hi : Int} (h0 : 0 ≤ lo) (h : lo < hi) : lo ≤ Int.fdiv (lo + hi) 2 ∧ Int.fdiv (lo + hi) 2 < hi := by
  rw [Int.fdiv_eq_ediv_of_nonneg _ (by decide)]; omega
end

/- C1 -/
section
open PySem PySem.W PyProof.Rows
set_option maxRecDepth 100000
set_option maxHeartbeats 8000000

theorem c_count {w : World} {mean : ExcName → Option Value} {mg mb : Str → Option Value} {news : List (Addr × Obj)} (x : Int) (t : Tok) (h0 : 0 ≤ x) (h1 : x < 16) :
    Cl w mean mg mb 144 1 8 news [.int x t] (fun v news' => news' = news ∧ ∃ t', v = .int (cntI x) t') := by
  w_top off
  unfold Cl
  k_fill
  intro dp un gd cn cs a ccd cl outer A₀ base h₀ L m s Q E B F X N T hk hdp hu hret
  obtain ⟨loo, T⟩ := T
  refine wpAny_call ?_
  k_dflt cell_enter
  k_with "exec While Compare cons nil" => k_while (fun _ c y => 0 ≤ y ∧ y < 16 ∧ c + cntI y = cntI x) (fun _ c y => y.toNat) "count" "x"
  k_with "state" => exact cnt_turn (by assumption) (by assumption) (by assumption) (by assumption)
  k_with "measure" => exact cnt_less (by assumption)
  k_steps
  · have e := cnt_done (by assumption) (by assumption) (by assumption)
    exact ret_end hret _ (by assumption) (by assumption) ⟨rfl, _, by rw [e]⟩
end

/- C2 -/
section
open PySem PySem.W PyProof.Rows
set_option maxRecDepth 100000
set_option maxHeartbeats 8000000

theorem br_up {ns : List Int} {x lo hi : Int} (hs : Sorted ns) (h0 : 0 ≤ lo) (hn : hi ≤ (ns.length : Int)) (B : BInv (beyondR ns x) ns.length lo hi) (hl : lo < hi) (hx : ¬ x < ns.getD (Int.fdiv (lo + hi) 2).toNat 0) :
    0 ≤ Int.fdiv (lo + hi) 2 + 1 ∧ Int.fdiv (lo + hi) 2 + 1 ≤ hi ∧ hi ≤ (ns.length : Int) ∧ BInv (beyondR ns x) ns.length (Int.fdiv (lo + hi) 2 + 1) hi := by
  have f := mid_facts h0 hl
  exact ⟨by omega, by omega, hn, (mono_step (monoR hs x) h0 hn f.1 f.2 B).2 hx⟩
theorem br_down {ns : List Int} {x lo hi : Int} (hs : Sorted ns) (h0 : 0 ≤ lo) (hn : hi ≤ (ns.length : Int)) (B : BInv (beyondR ns x) ns.length lo hi) (hl : lo < hi) (hx : x < ns.getD (Int.fdiv (lo + hi) 2).toNat 0) :
    0 ≤ lo ∧ lo ≤ Int.fdiv (lo + hi) 2 ∧ Int.fdiv (lo + hi) 2 ≤ (ns.length : Int) ∧ BInv (beyondR ns x) ns.length lo (Int.fdiv (lo + hi) 2) := by
  have f := mid_facts h0 hl
  exact ⟨by omega, by omega, by omega, (mono_step (monoR hs x) h0 hn f.1 f.2 B).1 hx⟩

theorem br_lessU {lo hi : Int} (h0 : 0 ≤ lo) (hl : lo < hi) : (hi - (Int.fdiv (lo + hi) 2 + 1)).toNat < (hi - lo).toNat := by
  have f := mid_facts h0 hl
  omega
theorem br_lessD {lo hi : Int} (h0 : 0 ≤ lo) (hl : lo < hi) : (Int.fdiv (lo + hi) 2 - lo).toNat < (hi - lo).toNat := by
  have f := mid_facts h0 hl
  omega
theorem c_br4 {w : World} {mean : ExcName → Option Value} {mg mb : Str → Option Value} {rest : List (Addr × Obj)} {l : Addr} {vs : List Value} {ns : List Int} {n : Nat} {x : Int} {t t' : Tok} (hi : IntsAre vs ns) (hs : Sorted ns) (hfit : ns.length < 2 ^ 20) :
    Cl w mean mg mb 46 1 8 ((l, listOf vs.toArray n) :: rest) [.ref l, .int x t, .int 0 t', .none] (fun v news' => news' = (l, listOf vs.toArray n) :: rest ∧ ∃ t', v = .int (cR ns x) t') := by
  w_top off
  unfold Cl
  k_fill
  intro dp un gd cn cs a ccd cl outer A₀ base h₀ L m s Q E B F X N T hk hdp hu hret
  obtain ⟨loo, T⟩ := T
  have kMark : KstMark := kstMark
  refine wpAny_call ?_
  k_dflt ((refine' code_def ?k1 ?k2 ?k3 ?k4 ?k5 ?kA ?kF ?kK ?k6 ?k7 ?k8 ?k9 ?kB ?_ ?c2 ?c3 ?c4 ?c5; (case kA => exact rfl); (case kF => exact rfl); (case kK => assumption); (case k1 => k_asm); (case k2 => k_asm); (case k3 => k_asm); (case k4 => k_asm); (case k5 => k_asm); (case k6 => k_is); (case k7 => k_is); (case k8 => ktr_room); (case k9 => (first | exact BindsTo.of_eq rfl | (refine' kp_binds ?kx ?ke; (case kx => k_in); (case ke => exact fun _ => rfl)))); (case c5 => decide); (case kB => exact locs rfl); (case c2 => exact rfl); (case c3 => exact rfl); (case c4 => exact rfl); k_whole; intro g' L' h' FG' F' N' B' X' T'; (try dsimp only); (try k_lift B'); (try k_fold)))
  k_with "exec While Compare cons nil" => k_while (fun _ lo hi => 0 ≤ lo ∧ lo ≤ hi ∧ hi ≤ (ns.length : Int) ∧ BInv (beyondR ns x) ns.length lo hi) (fun _ lo hi => (hi - lo).toNat) "lo" "hi"
  k_with "state" => first | exact br_up hs (by assumption) (by assumption) (by assumption) (by assumption) (by assumption) | exact br_down hs (by assumption) (by assumption) (by assumption) (by assumption) (by assumption) | exact ⟨Int.le_refl _, by omega, Int.le_refl _, bInv_start _ _⟩
  k_with "measure" => first | exact br_lessU (by assumption) (by assumption) | exact br_lessD (by assumption) (by assumption)
  k_steps
  · have e := cR_of (by assumption) (by assumption) (by assumption) (by assumption) (by assumption)
    exact ret_end hret _ (by assumption) (by assumption) ⟨rfl, _, by rw [e]⟩
end

/- C3 -/
section
open PySem PySem.W PyProof.Rows
set_option maxRecDepth 100000
set_option maxHeartbeats 8000000
theorem c_br2 {w : World} {mean : ExcName → Option Value} {mg mb : Str → Option Value} {rest : List (Addr × Obj)} {l : Addr} {vs : List Value} {ns : List Int} {n : Nat} {x : Int} {t : Tok} (hi : IntsAre vs ns) (hs : Sorted ns) (hfit : ns.length < 2 ^ 20) :
    Cl w mean mg mb 46 1 8 ((l, listOf vs.toArray n) :: rest) [.ref l, .int x t] (fun v news' => news' = (l, listOf vs.toArray n) :: rest ∧ ∃ t', v = .int (cR ns x) t') := by
  w_top off
  unfold Cl
  k_fill
  intro dp un gd cn cs a ccd cl outer A₀ base h₀ L m s Q E B F X N T hk hdp hu hret
  obtain ⟨loo, T⟩ := T
  have kMark : KstMark := kstMark
  refine wpAny_call ?_
  k_dflt ((refine' code_def ?k1 ?k2 ?k3 ?k4 ?k5 ?kA ?kF ?kK ?k6 ?k7 ?k8 ?k9 ?kB ?_ ?c2 ?c3 ?c4 ?c5; (case kA => exact rfl); (case kF => exact rfl); (case kK => assumption); (case k1 => k_asm); (case k2 => k_asm); (case k3 => k_asm); (case k4 => k_asm); (case k5 => k_asm); (case k6 => k_is); (case k7 => k_is); (case k8 => ktr_room); (case k9 => (first | exact BindsTo.of_eq rfl | (refine' kp_binds ?kx ?ke; (case kx => k_in); (case ke => exact fun _ => rfl)))); (case c5 => decide); (case kB => exact locs rfl); (case c2 => exact rfl); (case c3 => exact rfl); (case c4 => exact rfl); k_whole; intro g' L' h' FG' F' N' B' X' T'; (try dsimp only); (try k_lift B'); (try k_fold)))
  k_with "exec While Compare cons nil" => k_while (fun _ lo hi => 0 ≤ lo ∧ lo ≤ hi ∧ hi ≤ (ns.length : Int) ∧ BInv (beyondR ns x) ns.length lo hi) (fun _ lo hi => (hi - lo).toNat) "lo" "hi"
  k_with "state" => first | exact br_up hs (by assumption) (by assumption) (by assumption) (by assumption) (by assumption) | exact br_down hs (by assumption) (by assumption) (by assumption) (by assumption) (by assumption) | exact ⟨Int.le_refl _, by omega, Int.le_refl _, bInv_start _ _⟩
  k_with "measure" => first | exact br_lessU (by assumption) (by assumption) | exact br_lessD (by assumption) (by assumption)
  k_steps
  · have e := cR_of (by assumption) (by assumption) (by assumption) (by assumption) (by assumption)
    exact ret_end hret _ (by assumption) (by assumption) ⟨rfl, _, by rw [e]⟩
theorem bl_up {ns : List Int} {x lo hi : Int} (hs : Sorted ns) (h0 : 0 ≤ lo) (hn : hi ≤ (ns.length : Int)) (B : BInv (beyondL ns x) ns.length lo hi) (hl : lo < hi) (hx : ns.getD (Int.fdiv (lo + hi) 2).toNat 0 < x) :
    0 ≤ Int.fdiv (lo + hi) 2 + 1 ∧ Int.fdiv (lo + hi) 2 + 1 ≤ hi ∧ hi ≤ (ns.length : Int) ∧ BInv (beyondL ns x) ns.length (Int.fdiv (lo + hi) 2 + 1) hi := by
  have f := mid_facts h0 hl
  exact ⟨by omega, by omega, hn, (mono_step (monoL hs x) h0 hn f.1 f.2 B).2 fun q => q hx⟩
theorem bl_down {ns : List Int} {x lo hi : Int} (hs : Sorted ns) (h0 : 0 ≤ lo) (hn : hi ≤ (ns.length : Int)) (B : BInv (beyondL ns x) ns.length lo hi) (hl : lo < hi) (hx : ¬ ns.getD (Int.fdiv (lo + hi) 2).toNat 0 < x) :
    0 ≤ lo ∧ lo ≤ Int.fdiv (lo + hi) 2 ∧ Int.fdiv (lo + hi) 2 ≤ (ns.length : Int) ∧ BInv (beyondL ns x) ns.length lo (Int.fdiv (lo + hi) 2) := by
  have f := mid_facts h0 hl
  exact ⟨by omega, by omega, by omega, (mono_step (monoL hs x) h0 hn f.1 f.2 B).1 hx⟩
theorem c_bl2 {w : World} {mean : ExcName → Option Value} {mg mb : Str → Option Value} {rest : List (Addr × Obj)} {l : Addr} {vs : List Value} {ns : List Int} {n : Nat} {x : Int} {t : Tok} (hi : IntsAre vs ns) (hs : Sorted ns) (hfit : ns.length < 2 ^ 20) :
    Cl w mean mg mb 55 1 8 ((l, listOf vs.toArray n) :: rest) [.ref l, .int x t] (fun v news' => news' = (l, listOf vs.toArray n) :: rest ∧ ∃ t', v = .int (cL ns x) t') := by
  w_top off
  unfold Cl
  k_fill
  intro dp un gd cn cs a ccd cl outer A₀ base h₀ L m s Q E B F X N T hk hdp hu hret
  obtain ⟨loo, T⟩ := T
  have kMark : KstMark := kstMark
  refine wpAny_call ?_
  k_dflt ((refine' code_def ?k1 ?k2 ?k3 ?k4 ?k5 ?kA ?kF ?kK ?k6 ?k7 ?k8 ?k9 ?kB ?_ ?c2 ?c3 ?c4 ?c5; (case kA => exact rfl); (case kF => exact rfl); (case kK => assumption); (case k1 => k_asm); (case k2 => k_asm); (case k3 => k_asm); (case k4 => k_asm); (case k5 => k_asm); (case k6 => k_is); (case k7 => k_is); (case k8 => ktr_room); (case k9 => (first | exact BindsTo.of_eq rfl | (refine' kp_binds ?kx ?ke; (case kx => k_in); (case ke => exact fun _ => rfl)))); (case c5 => decide); (case kB => exact locs rfl); (case c2 => exact rfl); (case c3 => exact rfl); (case c4 => exact rfl); k_whole; intro g' L' h' FG' F' N' B' X' T'; (try dsimp only); (try k_lift B'); (try k_fold)))
  k_with "exec While Compare cons nil" => k_while (fun _ lo hi => 0 ≤ lo ∧ lo ≤ hi ∧ hi ≤ (ns.length : Int) ∧ BInv (beyondL ns x) ns.length lo hi) (fun _ lo hi => (hi - lo).toNat) "lo" "hi"
  k_with "state" => first | exact bl_up hs (by assumption) (by assumption) (by assumption) (by assumption) (by assumption) | exact bl_down hs (by assumption) (by assumption) (by assumption) (by assumption) (by assumption) | exact ⟨Int.le_refl _, by omega, Int.le_refl _, bInv_start _ _⟩
  k_with "measure" => first | exact br_lessU (by assumption) (by assumption) | exact br_lessD (by assumption) (by assumption)
  k_steps
  · have e := cL_of (by assumption) (by assumption) (by assumption) (by assumption) (by assumption)
    exact ret_end hret _ (by assumption) (by assumption) ⟨rfl, _, by rw [e]⟩
end

/- C4 -/
section
open PySem PySem.W PyProof.Rows
set_option maxRecDepth 100000
set_option maxHeartbeats 8000000
theorem cl_use {w : World} {mean : ExcName → Option Value} {mg mb : Str → Option Value} {f : Addr} {dd du : Nat} {news : List (Addr × Obj)} {vs : List Value} {Post : Value → List (Addr × Obj) → Prop}
    {dp un : Nat} {gd : Option (List Code)} {cn : Str} {cs : Scope} {a : Addr} {ccd : Value} {cl : List (Str × Addr)} {outer : List Env} {A₀ : Around} {base h₀ : Heap} {L : Addr} {m : Str → Option Value} {s : Shared} {Q E : Value → Shared → Prop}
    (C : Cl w mean mg mb f dd du news vs Post) (B : Below A₀ base outer h₀) (F : Fr h₀ L s.heap m) (X : (hd.heap_39 w.params).In h₀) (N : News h₀ L s.heap news) {loo : List Str} (T : Top topProg loo mean mg mb h₀) (hk : cs.kind = .function) (hdp : dp + dd < recursionLimit) (hu : un + du < cLine)
    (ret : ∀ (v : Value) (news' : List (Addr × Obj)) (h' : Heap) (tk' : Nat), Fr h₀ L h' m → News h₀ L h' news' → Post v news' → Q v { s with heap := h', toks := tk' }) :
    wpAny (model PySem.Challenge.rw_sw0045_01.row.prog w) (ktrTop dp un gd cn cs L a ccd cl outer) (PySem.call (.ref f) vs) Q E s := C _ _ _ _ _ _ _ _ _ _ _ _ _ _ _ _ _ B F X N ⟨loo, T⟩ hk hdp hu ret

noncomputable def insR (ns : List Int) (x : Int) : List Int := ns.take (cR ns x).toNat ++ x :: ns.drop (cR ns x).toNat
theorem cR_nonneg (ns : List Int) (x : Int) : 0 ≤ cR ns x := by unfold cR; omega
theorem cR_le (ns : List Int) (x : Int) : cR ns x ≤ (ns.length : Int) := by unfold cR; have := List.countP_le_length (p := fun y => decide (y ≤ x)) (l := ns); omega
theorem ints_take {vs : List Value} {ns : List Int} (h : IntsAre vs ns) : ∀ k, IntsAre (vs.take k) (ns.take k) := by
  induction h with
  | nil => intro k; simp; exact IntsAre.nil
  | cons _ _ _ ih => intro k; cases k with
    | zero => exact IntsAre.nil
    | succ k => exact IntsAre.cons _ _ (ih k)
theorem ints_drop {vs : List Value} {ns : List Int} (h : IntsAre vs ns) : ∀ k, IntsAre (vs.drop k) (ns.drop k) := by
  induction h with
  | nil => intro k; simp; exact IntsAre.nil
  | cons _ _ q ih => intro k; cases k with
    | zero => exact IntsAre.cons _ _ q
    | succ k => exact ih k
theorem ints_append {vs us : List Value} {ns ms : List Int} (h : IntsAre vs ns) (g : IntsAre us ms) : IntsAre (vs ++ us) (ns ++ ms) := by
  induction h with
  | nil => exact g
  | cons _ _ _ ih => exact IntsAre.cons _ _ ih
theorem ints_ins {vs : List Value} {ns : List Int} (h : IntsAre vs ns) (x : Int) (t : Tok) : IntsAre (kl_ins vs (cR ns x) (.int x t)) (insR ns x) := by
  have h0 := cR_nonneg ns x
  have h1 := cR_le ns x
  have hl := h.length
  unfold kl_ins insR
  rw [if_neg (by omega), Nat.min_eq_left (by omega)]
  exact ints_append (ints_take h _) (IntsAre.cons _ _ (ints_drop h _))
theorem fits_cR {ns : List Int} (x : Int) (hfit : ns.length < 2 ^ 20) : Builtin.List.listFitsIndex (cR ns x) = true := by
  have h0 := cR_nonneg ns x
  have h1 := cR_le ns x
  unfold Builtin.List.listFitsIndex
  simp
  omega

section
theorem c_ins {w : World} {mean : ExcName → Option Value} {mg mb : Str → Option Value} {rest : List (Addr × Obj)} {l : Addr} {vs : List Value} {ns : List Int} {n : Nat} {x : Int} {t : Tok} (hi : IntsAre vs ns) (hs : Sorted ns) (hfit : ns.length < 2 ^ 20) (hoff : ∀ p ∈ rest, p.1 ≠ l) :
    Cl w mean mg mb 37 2 16 ((l, listOf vs.toArray n) :: rest) [.ref l, .int x t] (fun v news' => v = .none ∧ ∃ vs' n', news' = (l, listOf vs'.toArray n') :: rest ∧ IntsAre vs' (insR ns x)) := by
  w_top off
  unfold Cl
  k_fill
  intro dp un gd cn cs a ccd cl outer A₀ base h₀ L m s Q E B F X N T hk hdp hu hret
  obtain ⟨loo, T⟩ := T
  have kMark : KstMark := kstMark
  refine wpAny_call ?_
  k_dflt ((refine' code_def ?k1 ?k2 ?k3 ?k4 ?k5 ?kA ?kF ?kK ?k6 ?k7 ?k8 ?k9 ?kB ?_ ?c2 ?c3 ?c4 ?c5; (case kA => exact rfl); (case kF => exact rfl); (case kK => assumption); (case k1 => k_asm); (case k2 => k_asm); (case k3 => k_asm); (case k4 => k_asm); (case k5 => k_asm); (case k6 => k_is); (case k7 => k_is); (case k8 => ktr_room); (case k9 => (first | exact BindsTo.of_eq rfl | (refine' kp_binds ?kx ?ke; (case kx => k_in); (case ke => exact fun _ => rfl)))); (case c5 => decide); (case kB => exact locs rfl); (case c2 => exact rfl); (case c3 => exact rfl); (case c4 => exact rfl); k_whole; intro g' L' h' FG' F' N' B' X' T'; (try dsimp only); (try k_lift B'); (try k_fold)))
  repeat' (first | ((with_reducible show wpAny _ _ (PySem.call (Value.builtin "list.insert") _ _) _ _ _); (k_here; k_dflt (refine' kl_insert ?F ?N ?f rfl (.head ?o) ?z ?_; (case F => k_asm); (case N => k_asm); (case f => exact fits_cR _ (by assumption)); (case o => assumption); (case z => (have hz8 := IntsAre.length (by assumption); (simp only [sizeLine_eq]); omega)); k_whole); intro h8 F8 N8; (try k_fold))) | (k_here; (with_reducible show wpAny _ _ (PySem.call (Value.ref 46) [_, _, _, _]) _ _ _); k_dflt (refine' cl_use (c_br4 ?hi ?hs ?hf) ?k1 ?k2 ?k3 ?k4 ?k5 ?kK ?kd ?ku ?_; (case k1 => k_asm); (case k2 => k_asm); (case k3 => k_asm); (case k4 => k_asm); (case k5 => k_asm); (case kK => first | exact rfl | assumption); (case kd => ktr_room); (case ku => ktr_units); (case hi => assumption); (case hs => assumption); (case hf => assumption); k_whole); intro v9 nw9 h9 tk9 F9 N9 P9; (obtain ⟨e8, t8, e9⟩ := P9); subst e8; subst e9; (try dsimp only); (try k_fold)) | (k_unfold; (try dsimp only)) | (k_end; wrow_close) | walk1 | (dsimp only; walk1) | (leave1; walk_say "STEP leave1"; try dsimp only))
  · exact ret_end hret _ (by assumption) (by assumption) ⟨rfl, _, _, rfl, ints_ins hi x t⟩
end
end

/- C5 -/
section
open PySem PySem.W PyProof.Rows
set_option maxRecDepth 100000
set_option maxHeartbeats 8000000

noncomputable def scF (a b : Str) : Int := if (a == b) = true then 0 else if (Txt.lower a == Txt.lower b) = true then 1 else 2
theorem c_sc {w : World} {mean : ExcName → Option Value} {mg mb : Str → Option Value} {news : List (Addr × Obj)} {a b : Str} {t u : Tok} (ha : a.length ≤ 1) (hb : b.length ≤ 1) :
    Cl w mean mg mb 21 1 8 news [.str a t, .str b u] (fun v news' => news' = news ∧ ∃ t', v = .int (scF a b) t') := by
  w_top off
  unfold Cl
  k_fill
  intro dp un gd cn cs a' ccd cl outer A₀ base h₀ L m s Q E B F X N T hk hdp hu hret
  obtain ⟨loo, T⟩ := T
  have kMark : KstMark := kstMark
  refine wpAny_call ?_
  k_dflt ((refine' code_def ?k1 ?k2 ?k3 ?k4 ?k5 ?kA ?kF ?kK ?k6 ?k7 ?k8 ?k9 ?kB ?_ ?c2 ?c3 ?c4 ?c5; (case kA => exact rfl); (case kF => exact rfl); (case kK => assumption); (case k1 => k_asm); (case k2 => k_asm); (case k3 => k_asm); (case k4 => k_asm); (case k5 => k_asm); (case k6 => k_is); (case k7 => k_is); (case k8 => ktr_room); (case k9 => (first | exact BindsTo.of_eq rfl | (refine' kp_binds ?kx ?ke; (case kx => k_in); (case ke => exact fun _ => rfl)))); (case c5 => decide); (case kB => exact locs rfl); (case c2 => exact rfl); (case c3 => exact rfl); (case c4 => exact rfl); k_whole; intro g' L' h' FG' F' N' B' X' T'; (try dsimp only); (try k_lift B'); (try k_fold)))
  k_steps
  · rename (a == b) = true => e
    exact ret_end hret _ (by assumption) (by assumption) ⟨rfl, _, by unfold scF; rw [if_pos e]⟩
  · rename (a == b) = false => e
    rename (Txt.lower a == Txt.lower b) = true => e2
    exact ret_end hret _ (by assumption) (by assumption) ⟨rfl, _, by unfold scF; rw [e, e2]; rfl⟩
  · rename (a == b) = false => e
    rename (Txt.lower a == Txt.lower b) = false => e2
    exact ret_end hret _ (by assumption) (by assumption) ⟨rfl, _, by unfold scF; rw [e, e2]; rfl⟩
end

/- Lev -/
section
open PySem PySem.W PyProof.Rows PySem.Spec
section
variable {prog : Program} {w : World} {A : Around} {E : Value → Shared → Prop} {Q : Flow → Shared → Prop} {s : Shared} {env : Env} {h₀ : Heap} {L : Addr}

noncomputable def W1End (h₀ : Heap) (L : Addr) (s : Shared) (news : List (Addr × Obj)) (y : Str) (m₀ : Str → Option Value) (I : Int → Prop) (μ : Int → Nat) (k : Int) (s₂ : Shared) : Prop :=
  ∃ (k' : Int) (t' : Tok) (h' : Heap) (tk : Nat) (m' : Str → Option Value) (news' : List (Addr × Obj)), s₂ = { s with heap := h', toks := tk } ∧ Fr h₀ L h' m' ∧ News h₀ L h' news' ∧ (∀ p ∈ news, p ∈ news') ∧ m' y = some (.int k' t') ∧ (∀ z, z ≠ y → m' z = m₀ z) ∧ I k' ∧ μ k' < μ k
noncomputable def W1Exit (h₀ : Heap) (L : Addr) (s : Shared) (news : List (Addr × Obj)) (y : Str) (m₀ : Str → Option Value) (Ex : Int → Prop) (k : Int) (s₂ : Shared) : Prop :=
  ∃ (t' : Tok) (h' : Heap) (tk : Nat) (m' : Str → Option Value) (news' : List (Addr × Obj)), s₂ = { s with heap := h', toks := tk } ∧ Fr h₀ L h' m' ∧ News h₀ L h' news' ∧ (∀ p ∈ news, p ∈ news') ∧ m' y = some (.int k t') ∧ (∀ z, z ≠ y → m' z = m₀ z) ∧ Ex k
noncomputable def W1Post (h₀ : Heap) (L : Addr) (s : Shared) (news : List (Addr × Obj)) (y : Str) (m₀ : Str → Option Value) (I : Int → Prop) (μ : Int → Nat) (k : Int) (f : Flow) (s₂ : Shared) : Prop :=
  match f with
  | .next => W1End h₀ L s news y m₀ I μ k s₂
  | .cont => W1End h₀ L s news y m₀ I μ k s₂
  | _ => False

theorem w1_exit {h₀ : Heap} {L : Addr} {s : Shared} {news : List (Addr × Obj)} {y : Str} {m₀ : Str → Option Value} {Ex : Int → Prop} {k : Int} {t' : Tok} {h' : Heap} {tk : Nat} {news' : List (Addr × Obj)}
    (F : Fr h₀ L h' (fun z => if z = y then some (.int k t') else m₀ z)) (N : News h₀ L h' news') (hn : ∀ p ∈ news, p ∈ news') (hx : Ex k) : W1Exit h₀ L s news y m₀ Ex k { s with heap := h', toks := tk } :=
  ⟨t', h', tk, _, news', rfl, F, N, hn, by simp, fun z hz => by simp [hz], hx⟩
theorem w1_end {h₀ : Heap} {L : Addr} {s : Shared} {news : List (Addr × Obj)} {y : Str} {m₀ m' : Str → Option Value} {I : Int → Prop} {μ : Int → Nat} {k k' : Int} {t' : Tok} {h' : Heap} {tk : Nat} {news' : List (Addr × Obj)}
    (F : Fr h₀ L h' m') (N : News h₀ L h' news') (hn : ∀ p ∈ news, p ∈ news') (e1 : m' y = some (.int k' t')) (e2 : ∀ z, z ≠ y → m' z = m₀ z) (hi : I k') (hm : μ k' < μ k) : W1Post h₀ L s news y m₀ I μ k .next { s with heap := h', toks := tk } :=
  ⟨k', t', h', tk, m', news', rfl, F, N, hn, e1, e2, hi, hm⟩
theorem map_one1 {y : Str} {m' m₀ : Str → Option Value} {v : Value} (h1 : m' y = some v) (h2 : ∀ z, z ≠ y → m' z = m₀ z) : (fun z => if z = y then some v else m₀ z) = m' := by
  funext z
  by_cases h : z = y
  · subst h; simp [h1]
  · simp [h, h2 z h]

theorem while1 {y : Str} {test : Expr} {body : List Stmt} {pos : Pos} {m₀ : Str → Option Value} {news : List (Addr × Obj)} {k₀ : Int} {t₀ : Tok} (I Ex : Int → Prop) (μ : Int → Nat)
    (F : Fr h₀ L s.heap m₀) (N : News h₀ L s.heap news) (hk : m₀ y = some (.int k₀ t₀)) (hp : I k₀)
    (turn : ∀ k t h tk, I k → Fr h₀ L h (fun z => if z = y then some (.int k t) else m₀ z) → News h₀ L h news →
      wpAny (model prog w) A (isTrue test env (eval test env)) (fun b s₂ =>
        if b = true then wpAny (model prog w) A (execs body env) (W1Post h₀ L s news y m₀ I μ k) E s₂ else W1Exit h₀ L s news y m₀ Ex k s₂) E { s with heap := h, toks := tk })
    (done : ∀ k t h tk, I k → Ex k → Fr h₀ L h (fun z => if z = y then some (.int k t) else m₀ z) → News h₀ L h news → Q .next { s with heap := h, toks := tk })
    (hE : PassesOwn (model prog w) A env E := by passes_own) :
    wpAny (model prog w) A (exec (.While test body [] pos) env) Q E s := by
  refine While_inv2 (fun n m nx => ∃ k t, nx = news ∧ μ k = n ∧ m y = some (.int k t) ∧ (∀ z, z ≠ y → m z = m₀ z) ∧ I k) F N ⟨k₀, t₀, rfl, rfl, hk, fun _ _ => rfl, hp⟩ ?_ hE
  rintro n m₁ nx h tk F₁ N₁ ⟨k, t, hnx, hsz, h1, h2, hI⟩
  rw [hnx] at N₁
  rw [← hsz]
  rw [← map_one1 h1 h2] at F₁
  refine wpAny_mono (turn k t h tk hI F₁ N₁) (fun b s₂ p => ?_) fun _ _ x => x
  cases b with
  | false =>
    simp only [Bool.false_eq_true, if_false] at p ⊢
    obtain ⟨t', h', tk', m', news', rfl, F', N', hn, e1, e2, hx⟩ := p
    rw [← map_one1 e1 e2] at F'
    exact done k t' h' tk' hI hx F' fun p hp => N' p (hn p hp)
  | true =>
    simp only [if_true] at p ⊢
    refine wpAny_mono p (fun f s₃ q => ?_) fun _ _ x => x
    cases f with
    | ret v => exact q.elim
    | brk => exact q.elim
    | next =>
      obtain ⟨k', t', h', tk', m', news', rfl, F', N', hn, e1, e2, hI', hm⟩ := q
      exact ⟨h', tk', m', news, μ k', rfl, F', fun p hp => N' p (hn p hp), hm, k', t', rfl, rfl, e1, e2, hI'⟩
    | cont =>
      obtain ⟨k', t', h', tk', m', news', rfl, F', N', hn, e1, e2, hI', hm⟩ := q
      exact ⟨h', tk', m', news, μ k', rfl, F', fun p hp => N' p (hn p hp), hm, k', t', rfl, rfl, e1, e2, hI'⟩
end

noncomputable def AsgR (h₀ : Heap) (L : Addr) (s : Shared) (news : List (Addr × Obj)) (m : Str → Option Value) (y : Str) (x : Str) (s' : Shared) : Prop :=
  ∃ (t : Tok) (h' : Heap) (tk : Nat), s' = { s with heap := h', toks := tk } ∧ Fr h₀ L h' (fun z => if z = y then some (.str x t) else m z) ∧ News h₀ L h' news
theorem cut_asg {M : Model} {A : Around} {E : Value → Shared → Prop} {Q : Flow → Shared → Prop} {s : Shared} {env : Env} {h₀ : Heap} {L : Addr} {m : Str → Option Value} {news : List (Addr × Obj)} {st : Stmt} {rest : List Stmt} (y x : Str) (F : Fr h₀ L s.heap m) (N : News h₀ L s.heap news)
    (h1 : wpAny M A (exec st env) (fun f s' => f = .next ∧ AsgR h₀ L s news m y x s') E s)
    (h2 : ∀ t h' tk, Fr h₀ L h' (fun z => if z = y then some (.str x t) else m z) → News h₀ L h' news → wpAny M A (execs rest env) Q E { s with heap := h', toks := tk }) : wpAny M A (execs (st :: rest) env) Q E s := by
  refine wpAny_execs_cons (wpAny_mono h1 (fun f s' p => ?_) fun _ _ x => x)
  obtain ⟨rfl, t, h', tk, rfl, F', N'⟩ := p
  exact h2 t h' tk F' N'
theorem asg_end {h₀ : Heap} {L : Addr} {s : Shared} {news : List (Addr × Obj)} {m : Str → Option Value} {y x : Str} {t : Tok} {h' : Heap} {tk : Nat} (F : Fr h₀ L h' (fun z => if z = y then some (.str x t) else m z)) (N : News h₀ L h' news) :
    AsgR h₀ L s news m y x { s with heap := h', toks := tk } := ⟨t, h', tk, rfl, F, N⟩
noncomputable def fromS (x : Str) (i : Int) : Str := ⟨(x.cps.toList.drop i.toNat).toArray⟩
noncomputable def toS (x : Str) (j : Int) : Str := ⟨(x.cps.toList.take (j + x.length).toNat).toArray⟩
theorem len_list (x : Str) : x.cps.toList.length = x.length := Array.length_toList
theorem len_fromS {x : Str} {i : Int} (h0 : 0 ≤ i) (h1 : i ≤ (x.length : Int)) : ((fromS x i).length : Int) = (x.length : Int) - i := by
  unfold fromS
  show (((x.cps.toList.drop i.toNat).toArray.size : Nat) : Int) = _
  rw [List.size_toArray, List.length_drop, len_list]
  omega
theorem len_toS {x : Str} {j : Int} (h0 : j ≤ 0) (h1 : -j ≤ (x.length : Int)) : ((toS x j).length : Int) = (x.length : Int) + j := by
  unfold toS
  show (((x.cps.toList.take (j + x.length).toNat).toArray.size : Nat) : Int) = _
  rw [List.size_toArray, List.length_take, len_list]
  omega
theorem slice_fromS {x : Str} {i : Int} (h0 : 0 ≤ i) (h1 : i ≤ (x.length : Int)) : Txt.slice x (some i) none = fromS x i := by
  rw [eq_of_beq (slice_closes_fromL h0 h1 rfl)]
  unfold fromS
  rw [List.take_of_length_le]
  rw [List.length_drop, len_list]
  omega
theorem slice_toS {x : Str} {j : Int} (h0 : j < 0) (h1 : -j ≤ (x.length : Int)) : Txt.slice x none (some j) = toS x j := by
  rw [eq_of_beq (slice_closes_to_neg h0 (by omega) rfl)]
  unfold toS
  simp
theorem slice_toS0 {x : Str} {j : Int} (h0 : j = 0) : Txt.slice x none none = toS x j := by
  subst h0
  have e : (Builtin.Str.strSliceIndices none none 1 x.length).length = x.length := by
    unfold Builtin.Str.strSliceIndices sliceRange
    simp only [show (1 : Int) > 0 by decide, if_true, List.length_map, List.length_range]
    split <;> omega
  unfold Txt.slice toS
  rw [if_pos (by rw [e]; simp)]
  obtain ⟨⟨l⟩⟩ := x
  show (⟨⟨l⟩⟩ : Str) = ⟨⟨l.take (0 + ((l.length : Nat) : Int)).toNat⟩⟩
  rw [show (0 + ((l.length : Nat) : Int)).toNat = l.length by omega, List.take_length]

noncomputable def preF (a b : Str) : Nat → Int → Int
  | 0, i => i
  | f + 1, i => if ((fromS a i).length : Int) ≠ 0 ∧ ((fromS b i).length : Int) ≠ 0 ∧ (Txt.item a i == Txt.item b i) = true then preF a b f (i + 1) else i
noncomputable def preN (a b : Str) : Int := preF a b (a.length + 1) 0
noncomputable def PreI (a b : Str) (i : Int) : Prop := preF a b (a.length + 1 - i).toNat i = preN a b
theorem pre_start (a b : Str) : PreI a b 0 := by
  unfold PreI preN
  rw [show ((a.length : Int) + 1 - 0).toNat = a.length + 1 by omega]
theorem pre_turn {a b : Str} {i : Int} (h0 : 0 ≤ i) (h1 : i ≤ (a.length : Int)) (H : PreI a b i) (c1 : ((fromS a i).length : Int) ≠ 0) (c2 : ((fromS b i).length : Int) ≠ 0) (c3 : (Txt.item a i == Txt.item b i) = true) : PreI a b (i + 1) := by
  unfold PreI at *
  rw [show ((a.length : Int) + 1 - i).toNat = ((a.length : Int) + 1 - (i + 1)).toNat + 1 by omega] at H
  unfold preF at H
  rw [if_pos ⟨c1, c2, c3⟩] at H
  exact H
theorem pre_done {a b : Str} {i : Int} (h0 : 0 ≤ i) (h1 : i ≤ (a.length : Int)) (H : PreI a b i) (c : ¬ (((fromS a i).length : Int) ≠ 0 ∧ ((fromS b i).length : Int) ≠ 0 ∧ (Txt.item a i == Txt.item b i) = true)) : i = preN a b := by
  unfold PreI at *
  rw [show ((a.length : Int) + 1 - i).toNat = ((a.length : Int) + 1 - (i + 1)).toNat + 1 by omega] at H
  unfold preF at H
  rw [if_neg c] at H
  exact H
noncomputable def postF (a b : Str) : Nat → Int → Int
  | 0, i => i
  | f + 1, i => if ((toS a i).length : Int) ≠ 0 ∧ ((toS b i).length : Int) ≠ 0 ∧ (Txt.item a (i - 1) == Txt.item b (i - 1)) = true then postF a b f (i - 1) else i
noncomputable def postN (a b : Str) : Int := postF a b (a.length + 1) 0
noncomputable def PostI (a b : Str) (i : Int) : Prop := postF a b (a.length + 1 + i).toNat i = postN a b
theorem post_start (a b : Str) : PostI a b 0 := by
  unfold PostI postN
  rw [show ((a.length : Int) + 1 + 0).toNat = a.length + 1 by omega]
theorem post_turn {a b : Str} {i : Int} (h0 : i ≤ 0) (h1 : -i ≤ (a.length : Int)) (H : PostI a b i) (c1 : ((toS a i).length : Int) ≠ 0) (c2 : ((toS b i).length : Int) ≠ 0) (c3 : (Txt.item a (i - 1) == Txt.item b (i - 1)) = true) : PostI a b (i - 1) := by
  unfold PostI at *
  rw [show ((a.length : Int) + 1 + i).toNat = ((a.length : Int) + 1 + (i - 1)).toNat + 1 by omega] at H
  unfold postF at H
  rw [if_pos ⟨c1, c2, c3⟩] at H
  exact H
theorem post_done {a b : Str} {i : Int} (h0 : i ≤ 0) (h1 : -i ≤ (a.length : Int)) (H : PostI a b i) (c : ¬ (((toS a i).length : Int) ≠ 0 ∧ ((toS b i).length : Int) ≠ 0 ∧ (Txt.item a (i - 1) == Txt.item b (i - 1)) = true)) : i = postN a b := by
  unfold PostI at *
  rw [show ((a.length : Int) + 1 + i).toNat = ((a.length : Int) + 1 + (i - 1)).toNat + 1 by omega] at H
  unfold postF at H
  rw [if_neg c] at H
  exact H

/-- the least at a place: the row's table -/
structure LSt where
  row : List Int
  dist : Int
  res : Int
  mini : Int
noncomputable def inStep (bc : Str) (a : Str) (S : LSt) (k : Int) : LSt :=
  let sub := S.dist + scF bc (Txt.item a k)
  let d := S.row.getD k.toNat 0
  let ins := (if d < S.res then d else S.res) + 2
  let r := if sub < ins then sub else ins
  ⟨S.row.set k.toNat r, d, r, if r < S.mini then r else S.mini⟩
theorem mini_pos {bc a : Str} {S : LSt} {k : Int} (h : (inStep bc a S k).res < S.mini) : (inStep bc a S k).mini = (inStep bc a S k).res := if_pos h
theorem mini_neg {bc a : Str} {S : LSt} {k : Int} (h : ¬ (inStep bc a S k).res < S.mini) : (inStep bc a S k).mini = S.mini := if_neg h
noncomputable def inRun (bc a : Str) (ks : List Int) (S : LSt) : LSt := ks.foldl (inStep bc a) S
noncomputable def outRun (a b : Str) (c : Int) : List Int → List Int → Int → Int
  | [], _, res => res
  | i :: r, row, _ =>
    let S := inRun (Txt.item b i) a (rangeKs 0 a.length) ⟨row, i * 2, i * 2, 9223372036854775807⟩
    if S.mini > c then c + 1 else outRun a b c r S.row S.res
noncomputable def row0 (n : Nat) : List Int := (List.range n).map fun (i : Nat) => 2 + 2 * (i : Int)
noncomputable def dpF (a b : Str) (c : Int) : Int := outRun a b c (rangeKs 0 b.length) (row0 a.length) 0
noncomputable def levF (a b : Str) (c : Int) : Int :=
  if (a == b) = true then 0 else
  let p := preN a b
  let q := postN (fromS a p) (fromS b p)
  let a2 := toS (fromS a p) q
  let b2 := toS (fromS b p) q
  if (a2.length : Int) = 0 ∨ (b2.length : Int) = 0 then 2 * ((a2.length : Int) + b2.length) else dpF a2 b2 c
theorem levF_short {a b : Str} {c p q : Int} (hab : (a == b) = false) (hp : p = preN a b) (hq : q = postN (fromS a p) (fromS b p)) (h : ((toS (fromS a p) q).length : Int) = 0 ∨ ((toS (fromS b p) q).length : Int) = 0) :
    levF a b c = 2 * (((toS (fromS a p) q).length : Int) + (toS (fromS b p) q).length) := by
  subst hq hp
  unfold levF
  rw [if_neg (by rw [hab]; decide)]
  exact if_pos h
theorem levF_long {a b : Str} {c p q : Int} (hab : (a == b) = false) (hp : p = preN a b) (hq : q = postN (fromS a p) (fromS b p)) (h1 : ((toS (fromS a p) q).length : Int) ≠ 0) (h2 : ((toS (fromS b p) q).length : Int) ≠ 0) :
    levF a b c = dpF (toS (fromS a p) q) (toS (fromS b p) q) c := by
  subst hq hp
  unfold levF
  rw [if_neg (by rw [hab]; decide)]
  exact if_neg fun h => h.elim h1 h2
end

/- Lev2 -/
section
open PySem PySem.W PyProof.Rows PySem.Spec
section
variable {prog : Program} {w : World} {A : Around} {E : Value → Shared → Prop} {Q : Flow → Shared → Prop} {s : Shared} {env : Env} {h₀ : Heap} {L : Addr}

/-- a for over range(n), by an invariant over the turn's number, the frame and the ledger -/
theorem for_range {x : Str} {body : List Stmt} {r : Addr} {b₀ : Int} {t₀ u₀ v₀ : Tok} {n : Nat} {m₀ : Str → Option Value} {news : List (Addr × Obj)} (J : Nat → (Str → Option Value) → List (Addr × Obj) → Prop)
    (hh : A.handled = none) (hr : IsRange s.heap r 0 b₀ 1 t₀ u₀ v₀) (hb : b₀ = (n : Int)) (hn : n < 2 ^ 20) (F : Fr h₀ env.locals s.heap m₀) (N : News h₀ env.locals s.heap news) (hj : J 0 m₀ news)
    (turn : ∀ i t m₁ nx h tk own, i < n → nx.map (·.1) = news.map (·.1) → OwnOff own (news.map (·.1)) → J i m₁ nx → Fr h₀ env.locals h (fun y => if y = x then some (.int (i : Int) t) else m₁ y) → News h₀ env.locals h (nx ++ own) →
      wpAny (model prog w) A (execs body env) (InvPostN h₀ env.locals (J (i + 1)) own (news.map (·.1)) { s with heap := h, toks := tk } Q) E { s with heap := h, toks := tk })
    (done : ∀ m₁ nx h tk, J n m₁ nx → nx.map (·.1) = news.map (·.1) → Fr h₀ env.locals h m₁ → News h₀ env.locals h nx → Q .next { s with heap := h, toks := tk }) :
    wpAny (model prog w) A (pyIter (.ref r)) (fun it s₂ => LoopAtV prog w A h₀ env x body Q E it s₂) E s := by
  subst hb
  refine wpAny_pyIter_range hr (small_one (by decide) (by decide) (by omega) (by omega)) ?_
  have hs : Builtin.Range.rangeSize 0 (n : Int) 1 = (n : Int) := by rw [rangeSize_nat]; omega
  have W : Walks prog w A s.heap.objs.size [s.heap.objs.size] [s.heap.objs.size] n (fun i v => i < n ∧ ∃ t, v = .int (0 + i * 1) t)
      (fun i h => IsRangeIter h s.heap.objs.size (0 + (i : Nat) * 1) ((n : Int) - (i : Nat)) 1) := (Walks.range hh _ 0 1 n).bound
  have notL : env.locals ∉ [s.heap.objs.size] := fun hm => absurd F.ns.lt ((List.mem_singleton.mp hm) ▸ Nat.lt_irrefl _)
  have notN : ∀ p ∈ news, p.1 ∉ [s.heap.objs.size] := fun p hp hI => absurd (Heap.lt_size (N p hp).1) ((List.mem_singleton.mp hI) ▸ Nat.lt_irrefl _)
  refine loop_invN (fun i m nx => J i m nx ∧ nx.map (·.1) = news.map (·.1)) W notL (fun b hb => ?_) notN notN (by show IsRangeIter _ _ _ _ _; rw [hs]; simpa using Heap.get?_push_size _ rfl) (F.push _) (fun p hp => ⟨Heap.get?_push_of_some _ (N p hp).1, (N p hp).2⟩) ⟨hj, rfl⟩ ?_ ?_
  · rw [List.mem_singleton.mp hb]
    exact next_is_new F
  · rintro i v m₁ nx h tk own hin ⟨_, t, rfl⟩ ha ho ⟨hJ, _⟩ F₁ N₁
    rw [show (0 : Int) + (i : Int) * 1 = (i : Int) by omega] at F₁
    refine wpAny_mono (turn i t m₁ nx h tk own hin ha ho hJ F₁ N₁) (fun f s₂ p => ?_) fun _ _ e => e
    have fin : InvEndN h₀ env.locals (J (i + 1)) own (news.map (·.1)) { s with heap := h, toks := tk } s₂ → InvEndN h₀ env.locals (fun m nx => J (i + 1) m nx ∧ nx.map (·.1) = news.map (·.1)) own (news.map (·.1)) { s with heap := h, toks := tk } s₂ := by
      rintro ⟨h', tk', m', news', nx', e, F', N', hn', ho', ha', hj'⟩
      exact ⟨h', tk', m', news', nx', e, F', N', hn', ho', ha', hj', ha'⟩
    cases f with
    | ret v => exact p
    | brk => exact p
    | next => exact fin p
    | cont => exact fin p
  · rintro m₁ nx h tk ⟨hJ, ha⟩ F' N'
    exact done m₁ nx h tk hJ ha F' N'

theorem inv_end {J : (Str → Option Value) → List (Addr × Obj) → Prop} {m' : Str → Option Value} {own news' : List (Addr × Obj)} {adr : List Addr} {h' : Heap} {tk : Nat} (nx : List (Addr × Obj)) (F : Fr h₀ L h' m') (N : News h₀ L h' news') (hn : ∀ p ∈ nx, p ∈ news') (ho : ∀ p ∈ own, p ∈ news') (ha : nx.map (·.1) = adr) (hj : J m' nx) :
    InvEndN h₀ L J own adr s { s with heap := h', toks := tk } := ⟨h', tk, m', news', nx, rfl, F, N, hn, ho, ha, hj⟩
theorem mem_l {x p : Addr × Obj} {r o : List (Addr × Obj)} (h : p ∈ x :: r) : p ∈ x :: (r ++ o) := by
  rcases List.mem_cons.mp h with rfl | h
  · exact List.mem_cons_self ..
  · exact List.mem_cons_of_mem _ (List.mem_append_left _ h)
theorem mem_r {x p : Addr × Obj} {r o : List (Addr × Obj)} (h : p ∈ o) : p ∈ x :: (r ++ o) := List.mem_cons_of_mem _ (List.mem_append_right _ h)

theorem fr_put {h : Heap} {m : Str → Option Value} (y : Str) {v : Value} (F : Fr h₀ L h m) (e : m y = some v) : Fr h₀ L h (fun z => if z = y then some v else m z) := by
  have : (fun z => if z = y then some v else m z) = m := by
    funext z
    by_cases h : z = y
    · subst h; simp [e]
    · simp [h]
  rw [this]; exact F
end

theorem ints_of_get : ∀ {vs : List Value} {ns : List Int}, vs.length = ns.length → (∀ (j : Nat) v, vs[j]? = some v → ∃ t, v = .int (ns.getD j 0) t) → IntsAre vs ns
  | [], [], _, _ => .nil
  | [], _ :: _, h, _ => by simp at h
  | _ :: _, [], h, _ => by simp at h
  | v :: vs, n :: ns, h, g => by
    obtain ⟨t, e⟩ := g 0 v rfl
    have e' : v = .int n t := e
    subst e'
    exact .cons n t (ints_of_get (by simpa using h) fun j v hv => g (j + 1) v hv)
theorem row0_length (n : Nat) : (row0 n).length = n := by simp [row0]
section
variable {prog : Program} {w : World} {A : Around} {E : Value → Shared → Prop} {Q : Value → Shared → Prop} {s : Shared} {h₀ : Heap} {L : Addr} {m : Str → Option Value} {news : List (Addr × Obj)}
theorem list_row {r : Addr} {n : Nat} {t u v : Tok} (hh : A.handled = none) (F : Fr h₀ L s.heap m) (N : News h₀ L s.heap news) (hr : IsRange s.heap r 2 (2 * ((n : Int) + 1)) 2 t u v) (h0 : (n : Int) ≠ 0) (hn : (n : Int) ≤ 4)
    (h : ∀ D us c' h' tk, Fr h₀ L h' m → News h₀ L h' ((D, listOf us.toArray c') :: news) → (∀ p ∈ news, p.1 ≠ D) → IntsAre us (row0 n) → Q (.ref D) { s with heap := h', toks := tk }) :
    wpAny (model prog w) A (call (.type "list") [.ref r]) Q E s := by
  have hs : Builtin.Range.small 2 (2 * ((n : Int) + 1)) 2 = true := by
    have : n = 1 ∨ n = 2 ∨ n = 3 ∨ n = 4 := by omega
    rcases this with rfl | rfl | rfl | rfl <;> decide
  have hz : Builtin.Range.rangeSize 2 (2 * ((n : Int) + 1)) 2 = (n : Int) := by
    have : n = 1 ∨ n = 2 ∨ n = 3 ∨ n = 4 := by omega
    rcases this with rfl | rfl | rfl | rfl <;> decide
  refine call_list_range hh hr hs hz (by omega) fun h' tk acc' c' hk hS' hacc => ?_
  obtain ⟨us⟩ := acc'
  have hlen : us.length = n := hacc.1
  refine h _ us c' h' tk (F.keeps hk) ?_ (fun p hp e => absurd (Heap.lt_size (N p hp).1) (by rw [e]; exact Nat.lt_irrefl _)) (ints_of_get (by rw [hlen, row0_length]) fun j v hv => ?_)
  · intro p hp
    rcases List.mem_cons.mp hp with rfl | hp
    · refine ⟨hS', Nat.ne_of_gt F.ns.lt, ?_⟩
      cases e : h₀.get? s.heap.objs.size with
      | none => rfl
      | some o => exact absurd (Heap.lt_size (F.keep _ _ e)) (Nat.lt_irrefl _)
    · exact ⟨hk _ _ (N p hp).1, (N p hp).2⟩
  · obtain ⟨tk', rfl⟩ := hacc.2 j v (by simpa using hv)
    have hj : j < n := by
      have := (List.getElem?_eq_some_iff.mp hv).1
      omega
    refine ⟨tk', ?_⟩
    have e : (row0 n).getD j 0 = 2 + 2 * (j : Int) := by
      unfold row0
      rw [List.getD_eq_getElem?_getD, List.getElem?_map, List.getElem?_range hj]
      rfl
    rw [e, show (2 : Int) + (j : Int) * 2 = 2 + 2 * (j : Int) by omega]
end
theorem rangeKs_drop {n i : Nat} (h : i < n) : (rangeKs 0 n).drop i = (i : Int) :: (rangeKs 0 n).drop (i + 1) := by
  have hl : i < (rangeKs 0 n).length := by rw [rangeKs_length]; exact h
  rw [List.drop_eq_getElem_cons hl]
  congr 1
  simp [rangeKs]
theorem rangeKs_take {n i : Nat} (h : i < n) : (rangeKs 0 n).take (i + 1) = (rangeKs 0 n).take i ++ [(i : Int)] := by
  have hl : i < (rangeKs 0 n).length := by rw [rangeKs_length]; exact h
  rw [List.take_succ_eq_append_getElem hl]
  congr 1
  simp [rangeKs]
theorem inRun_turn {bc a : Str} {n i : Nat} {S0 : LSt} (h : i < n) : inRun bc a ((rangeKs 0 n).take (i + 1)) S0 = inStep bc a (inRun bc a ((rangeKs 0 n).take i) S0) (i : Int) := by
  unfold inRun
  rw [rangeKs_take h, List.foldl_append]
  rfl
theorem inStep_len (bc a : Str) (S : LSt) (k : Int) : (inStep bc a S k).row.length = S.row.length := by
  unfold inStep
  simp
theorem inRun_len (bc a : Str) : ∀ (ks : List Int) (S : LSt), (inRun bc a ks S).row.length = S.row.length
  | [], _ => rfl
  | k :: r, S => by
    show (inRun bc a r (inStep bc a S k)).row.length = _
    rw [inRun_len bc a r, inStep_len]
theorem fr_under {h₀ h : Heap} {L : Addr} {x : Str} {v : Value} {m₁ : Str → Option Value} (ps : List (Str × Value)) (F : Fr h₀ L h (fun y => if y = x then some v else m₁ y)) (e : ∀ p ∈ ps, m₁ p.1 = some p.2) : Fr h₀ L h (fun y => if y = x then some v else kstB m₁ ps y) := by
  have : kstB m₁ ps = m₁ := funext fun y => kstB_eq e fun _ => rfl
  rw [this]; exact F
theorem fr_known {h₀ h : Heap} {L : Addr} {m₁ : Str → Option Value} (ps : List (Str × Value)) (F : Fr h₀ L h m₁) (e : ∀ p ∈ ps, m₁ p.1 = some p.2) : Fr h₀ L h (kstB m₁ ps) := by
  have : kstB m₁ ps = m₁ := funext fun y => kstB_eq e fun _ => rfl
  rw [this]; exact F
theorem fm1 {P : Str × Value → Prop} {a : Str × Value} {r : List (Str × Value)} (h : P a) (g : ∀ p ∈ r, P p) : ∀ p ∈ a :: r, P p := List.forall_mem_cons.mpr ⟨h, g⟩
theorem fm0 {P : Str × Value → Prop} : ∀ p ∈ ([] : List (Str × Value)), P p := fun _ h => nomatch h
theorem off_app {news own : List (Addr × Obj)} {D : Addr} (h1 : ∀ p ∈ news, p.1 ≠ D) (h2 : ∀ p ∈ own, p.1 ≠ D) : ∀ p ∈ news ++ own, p.1 ≠ D := fun p hp => (List.mem_append.mp hp).elim (h1 p) (h2 p)
theorem inRun_all {bc a : Str} {n : Nat} {S0 : LSt} : inRun bc a ((rangeKs 0 n).take n) S0 = inRun bc a (rangeKs 0 n) S0 := by
  rw [List.take_of_length_le (by rw [rangeKs_length]; exact Nat.le_refl _)]
theorem out_ret {a b : Str} {c : Int} {i : Nat} {row : List Int} {res : Int} {S : LSt} (hin : i < a.length) (hrun : outRun a b c ((rangeKs 0 a.length).drop i) row res = dpF a b c)
    (hS : S = inRun (Txt.item b i) a ((rangeKs 0 a.length).take a.length) ⟨row, (i : Int) * 2, (i : Int) * 2, 9223372036854775807⟩) (hm : S.mini > c) : dpF a b c = c + 1 := by
  rw [rangeKs_drop hin] at hrun
  rw [inRun_all] at hS
  subst hS
  rw [← hrun]
  exact if_pos hm
theorem out_next {a b : Str} {c : Int} {i : Nat} {row : List Int} {res : Int} {S : LSt} (hin : i < a.length) (hrun : outRun a b c ((rangeKs 0 a.length).drop i) row res = dpF a b c)
    (hS : S = inRun (Txt.item b i) a ((rangeKs 0 a.length).take a.length) ⟨row, (i : Int) * 2, (i : Int) * 2, 9223372036854775807⟩) (hm : ¬ S.mini > c) : outRun a b c ((rangeKs 0 a.length).drop (i + 1)) S.row S.res = dpF a b c := by
  rw [rangeKs_drop hin] at hrun
  rw [inRun_all] at hS
  subst hS
  rw [← hrun]
  exact (if_neg hm).symm
theorem out_end {a b : Str} {c : Int} {row : List Int} {res : Int} (hrun : outRun a b c ((rangeKs 0 a.length).drop a.length) row res = dpF a b c) : dpF a b c = res := by
  rw [List.drop_eq_nil_of_le (by rw [rangeKs_length]; exact Nat.le_refl _)] at hrun
  exact hrun.symm
theorem news_drop {h₀ h : Heap} {L : Addr} {x : Addr × Obj} {news own : List (Addr × Obj)} (N : News h₀ L h (x :: (news ++ own))) : News h₀ L h news := fun p hp => N p (List.mem_cons_of_mem _ (List.mem_append_left _ hp))
theorem news_drop1 {h₀ h : Heap} {L : Addr} {x : Addr × Obj} {news : List (Addr × Obj)} (N : News h₀ L h (x :: news)) : News h₀ L h news := fun p hp => N p (List.mem_cons_of_mem _ hp)
end

/- C6 -/
section
open PySem PySem.W PyProof.Rows PySem.Spec
set_option maxRecDepth 100000
set_option maxHeartbeats 4000000

section
variable {prog : Program} {w : World} {A : Around} {E : Value → Shared → Prop} {s : Shared} {value slice : PySem.Expr} {x : Str} {t : Tok} {h₀ : Heap} {L : Addr} {m : Str → Option Value} {news : List (Addr × Obj)} {Q : Value → Shared → Prop}
theorem my_sn {i : Int} {ui : Tok} (h0 : 0 ≤ i) (h1 : i ≤ (x.length : Int)) (hF : Fr h₀ L s.heap m) (hN : News h₀ L s.heap news) (h : ∀ h' t' k, Fr h₀ L h' m → News h₀ L h' news → ((fromS x i).length : Int) = (x.length : Int) - i → Q (.str (fromS x i) t') { s with heap := h', toks := k })
    (hs : subscripted slice false (.str x t) (.ref s.heap.objs.size) = operate [.ref s.heap.objs.size, .str x t] (getItem (.str x t) (.ref s.heap.objs.size)) := by with_unfolding_all rfl)
    (ht : ∀ r, letTemporaryGo value (.str x t) r = pure () := by intro _; with_unfolding_all rfl) (hsz : x.length ≤ sizeLine := by size_fits) :
    wpAny (model prog w) A (subscriptTail value slice (.str x t) (.ref s.heap.objs.size)) Q E { s with heap := s.heap.push { cls := .type "slice", data := .fields #[.int i ui, .none, .none] } } :=
  slice_strN_sn hF hN (fun h' t' k hF hN => by rw [slice_fromS h0 h1]; exact h h' t' k hF hN (len_fromS h0 h1)) hs ht hsz
theorem my_ns {j : Int} {uj : Tok} (h0 : j < 0) (h1 : -j ≤ (x.length : Int)) (hF : Fr h₀ L s.heap m) (hN : News h₀ L s.heap news) (h : ∀ h' t' k, Fr h₀ L h' m → News h₀ L h' news → ((toS x j).length : Int) = (x.length : Int) + j → Q (.str (toS x j) t') { s with heap := h', toks := k })
    (hs : subscripted slice false (.str x t) (.ref s.heap.objs.size) = operate [.ref s.heap.objs.size, .str x t] (getItem (.str x t) (.ref s.heap.objs.size)) := by with_unfolding_all rfl)
    (ht : ∀ r, letTemporaryGo value (.str x t) r = pure () := by intro _; with_unfolding_all rfl) (hsz : x.length ≤ sizeLine := by size_fits) :
    wpAny (model prog w) A (subscriptTail value slice (.str x t) (.ref s.heap.objs.size)) Q E { s with heap := s.heap.push { cls := .type "slice", data := .fields #[.none, .int j uj, .none] } } :=
  slice_strN_ns hF hN (fun h' t' k hF hN => by rw [slice_toS h0 h1]; exact h h' t' k hF hN (len_toS (by omega) h1)) hs ht hsz
theorem my_nn {j : Int} (e : j = 0) (hF : Fr h₀ L s.heap m) (hN : News h₀ L s.heap news) (h : ∀ h' t' k, Fr h₀ L h' m → News h₀ L h' news → ((toS x j).length : Int) = (x.length : Int) + j → Q (.str (toS x j) t') { s with heap := h', toks := k })
    (hs : subscripted slice false (.str x t) (.ref s.heap.objs.size) = operate [.ref s.heap.objs.size, .str x t] (getItem (.str x t) (.ref s.heap.objs.size)) := by with_unfolding_all rfl)
    (ht : ∀ r, letTemporaryGo value (.str x t) r = pure () := by intro _; with_unfolding_all rfl) (hsz : x.length ≤ sizeLine := by size_fits) :
    wpAny (model prog w) A (subscriptTail value slice (.str x t) (.ref s.heap.objs.size)) Q E { s with heap := s.heap.push { cls := .type "slice", data := .fields #[.none, .none, .none] } } :=
  slice_strN_nn hF hN (fun h' t' k hF hN => by rw [slice_toS0 e]; exact h h' t' k hF hN (len_toS (by omega) (by omega))) hs ht hsz
end
theorem item_le (x : Str) (i : Int) : (Txt.item x i).length ≤ 1 := Nat.le_of_eq (len_item x i)

noncomputable def OutJ (a2 b2 : Str) (c : Int) (n : Nat) (D : Addr) (news : List (Addr × Obj)) (i : Nat) (m : Str → Option Value) (nx : List (Addr × Obj)) : Prop :=
  ∃ us c' row res tr ta tb tc, nx = (D, listOf us.toArray c') :: news ∧ IntsAre us row ∧ row.length = n ∧ m (Str.ofString "row") = some (.ref D) ∧ m (Str.ofString "result") = some (.int res tr) ∧ m (Str.ofString "a") = some (.str a2 ta) ∧ m (Str.ofString "b") = some (.str b2 tb) ∧ m (Str.ofString "max_cost") = some (.int c tc) ∧
    outRun a2 b2 c ((rangeKs 0 n).drop i) row res = dpF a2 b2 c
noncomputable def InJ (a2 b2 bc : Str) (c : Int) (n : Nat) (D : Addr) (rest : List (Addr × Obj)) (S0 : LSt) (k : Nat) (m : Str → Option Value) (nx : List (Addr × Obj)) : Prop :=
  ∃ us c' S t1 t2 t3 ta tb tc td, nx = (D, listOf us.toArray c') :: rest ∧ S = inRun bc a2 ((rangeKs 0 n).take k) S0 ∧ IntsAre us S.row ∧ S.row.length = n ∧ m (Str.ofString "row") = some (.ref D) ∧ m (Str.ofString "distance") = some (.int S.dist t1) ∧ m (Str.ofString "result") = some (.int S.res t2) ∧ m (Str.ofString "minimum") = some (.int S.mini t3) ∧
    m (Str.ofString "a") = some (.str a2 ta) ∧ m (Str.ofString "b") = some (.str b2 tb) ∧ m (Str.ofString "bchar") = some (.str bc td) ∧ m (Str.ofString "max_cost") = some (.int c tc)

theorem c_lev {w : World} {mean : ExcName → Option Value} {mg mb : Str → Option Value} {news : List (Addr × Obj)} {a b : Str} {c : Int} {t u v : Tok} (ha : a.length = b.length) (hb : b.length ≤ 4) (hc : 0 ≤ c) (hc4 : c ≤ 4) :
    Cl w mean mg mb 28 2 16 news [.str a t, .str b u, .int c v] (fun v news' => news' = news ∧ ∃ t', v = .int (levF a b c) t') := by
  w_top off
  unfold Cl
  k_fill
  intro dp un gd cn cs a' ccd cl outer A₀ base h₀ L m s Q E B F X N T hk hdp hu hret
  obtain ⟨loo, T⟩ := T
  have kMark : KstMark := kstMark
  refine wpAny_call ?_
  k_dflt ((refine' code_def ?k1 ?k2 ?k3 ?k4 ?k5 ?kA ?kF ?kK ?k6 ?k7 ?k8 ?k9 ?kB ?_ ?c2 ?c3 ?c4 ?c5; (case kA => exact rfl); (case kF => exact rfl); (case kK => assumption); (case k1 => k_asm); (case k2 => k_asm); (case k3 => k_asm); (case k4 => k_asm); (case k5 => k_asm); (case k6 => k_is); (case k7 => k_is); (case k8 => ktr_room); (case k9 => (first | exact BindsTo.of_eq rfl | (refine' kp_binds ?kx ?ke; (case kx => k_in); (case ke => exact fun _ => rfl)))); (case c5 => decide); (case kB => exact locs rfl); (case c2 => exact rfl); (case c3 => exact rfl); (case c4 => exact rfl); k_whole; intro g' L' h' FG' F' N' B' X' T'; (try dsimp only); (try k_lift B'); (try k_fold)))
  repeat' ((fail_if_success (with_reducible show wpAny _ _ (PySem.exec (PySem.Stmt.For _ _ _ _ _) _) _ _ _)); (fail_if_success (with_reducible show wpAny _ _ (PySem.exec (PySem.Stmt.While _ _ _ _) _) _ _ _)); (fail_if_success (with_reducible show wpAny _ _ (PySem.pyIter _) _ _ _)); first | ((with_reducible show wpAny _ _ (PySem.setItem (Value.ref _) (Value.int _ _) _) _ _ _); (k_here; (with_reducible show wpAny _ _ (PySem.setItem (Value.ref _) (Value.int _ _) (Value.int _ _)) _ _ _); k_dflt (refine' ksa_set ?k1 ?k2 (Upd.head ?k3) ?k4 ?k5 ?k6 ?k7 ?_; (case k1 => k_asm); (case k2 => k_asm); (case k3 => assumption); (case k4 => assumption); (case k5 => omega); (case k6 => omega); (case k7 => omega); k_whole); intro h' F' N' hi' hl' hs')) | (k_here; (with_reducible show wpAny _ _ (PySem.call (Value.ref 21) [_, _]) _ _ _); k_dflt (refine' cl_use (c_sc ?ha ?hb) ?k1 ?k2 ?k3 ?k4 ?k5 ?kK ?kd ?ku ?_; (case k1 => k_asm); (case k2 => k_asm); (case k3 => k_asm); (case k4 => k_asm); (case k5 => k_asm); (case kK => first | exact rfl | assumption); (case kd => ktr_room); (case ku => ktr_units); (case ha => exact item_le _ _); (case hb => exact item_le _ _); k_whole); intro v9 nw9 h9 tk9 F9 N9 P9; (obtain ⟨e8, t8, e9⟩ := P9); subst e8; subst e9; (try dsimp only); (try k_fold)) | (k_here; (with_reducible show wpAny _ _ (PySem.call (Value.type "list") [Value.ref _]) _ _ _); (rename IsRange _ _ _ _ _ _ _ _ => rgX); k_dflt (refine' list_row ?hh ?F ?N rgX ?h0 ?hn ?_; (case hh => exact rfl); (case F => k_asm); (case N => k_asm); (case h0 => assumption); (case hn => omega); k_whole); intro D9 us9 c9 h9 tk9 F9 N9 ho9 hi9; (try dsimp only)) | ((with_reducible show wpAny _ _ (subscriptTail _ (Expr.Slice _ _ _ _) _ _) _ _ _); (exfalso; omega)) | ((with_reducible show wpAny _ _ (subscriptTail _ (Expr.Slice _ _ _ _) _ _) _ _ _); ((with_reducible show wpAny _ _ (subscriptTail _ (Expr.Slice (some _) none none _) _ _) _ _ _); (with_reducible rename Fr _ _ _ _ => F'); (with_reducible rename News _ _ _ _ => N'); refine my_sn (s := ⟨_, _, _, _, _⟩) ?h0 ?h1 F' N' ?_; (case h0 => omega); (case h1 => omega); intro _ _ _ _ _ _; (try dsimp only))) | ((with_reducible show wpAny _ _ (subscriptTail _ (Expr.Slice _ _ _ _) _ _) _ _ _); ((with_reducible show wpAny _ _ (subscriptTail _ (Expr.Slice none (some _) none _) _ _) _ _ _); (with_reducible rename Fr _ _ _ _ => F'); (with_reducible rename News _ _ _ _ => N'); refine my_ns (s := ⟨_, _, _, _, _⟩) ?h0 ?h1 F' N' ?_; (case h0 => omega); (case h1 => omega); intro _ _ _ _ _ _; (try dsimp only))) | ((with_reducible show wpAny _ _ (subscriptTail _ (Expr.Slice _ _ _ _) _ _) _ _ _); ((with_reducible show wpAny _ _ (subscriptTail _ (Expr.Slice none (some _) none _) _ _) _ _ _); (with_reducible rename Fr _ _ _ _ => F'); (with_reducible rename News _ _ _ _ => N'); refine my_nn (s := ⟨_, _, _, _, _⟩) (by assumption) F' N' ?_; intro _ _ _ _ _ _; (try dsimp only))) | (k_unfold; (try dsimp only)) | (k_end; wrow_close) | walk1 | (dsimp only; walk1) | (leave1; walk_say "STEP leave1"; try dsimp only))
  · rename (a == b) = true => e
    exact ret_end hret _ (by assumption) (by assumption) ⟨rfl, _, by unfold levF; rw [if_pos e]⟩
  · rename (a == b) = false => hab
    k_here
    refine while1 (y := Str.ofString "pre") (fun i => 0 ≤ i ∧ i ≤ (a.length : Int) ∧ PreI a b i) (fun i => i = preN a b) (fun i => (a.length - i).toNat) (by assumption) (by assumption) (by rfl) ⟨by omega, by omega, pre_start a b⟩ ?_ ?_
    · rintro k t h tk ⟨hi0, hi1, hi2⟩ F1 N1
      repeat' ((fail_if_success (with_reducible show wpAny _ _ (PySem.exec (PySem.Stmt.For _ _ _ _ _) _) _ _ _)); (fail_if_success (with_reducible show wpAny _ _ (PySem.exec (PySem.Stmt.While _ _ _ _) _) _ _ _)); (fail_if_success (with_reducible show wpAny _ _ (PySem.pyIter _) _ _ _)); first | ((with_reducible show wpAny _ _ (PySem.setItem (Value.ref _) (Value.int _ _) _) _ _ _); (k_here; (with_reducible show wpAny _ _ (PySem.setItem (Value.ref _) (Value.int _ _) (Value.int _ _)) _ _ _); k_dflt (refine' ksa_set ?k1 ?k2 (Upd.head ?k3) ?k4 ?k5 ?k6 ?k7 ?_; (case k1 => k_asm); (case k2 => k_asm); (case k3 => assumption); (case k4 => assumption); (case k5 => omega); (case k6 => omega); (case k7 => omega); k_whole); intro h' F' N' hi' hl' hs')) | (k_here; (with_reducible show wpAny _ _ (PySem.call (Value.ref 21) [_, _]) _ _ _); k_dflt (refine' cl_use (c_sc ?ha ?hb) ?k1 ?k2 ?k3 ?k4 ?k5 ?kK ?kd ?ku ?_; (case k1 => k_asm); (case k2 => k_asm); (case k3 => k_asm); (case k4 => k_asm); (case k5 => k_asm); (case kK => first | exact rfl | assumption); (case kd => ktr_room); (case ku => ktr_units); (case ha => exact item_le _ _); (case hb => exact item_le _ _); k_whole); intro v9 nw9 h9 tk9 F9 N9 P9; (obtain ⟨e8, t8, e9⟩ := P9); subst e8; subst e9; (try dsimp only); (try k_fold)) | (k_here; (with_reducible show wpAny _ _ (PySem.call (Value.type "list") [Value.ref _]) _ _ _); (rename IsRange _ _ _ _ _ _ _ _ => rgX); k_dflt (refine' list_row ?hh ?F ?N rgX ?h0 ?hn ?_; (case hh => exact rfl); (case F => k_asm); (case N => k_asm); (case h0 => assumption); (case hn => omega); k_whole); intro D9 us9 c9 h9 tk9 F9 N9 ho9 hi9; (try dsimp only)) | ((with_reducible show wpAny _ _ (subscriptTail _ (Expr.Slice _ _ _ _) _ _) _ _ _); (exfalso; omega)) | ((with_reducible show wpAny _ _ (subscriptTail _ (Expr.Slice _ _ _ _) _ _) _ _ _); ((with_reducible show wpAny _ _ (subscriptTail _ (Expr.Slice (some _) none none _) _ _) _ _ _); (with_reducible rename Fr _ _ _ _ => F'); (with_reducible rename News _ _ _ _ => N'); refine my_sn (s := ⟨_, _, _, _, _⟩) ?h0 ?h1 F' N' ?_; (case h0 => omega); (case h1 => omega); intro _ _ _ _ _ _; (try dsimp only))) | ((with_reducible show wpAny _ _ (subscriptTail _ (Expr.Slice _ _ _ _) _ _) _ _ _); ((with_reducible show wpAny _ _ (subscriptTail _ (Expr.Slice none (some _) none _) _ _) _ _ _); (with_reducible rename Fr _ _ _ _ => F'); (with_reducible rename News _ _ _ _ => N'); refine my_ns (s := ⟨_, _, _, _, _⟩) ?h0 ?h1 F' N' ?_; (case h0 => omega); (case h1 => omega); intro _ _ _ _ _ _; (try dsimp only))) | ((with_reducible show wpAny _ _ (subscriptTail _ (Expr.Slice _ _ _ _) _ _) _ _ _); ((with_reducible show wpAny _ _ (subscriptTail _ (Expr.Slice none (some _) none _) _ _) _ _ _); (with_reducible rename Fr _ _ _ _ => F'); (with_reducible rename News _ _ _ _ => N'); refine my_nn (s := ⟨_, _, _, _, _⟩) (by assumption) F' N' ?_; intro _ _ _ _ _ _; (try dsimp only))) | (k_unfold; (try dsimp only)) | (k_end; wrow_close) | walk1 | (dsimp only; walk1) | (leave1; walk_say "STEP leave1"; try dsimp only))
      · exact w1_end (by assumption) (by assumption) (fun _ h => h) (by rfl) (fun z hz => by simp [hz]) ⟨by omega, by omega, pre_turn hi0 hi1 hi2 (by assumption) (by assumption) (by assumption)⟩ (by omega)
      · refine w1_exit (by assumption) (by assumption) (fun _ h => h) (pre_done hi0 hi1 hi2 ?_)
        rename (Txt.item a k == Txt.item b k) = false => e
        exact fun q => Bool.false_ne_true (e.symm.trans q.2.2)
      · refine w1_exit (by assumption) (by assumption) (fun _ h => h) (pre_done hi0 hi1 hi2 ?_)
        rename ((fromS b k).length : Int) = 0 => e
        exact fun q => q.2.1 e
      · refine w1_exit (by assumption) (by assumption) (fun _ h => h) (pre_done hi0 hi1 hi2 ?_)
        rename ((fromS a k).length : Int) = 0 => e
        exact fun q => q.1 e
    · rintro p t h tk ⟨hi0, hi1, -⟩ hx F1 N1
      dsimp only
      repeat' ((fail_if_success (with_reducible show wpAny _ _ (PySem.exec (PySem.Stmt.For _ _ _ _ _) _) _ _ _)); (fail_if_success (with_reducible show wpAny _ _ (PySem.exec (PySem.Stmt.While _ _ _ _) _) _ _ _)); (fail_if_success (with_reducible show wpAny _ _ (PySem.pyIter _) _ _ _)); first | ((with_reducible show wpAny _ _ (PySem.setItem (Value.ref _) (Value.int _ _) _) _ _ _); (k_here; (with_reducible show wpAny _ _ (PySem.setItem (Value.ref _) (Value.int _ _) (Value.int _ _)) _ _ _); k_dflt (refine' ksa_set ?k1 ?k2 (Upd.head ?k3) ?k4 ?k5 ?k6 ?k7 ?_; (case k1 => k_asm); (case k2 => k_asm); (case k3 => assumption); (case k4 => assumption); (case k5 => omega); (case k6 => omega); (case k7 => omega); k_whole); intro h' F' N' hi' hl' hs')) | (k_here; (with_reducible show wpAny _ _ (PySem.call (Value.ref 21) [_, _]) _ _ _); k_dflt (refine' cl_use (c_sc ?ha ?hb) ?k1 ?k2 ?k3 ?k4 ?k5 ?kK ?kd ?ku ?_; (case k1 => k_asm); (case k2 => k_asm); (case k3 => k_asm); (case k4 => k_asm); (case k5 => k_asm); (case kK => first | exact rfl | assumption); (case kd => ktr_room); (case ku => ktr_units); (case ha => exact item_le _ _); (case hb => exact item_le _ _); k_whole); intro v9 nw9 h9 tk9 F9 N9 P9; (obtain ⟨e8, t8, e9⟩ := P9); subst e8; subst e9; (try dsimp only); (try k_fold)) | (k_here; (with_reducible show wpAny _ _ (PySem.call (Value.type "list") [Value.ref _]) _ _ _); (rename IsRange _ _ _ _ _ _ _ _ => rgX); k_dflt (refine' list_row ?hh ?F ?N rgX ?h0 ?hn ?_; (case hh => exact rfl); (case F => k_asm); (case N => k_asm); (case h0 => assumption); (case hn => omega); k_whole); intro D9 us9 c9 h9 tk9 F9 N9 ho9 hi9; (try dsimp only)) | ((with_reducible show wpAny _ _ (subscriptTail _ (Expr.Slice _ _ _ _) _ _) _ _ _); (exfalso; omega)) | ((with_reducible show wpAny _ _ (subscriptTail _ (Expr.Slice _ _ _ _) _ _) _ _ _); ((with_reducible show wpAny _ _ (subscriptTail _ (Expr.Slice (some _) none none _) _ _) _ _ _); (with_reducible rename Fr _ _ _ _ => F'); (with_reducible rename News _ _ _ _ => N'); refine my_sn (s := ⟨_, _, _, _, _⟩) ?h0 ?h1 F' N' ?_; (case h0 => omega); (case h1 => omega); intro _ _ _ _ _ _; (try dsimp only))) | ((with_reducible show wpAny _ _ (subscriptTail _ (Expr.Slice _ _ _ _) _ _) _ _ _); ((with_reducible show wpAny _ _ (subscriptTail _ (Expr.Slice none (some _) none _) _ _) _ _ _); (with_reducible rename Fr _ _ _ _ => F'); (with_reducible rename News _ _ _ _ => N'); refine my_ns (s := ⟨_, _, _, _, _⟩) ?h0 ?h1 F' N' ?_; (case h0 => omega); (case h1 => omega); intro _ _ _ _ _ _; (try dsimp only))) | ((with_reducible show wpAny _ _ (subscriptTail _ (Expr.Slice _ _ _ _) _ _) _ _ _); ((with_reducible show wpAny _ _ (subscriptTail _ (Expr.Slice none (some _) none _) _ _) _ _ _); (with_reducible rename Fr _ _ _ _ => F'); (with_reducible rename News _ _ _ _ => N'); refine my_nn (s := ⟨_, _, _, _, _⟩) (by assumption) F' N' ?_; intro _ _ _ _ _ _; (try dsimp only))) | (k_unfold; (try dsimp only)) | (k_end; wrow_close) | walk1 | (dsimp only; walk1) | (leave1; walk_say "STEP leave1"; try dsimp only))
      k_here
      refine while1 (y := Str.ofString "post") (fun i => i ≤ 0 ∧ -i ≤ ((fromS a p).length : Int) ∧ PostI (fromS a p) (fromS b p) i) (fun i => i = postN (fromS a p) (fromS b p)) (fun i => ((fromS a p).length + i).toNat) (by assumption) (by assumption) (by rfl) ⟨by omega, by omega, post_start _ _⟩ ?_ ?_
      · rintro k t h tk ⟨hj0, hj1, hj2⟩ F2 N2
        by_cases hk0 : k = 0
        all_goals repeat' ((fail_if_success (with_reducible show wpAny _ _ (PySem.exec (PySem.Stmt.For _ _ _ _ _) _) _ _ _)); (fail_if_success (with_reducible show wpAny _ _ (PySem.exec (PySem.Stmt.While _ _ _ _) _) _ _ _)); (fail_if_success (with_reducible show wpAny _ _ (PySem.pyIter _) _ _ _)); first | ((with_reducible show wpAny _ _ (PySem.setItem (Value.ref _) (Value.int _ _) _) _ _ _); (k_here; (with_reducible show wpAny _ _ (PySem.setItem (Value.ref _) (Value.int _ _) (Value.int _ _)) _ _ _); k_dflt (refine' ksa_set ?k1 ?k2 (Upd.head ?k3) ?k4 ?k5 ?k6 ?k7 ?_; (case k1 => k_asm); (case k2 => k_asm); (case k3 => assumption); (case k4 => assumption); (case k5 => omega); (case k6 => omega); (case k7 => omega); k_whole); intro h' F' N' hi' hl' hs')) | (k_here; (with_reducible show wpAny _ _ (PySem.call (Value.ref 21) [_, _]) _ _ _); k_dflt (refine' cl_use (c_sc ?ha ?hb) ?k1 ?k2 ?k3 ?k4 ?k5 ?kK ?kd ?ku ?_; (case k1 => k_asm); (case k2 => k_asm); (case k3 => k_asm); (case k4 => k_asm); (case k5 => k_asm); (case kK => first | exact rfl | assumption); (case kd => ktr_room); (case ku => ktr_units); (case ha => exact item_le _ _); (case hb => exact item_le _ _); k_whole); intro v9 nw9 h9 tk9 F9 N9 P9; (obtain ⟨e8, t8, e9⟩ := P9); subst e8; subst e9; (try dsimp only); (try k_fold)) | (k_here; (with_reducible show wpAny _ _ (PySem.call (Value.type "list") [Value.ref _]) _ _ _); (rename IsRange _ _ _ _ _ _ _ _ => rgX); k_dflt (refine' list_row ?hh ?F ?N rgX ?h0 ?hn ?_; (case hh => exact rfl); (case F => k_asm); (case N => k_asm); (case h0 => assumption); (case hn => omega); k_whole); intro D9 us9 c9 h9 tk9 F9 N9 ho9 hi9; (try dsimp only)) | ((with_reducible show wpAny _ _ (subscriptTail _ (Expr.Slice _ _ _ _) _ _) _ _ _); (exfalso; omega)) | ((with_reducible show wpAny _ _ (subscriptTail _ (Expr.Slice _ _ _ _) _ _) _ _ _); ((with_reducible show wpAny _ _ (subscriptTail _ (Expr.Slice (some _) none none _) _ _) _ _ _); (with_reducible rename Fr _ _ _ _ => F'); (with_reducible rename News _ _ _ _ => N'); refine my_sn (s := ⟨_, _, _, _, _⟩) ?h0 ?h1 F' N' ?_; (case h0 => omega); (case h1 => omega); intro _ _ _ _ _ _; (try dsimp only))) | ((with_reducible show wpAny _ _ (subscriptTail _ (Expr.Slice _ _ _ _) _ _) _ _ _); ((with_reducible show wpAny _ _ (subscriptTail _ (Expr.Slice none (some _) none _) _ _) _ _ _); (with_reducible rename Fr _ _ _ _ => F'); (with_reducible rename News _ _ _ _ => N'); refine my_ns (s := ⟨_, _, _, _, _⟩) ?h0 ?h1 F' N' ?_; (case h0 => omega); (case h1 => omega); intro _ _ _ _ _ _; (try dsimp only))) | ((with_reducible show wpAny _ _ (subscriptTail _ (Expr.Slice _ _ _ _) _ _) _ _ _); ((with_reducible show wpAny _ _ (subscriptTail _ (Expr.Slice none (some _) none _) _ _) _ _ _); (with_reducible rename Fr _ _ _ _ => F'); (with_reducible rename News _ _ _ _ => N'); refine my_nn (s := ⟨_, _, _, _, _⟩) (by assumption) F' N' ?_; intro _ _ _ _ _ _; (try dsimp only))) | (k_unfold; (try dsimp only)) | (k_end; wrow_close) | walk1 | (dsimp only; walk1) | (leave1; walk_say "STEP leave1"; try dsimp only))
        all_goals first
          | exact w1_end (by assumption) (by assumption) (fun _ h => h) (by rfl) (fun z hz => by simp [hz]) ⟨by omega, by omega, post_turn hj0 hj1 hj2 (by assumption) (by assumption) (by assumption)⟩ (by omega)
          | (refine w1_exit (by assumption) (by assumption) (fun _ h => h) (post_done hj0 hj1 hj2 ?_)
             rename (Txt.item (fromS a p) (k - 1) == Txt.item (fromS b p) (k - 1)) = false => e
             exact fun q => Bool.false_ne_true (e.symm.trans q.2.2))
          | (refine w1_exit (by assumption) (by assumption) (fun _ h => h) (post_done hj0 hj1 hj2 ?_)
             rename ((toS (fromS b p) k).length : Int) = 0 => e
             exact fun q => q.2.1 e)
          | (refine w1_exit (by assumption) (by assumption) (fun _ h => h) (post_done hj0 hj1 hj2 ?_)
             rename ((toS (fromS a p) k).length : Int) = 0 => e
             exact fun q => q.1 e)
      · rintro q t h tk ⟨hj0, hj1, -⟩ hy F2 N2
        dsimp only
        refine cut_asg (Str.ofString "a") (toS (fromS a p) q) (by assumption) (by assumption) ?_ ?_
        · by_cases hk0 : q = 0
          all_goals repeat' ((fail_if_success (with_reducible show wpAny _ _ (PySem.exec (PySem.Stmt.For _ _ _ _ _) _) _ _ _)); (fail_if_success (with_reducible show wpAny _ _ (PySem.exec (PySem.Stmt.While _ _ _ _) _) _ _ _)); (fail_if_success (with_reducible show wpAny _ _ (PySem.pyIter _) _ _ _)); first | ((with_reducible show wpAny _ _ (PySem.setItem (Value.ref _) (Value.int _ _) _) _ _ _); (k_here; (with_reducible show wpAny _ _ (PySem.setItem (Value.ref _) (Value.int _ _) (Value.int _ _)) _ _ _); k_dflt (refine' ksa_set ?k1 ?k2 (Upd.head ?k3) ?k4 ?k5 ?k6 ?k7 ?_; (case k1 => k_asm); (case k2 => k_asm); (case k3 => assumption); (case k4 => assumption); (case k5 => omega); (case k6 => omega); (case k7 => omega); k_whole); intro h' F' N' hi' hl' hs')) | (k_here; (with_reducible show wpAny _ _ (PySem.call (Value.ref 21) [_, _]) _ _ _); k_dflt (refine' cl_use (c_sc ?ha ?hb) ?k1 ?k2 ?k3 ?k4 ?k5 ?kK ?kd ?ku ?_; (case k1 => k_asm); (case k2 => k_asm); (case k3 => k_asm); (case k4 => k_asm); (case k5 => k_asm); (case kK => first | exact rfl | assumption); (case kd => ktr_room); (case ku => ktr_units); (case ha => exact item_le _ _); (case hb => exact item_le _ _); k_whole); intro v9 nw9 h9 tk9 F9 N9 P9; (obtain ⟨e8, t8, e9⟩ := P9); subst e8; subst e9; (try dsimp only); (try k_fold)) | (k_here; (with_reducible show wpAny _ _ (PySem.call (Value.type "list") [Value.ref _]) _ _ _); (rename IsRange _ _ _ _ _ _ _ _ => rgX); k_dflt (refine' list_row ?hh ?F ?N rgX ?h0 ?hn ?_; (case hh => exact rfl); (case F => k_asm); (case N => k_asm); (case h0 => assumption); (case hn => omega); k_whole); intro D9 us9 c9 h9 tk9 F9 N9 ho9 hi9; (try dsimp only)) | ((with_reducible show wpAny _ _ (subscriptTail _ (Expr.Slice _ _ _ _) _ _) _ _ _); (exfalso; omega)) | ((with_reducible show wpAny _ _ (subscriptTail _ (Expr.Slice _ _ _ _) _ _) _ _ _); ((with_reducible show wpAny _ _ (subscriptTail _ (Expr.Slice (some _) none none _) _ _) _ _ _); (with_reducible rename Fr _ _ _ _ => F'); (with_reducible rename News _ _ _ _ => N'); refine my_sn (s := ⟨_, _, _, _, _⟩) ?h0 ?h1 F' N' ?_; (case h0 => omega); (case h1 => omega); intro _ _ _ _ _ _; (try dsimp only))) | ((with_reducible show wpAny _ _ (subscriptTail _ (Expr.Slice _ _ _ _) _ _) _ _ _); ((with_reducible show wpAny _ _ (subscriptTail _ (Expr.Slice none (some _) none _) _ _) _ _ _); (with_reducible rename Fr _ _ _ _ => F'); (with_reducible rename News _ _ _ _ => N'); refine my_ns (s := ⟨_, _, _, _, _⟩) ?h0 ?h1 F' N' ?_; (case h0 => omega); (case h1 => omega); intro _ _ _ _ _ _; (try dsimp only))) | ((with_reducible show wpAny _ _ (subscriptTail _ (Expr.Slice _ _ _ _) _ _) _ _ _); ((with_reducible show wpAny _ _ (subscriptTail _ (Expr.Slice none (some _) none _) _ _) _ _ _); (with_reducible rename Fr _ _ _ _ => F'); (with_reducible rename News _ _ _ _ => N'); refine my_nn (s := ⟨_, _, _, _, _⟩) (by assumption) F' N' ?_; intro _ _ _ _ _ _; (try dsimp only))) | (k_unfold; (try dsimp only)) | (k_end; wrow_close) | walk1 | (dsimp only; walk1) | (leave1; walk_say "STEP leave1"; try dsimp only))
          all_goals exact asg_end (by assumption) (by assumption)
        intro t1 h1 tk1 F3 N3
        refine cut_asg (Str.ofString "b") (toS (fromS b p) q) (by assumption) (by assumption) ?_ ?_
        · by_cases hk0 : q = 0
          all_goals repeat' ((fail_if_success (with_reducible show wpAny _ _ (PySem.exec (PySem.Stmt.For _ _ _ _ _) _) _ _ _)); (fail_if_success (with_reducible show wpAny _ _ (PySem.exec (PySem.Stmt.While _ _ _ _) _) _ _ _)); (fail_if_success (with_reducible show wpAny _ _ (PySem.pyIter _) _ _ _)); first | ((with_reducible show wpAny _ _ (PySem.setItem (Value.ref _) (Value.int _ _) _) _ _ _); (k_here; (with_reducible show wpAny _ _ (PySem.setItem (Value.ref _) (Value.int _ _) (Value.int _ _)) _ _ _); k_dflt (refine' ksa_set ?k1 ?k2 (Upd.head ?k3) ?k4 ?k5 ?k6 ?k7 ?_; (case k1 => k_asm); (case k2 => k_asm); (case k3 => assumption); (case k4 => assumption); (case k5 => omega); (case k6 => omega); (case k7 => omega); k_whole); intro h' F' N' hi' hl' hs')) | (k_here; (with_reducible show wpAny _ _ (PySem.call (Value.ref 21) [_, _]) _ _ _); k_dflt (refine' cl_use (c_sc ?ha ?hb) ?k1 ?k2 ?k3 ?k4 ?k5 ?kK ?kd ?ku ?_; (case k1 => k_asm); (case k2 => k_asm); (case k3 => k_asm); (case k4 => k_asm); (case k5 => k_asm); (case kK => first | exact rfl | assumption); (case kd => ktr_room); (case ku => ktr_units); (case ha => exact item_le _ _); (case hb => exact item_le _ _); k_whole); intro v9 nw9 h9 tk9 F9 N9 P9; (obtain ⟨e8, t8, e9⟩ := P9); subst e8; subst e9; (try dsimp only); (try k_fold)) | (k_here; (with_reducible show wpAny _ _ (PySem.call (Value.type "list") [Value.ref _]) _ _ _); (rename IsRange _ _ _ _ _ _ _ _ => rgX); k_dflt (refine' list_row ?hh ?F ?N rgX ?h0 ?hn ?_; (case hh => exact rfl); (case F => k_asm); (case N => k_asm); (case h0 => assumption); (case hn => omega); k_whole); intro D9 us9 c9 h9 tk9 F9 N9 ho9 hi9; (try dsimp only)) | ((with_reducible show wpAny _ _ (subscriptTail _ (Expr.Slice _ _ _ _) _ _) _ _ _); (exfalso; omega)) | ((with_reducible show wpAny _ _ (subscriptTail _ (Expr.Slice _ _ _ _) _ _) _ _ _); ((with_reducible show wpAny _ _ (subscriptTail _ (Expr.Slice (some _) none none _) _ _) _ _ _); (with_reducible rename Fr _ _ _ _ => F'); (with_reducible rename News _ _ _ _ => N'); refine my_sn (s := ⟨_, _, _, _, _⟩) ?h0 ?h1 F' N' ?_; (case h0 => omega); (case h1 => omega); intro _ _ _ _ _ _; (try dsimp only))) | ((with_reducible show wpAny _ _ (subscriptTail _ (Expr.Slice _ _ _ _) _ _) _ _ _); ((with_reducible show wpAny _ _ (subscriptTail _ (Expr.Slice none (some _) none _) _ _) _ _ _); (with_reducible rename Fr _ _ _ _ => F'); (with_reducible rename News _ _ _ _ => N'); refine my_ns (s := ⟨_, _, _, _, _⟩) ?h0 ?h1 F' N' ?_; (case h0 => omega); (case h1 => omega); intro _ _ _ _ _ _; (try dsimp only))) | ((with_reducible show wpAny _ _ (subscriptTail _ (Expr.Slice _ _ _ _) _ _) _ _ _); ((with_reducible show wpAny _ _ (subscriptTail _ (Expr.Slice none (some _) none _) _ _) _ _ _); (with_reducible rename Fr _ _ _ _ => F'); (with_reducible rename News _ _ _ _ => N'); refine my_nn (s := ⟨_, _, _, _, _⟩) (by assumption) F' N' ?_; intro _ _ _ _ _ _; (try dsimp only))) | (k_unfold; (try dsimp only)) | (k_end; wrow_close) | walk1 | (dsimp only; walk1) | (leave1; walk_say "STEP leave1"; try dsimp only))
          all_goals exact asg_end (by assumption) (by assumption)
        intro t2 h2 tk2 F4 N4
        have la := len_toS (x := fromS a p) hj0 (by omega)
        have lb := len_toS (x := fromS b p) hj0 (by omega)
        repeat' ((fail_if_success (with_reducible show wpAny _ _ (PySem.exec (PySem.Stmt.For _ _ _ _ _) _) _ _ _)); (fail_if_success (with_reducible show wpAny _ _ (PySem.exec (PySem.Stmt.While _ _ _ _) _) _ _ _)); (fail_if_success (with_reducible show wpAny _ _ (PySem.pyIter _) _ _ _)); first | ((with_reducible show wpAny _ _ (PySem.setItem (Value.ref _) (Value.int _ _) _) _ _ _); (k_here; (with_reducible show wpAny _ _ (PySem.setItem (Value.ref _) (Value.int _ _) (Value.int _ _)) _ _ _); k_dflt (refine' ksa_set ?k1 ?k2 (Upd.head ?k3) ?k4 ?k5 ?k6 ?k7 ?_; (case k1 => k_asm); (case k2 => k_asm); (case k3 => assumption); (case k4 => assumption); (case k5 => omega); (case k6 => omega); (case k7 => omega); k_whole); intro h' F' N' hi' hl' hs')) | (k_here; (with_reducible show wpAny _ _ (PySem.call (Value.ref 21) [_, _]) _ _ _); k_dflt (refine' cl_use (c_sc ?ha ?hb) ?k1 ?k2 ?k3 ?k4 ?k5 ?kK ?kd ?ku ?_; (case k1 => k_asm); (case k2 => k_asm); (case k3 => k_asm); (case k4 => k_asm); (case k5 => k_asm); (case kK => first | exact rfl | assumption); (case kd => ktr_room); (case ku => ktr_units); (case ha => exact item_le _ _); (case hb => exact item_le _ _); k_whole); intro v9 nw9 h9 tk9 F9 N9 P9; (obtain ⟨e8, t8, e9⟩ := P9); subst e8; subst e9; (try dsimp only); (try k_fold)) | (k_here; (with_reducible show wpAny _ _ (PySem.call (Value.type "list") [Value.ref _]) _ _ _); (rename IsRange _ _ _ _ _ _ _ _ => rgX); k_dflt (refine' list_row ?hh ?F ?N rgX ?h0 ?hn ?_; (case hh => exact rfl); (case F => k_asm); (case N => k_asm); (case h0 => assumption); (case hn => omega); k_whole); intro D9 us9 c9 h9 tk9 F9 N9 ho9 hi9; (try dsimp only)) | ((with_reducible show wpAny _ _ (subscriptTail _ (Expr.Slice _ _ _ _) _ _) _ _ _); (exfalso; omega)) | ((with_reducible show wpAny _ _ (subscriptTail _ (Expr.Slice _ _ _ _) _ _) _ _ _); ((with_reducible show wpAny _ _ (subscriptTail _ (Expr.Slice (some _) none none _) _ _) _ _ _); (with_reducible rename Fr _ _ _ _ => F'); (with_reducible rename News _ _ _ _ => N'); refine my_sn (s := ⟨_, _, _, _, _⟩) ?h0 ?h1 F' N' ?_; (case h0 => omega); (case h1 => omega); intro _ _ _ _ _ _; (try dsimp only))) | ((with_reducible show wpAny _ _ (subscriptTail _ (Expr.Slice _ _ _ _) _ _) _ _ _); ((with_reducible show wpAny _ _ (subscriptTail _ (Expr.Slice none (some _) none _) _ _) _ _ _); (with_reducible rename Fr _ _ _ _ => F'); (with_reducible rename News _ _ _ _ => N'); refine my_ns (s := ⟨_, _, _, _, _⟩) ?h0 ?h1 F' N' ?_; (case h0 => omega); (case h1 => omega); intro _ _ _ _ _ _; (try dsimp only))) | ((with_reducible show wpAny _ _ (subscriptTail _ (Expr.Slice _ _ _ _) _ _) _ _ _); ((with_reducible show wpAny _ _ (subscriptTail _ (Expr.Slice none (some _) none _) _ _) _ _ _); (with_reducible rename Fr _ _ _ _ => F'); (with_reducible rename News _ _ _ _ => N'); refine my_nn (s := ⟨_, _, _, _, _⟩) (by assumption) F' N' ?_; intro _ _ _ _ _ _; (try dsimp only))) | (k_unfold; (try dsimp only)) | (k_end; wrow_close) | walk1 | (dsimp only; walk1) | (leave1; walk_say "STEP leave1"; try dsimp only))
        · generalize hA : toS (fromS a p) q = a2 at *
          generalize hB : toS (fromS b p) q = b2 at *
          k_here
          (rename Fr _ _ _ _ => lF')
          (with_unfolding_all refine' For_invVF lF' ?k1 ?k2 ?_)
          (case k1 => exact rfl)
          (case k2 => exact rfl)
          k_whole
          repeat' ((fail_if_success (with_reducible show wpAny _ _ (PySem.exec (PySem.Stmt.For _ _ _ _ _) _) _ _ _)); (fail_if_success (with_reducible show wpAny _ _ (PySem.exec (PySem.Stmt.While _ _ _ _) _) _ _ _)); (fail_if_success (with_reducible show wpAny _ _ (PySem.pyIter _) _ _ _)); first | ((with_reducible show wpAny _ _ (PySem.setItem (Value.ref _) (Value.int _ _) _) _ _ _); (k_here; (with_reducible show wpAny _ _ (PySem.setItem (Value.ref _) (Value.int _ _) (Value.int _ _)) _ _ _); k_dflt (refine' ksa_set ?k1 ?k2 (Upd.head ?k3) ?k4 ?k5 ?k6 ?k7 ?_; (case k1 => k_asm); (case k2 => k_asm); (case k3 => assumption); (case k4 => assumption); (case k5 => omega); (case k6 => omega); (case k7 => omega); k_whole); intro h' F' N' hi' hl' hs')) | (k_here; (with_reducible show wpAny _ _ (PySem.call (Value.ref 21) [_, _]) _ _ _); k_dflt (refine' cl_use (c_sc ?ha ?hb) ?k1 ?k2 ?k3 ?k4 ?k5 ?kK ?kd ?ku ?_; (case k1 => k_asm); (case k2 => k_asm); (case k3 => k_asm); (case k4 => k_asm); (case k5 => k_asm); (case kK => first | exact rfl | assumption); (case kd => ktr_room); (case ku => ktr_units); (case ha => exact item_le _ _); (case hb => exact item_le _ _); k_whole); intro v9 nw9 h9 tk9 F9 N9 P9; (obtain ⟨e8, t8, e9⟩ := P9); subst e8; subst e9; (try dsimp only); (try k_fold)) | (k_here; (with_reducible show wpAny _ _ (PySem.call (Value.type "list") [Value.ref _]) _ _ _); (rename IsRange _ _ _ _ _ _ _ _ => rgX); k_dflt (refine' list_row ?hh ?F ?N rgX ?h0 ?hn ?_; (case hh => exact rfl); (case F => k_asm); (case N => k_asm); (case h0 => assumption); (case hn => omega); k_whole); intro D9 us9 c9 h9 tk9 F9 N9 ho9 hi9; (try dsimp only)) | ((with_reducible show wpAny _ _ (subscriptTail _ (Expr.Slice _ _ _ _) _ _) _ _ _); (exfalso; omega)) | ((with_reducible show wpAny _ _ (subscriptTail _ (Expr.Slice _ _ _ _) _ _) _ _ _); ((with_reducible show wpAny _ _ (subscriptTail _ (Expr.Slice (some _) none none _) _ _) _ _ _); (with_reducible rename Fr _ _ _ _ => F'); (with_reducible rename News _ _ _ _ => N'); refine my_sn (s := ⟨_, _, _, _, _⟩) ?h0 ?h1 F' N' ?_; (case h0 => omega); (case h1 => omega); intro _ _ _ _ _ _; (try dsimp only))) | ((with_reducible show wpAny _ _ (subscriptTail _ (Expr.Slice _ _ _ _) _ _) _ _ _); ((with_reducible show wpAny _ _ (subscriptTail _ (Expr.Slice none (some _) none _) _ _) _ _ _); (with_reducible rename Fr _ _ _ _ => F'); (with_reducible rename News _ _ _ _ => N'); refine my_ns (s := ⟨_, _, _, _, _⟩) ?h0 ?h1 F' N' ?_; (case h0 => omega); (case h1 => omega); intro _ _ _ _ _ _; (try dsimp only))) | ((with_reducible show wpAny _ _ (subscriptTail _ (Expr.Slice _ _ _ _) _ _) _ _ _); ((with_reducible show wpAny _ _ (subscriptTail _ (Expr.Slice none (some _) none _) _ _) _ _ _); (with_reducible rename Fr _ _ _ _ => F'); (with_reducible rename News _ _ _ _ => N'); refine my_nn (s := ⟨_, _, _, _, _⟩) (by assumption) F' N' ?_; intro _ _ _ _ _ _; (try dsimp only))) | (k_unfold; (try dsimp only)) | (k_end; wrow_close) | walk1 | (dsimp only; walk1) | (leave1; walk_say "STEP leave1"; try dsimp only))
          have hlen : b2.length = a2.length := by omega
          (rename IsRange _ _ _ _ _ _ _ _ => rg)
          refine for_range (n := a2.length) (OutJ a2 b2 c a2.length D9 news) rfl rg (by omega) (by omega) (by assumption) (by assumption) ⟨us9, c9, row0 a2.length, 0, _, _, _, _, rfl, hi9, row0_length _, rfl, rfl, rfl, rfl, rfl, by unfold dpF; rw [hlen]; rfl⟩ ?_ ?_
          · rintro i ti m1 nx h5 tk5 own hin hadr hoff ⟨us, c', row, res, tr, ta, tb, tc, rfl, hI, hlr, e1, e2, e3, e4, e5, hrun⟩ F5 N5
            have F6 := fr_under [(Str.ofString "row", .ref D9), (Str.ofString "result", .int res tr), (Str.ofString "a", .str a2 ta), (Str.ofString "b", .str b2 tb), (Str.ofString "max_cost", .int c tc)] F5 (fm1 e1 (fm1 e2 (fm1 e3 (fm1 e4 (fm1 e5 fm0)))))
            clear F5
            dsimp only [kstB] at F6
            have ho6 := off_app ho9 (hoff.ne (List.mem_cons_self ..))
            rw [List.cons_append] at N5
            dsimp only at F6 N5 ⊢
            repeat' ((fail_if_success (with_reducible show wpAny _ _ (PySem.exec (PySem.Stmt.For _ _ _ _ _) _) _ _ _)); (fail_if_success (with_reducible show wpAny _ _ (PySem.exec (PySem.Stmt.While _ _ _ _) _) _ _ _)); (fail_if_success (with_reducible show wpAny _ _ (PySem.pyIter _) _ _ _)); first | ((with_reducible show wpAny _ _ (PySem.setItem (Value.ref _) (Value.int _ _) _) _ _ _); (k_here; (with_reducible show wpAny _ _ (PySem.setItem (Value.ref _) (Value.int _ _) (Value.int _ _)) _ _ _); k_dflt (refine' ksa_set ?k1 ?k2 (Upd.head ?k3) ?k4 ?k5 ?k6 ?k7 ?_; (case k1 => k_asm); (case k2 => k_asm); (case k3 => assumption); (case k4 => assumption); (case k5 => omega); (case k6 => omega); (case k7 => omega); k_whole); intro h' F' N' hi' hl' hs')) | (k_here; (with_reducible show wpAny _ _ (PySem.call (Value.ref 21) [_, _]) _ _ _); k_dflt (refine' cl_use (c_sc ?ha ?hb) ?k1 ?k2 ?k3 ?k4 ?k5 ?kK ?kd ?ku ?_; (case k1 => k_asm); (case k2 => k_asm); (case k3 => k_asm); (case k4 => k_asm); (case k5 => k_asm); (case kK => first | exact rfl | assumption); (case kd => ktr_room); (case ku => ktr_units); (case ha => exact item_le _ _); (case hb => exact item_le _ _); k_whole); intro v9 nw9 h9 tk9 F9 N9 P9; (obtain ⟨e8, t8, e9⟩ := P9); subst e8; subst e9; (try dsimp only); (try k_fold)) | (k_here; (with_reducible show wpAny _ _ (PySem.call (Value.type "list") [Value.ref _]) _ _ _); (rename IsRange _ _ _ _ _ _ _ _ => rgX); k_dflt (refine' list_row ?hh ?F ?N rgX ?h0 ?hn ?_; (case hh => exact rfl); (case F => k_asm); (case N => k_asm); (case h0 => assumption); (case hn => omega); k_whole); intro D9 us9 c9 h9 tk9 F9 N9 ho9 hi9; (try dsimp only)) | ((with_reducible show wpAny _ _ (subscriptTail _ (Expr.Slice _ _ _ _) _ _) _ _ _); (exfalso; omega)) | ((with_reducible show wpAny _ _ (subscriptTail _ (Expr.Slice _ _ _ _) _ _) _ _ _); ((with_reducible show wpAny _ _ (subscriptTail _ (Expr.Slice (some _) none none _) _ _) _ _ _); (with_reducible rename Fr _ _ _ _ => F'); (with_reducible rename News _ _ _ _ => N'); refine my_sn (s := ⟨_, _, _, _, _⟩) ?h0 ?h1 F' N' ?_; (case h0 => omega); (case h1 => omega); intro _ _ _ _ _ _; (try dsimp only))) | ((with_reducible show wpAny _ _ (subscriptTail _ (Expr.Slice _ _ _ _) _ _) _ _ _); ((with_reducible show wpAny _ _ (subscriptTail _ (Expr.Slice none (some _) none _) _ _) _ _ _); (with_reducible rename Fr _ _ _ _ => F'); (with_reducible rename News _ _ _ _ => N'); refine my_ns (s := ⟨_, _, _, _, _⟩) ?h0 ?h1 F' N' ?_; (case h0 => omega); (case h1 => omega); intro _ _ _ _ _ _; (try dsimp only))) | ((with_reducible show wpAny _ _ (subscriptTail _ (Expr.Slice _ _ _ _) _ _) _ _ _); ((with_reducible show wpAny _ _ (subscriptTail _ (Expr.Slice none (some _) none _) _ _) _ _ _); (with_reducible rename Fr _ _ _ _ => F'); (with_reducible rename News _ _ _ _ => N'); refine my_nn (s := ⟨_, _, _, _, _⟩) (by assumption) F' N' ?_; intro _ _ _ _ _ _; (try dsimp only))) | (k_unfold; (try dsimp only)) | (k_end; wrow_close) | walk1 | (dsimp only; walk1) | (leave1; walk_say "STEP leave1"; try dsimp only))
            k_here
            (rename Fr _ _ _ _ => lF')
            (with_unfolding_all refine' For_invVF lF' ?k1 ?k2 ?_)
            (case k1 => exact rfl)
            (case k2 => exact rfl)
            k_whole
            repeat' ((fail_if_success (with_reducible show wpAny _ _ (PySem.exec (PySem.Stmt.For _ _ _ _ _) _) _ _ _)); (fail_if_success (with_reducible show wpAny _ _ (PySem.exec (PySem.Stmt.While _ _ _ _) _) _ _ _)); (fail_if_success (with_reducible show wpAny _ _ (PySem.pyIter _) _ _ _)); first | ((with_reducible show wpAny _ _ (PySem.setItem (Value.ref _) (Value.int _ _) _) _ _ _); (k_here; (with_reducible show wpAny _ _ (PySem.setItem (Value.ref _) (Value.int _ _) (Value.int _ _)) _ _ _); k_dflt (refine' ksa_set ?k1 ?k2 (Upd.head ?k3) ?k4 ?k5 ?k6 ?k7 ?_; (case k1 => k_asm); (case k2 => k_asm); (case k3 => assumption); (case k4 => assumption); (case k5 => omega); (case k6 => omega); (case k7 => omega); k_whole); intro h' F' N' hi' hl' hs')) | (k_here; (with_reducible show wpAny _ _ (PySem.call (Value.ref 21) [_, _]) _ _ _); k_dflt (refine' cl_use (c_sc ?ha ?hb) ?k1 ?k2 ?k3 ?k4 ?k5 ?kK ?kd ?ku ?_; (case k1 => k_asm); (case k2 => k_asm); (case k3 => k_asm); (case k4 => k_asm); (case k5 => k_asm); (case kK => first | exact rfl | assumption); (case kd => ktr_room); (case ku => ktr_units); (case ha => exact item_le _ _); (case hb => exact item_le _ _); k_whole); intro v9 nw9 h9 tk9 F9 N9 P9; (obtain ⟨e8, t8, e9⟩ := P9); subst e8; subst e9; (try dsimp only); (try k_fold)) | (k_here; (with_reducible show wpAny _ _ (PySem.call (Value.type "list") [Value.ref _]) _ _ _); (rename IsRange _ _ _ _ _ _ _ _ => rgX); k_dflt (refine' list_row ?hh ?F ?N rgX ?h0 ?hn ?_; (case hh => exact rfl); (case F => k_asm); (case N => k_asm); (case h0 => assumption); (case hn => omega); k_whole); intro D9 us9 c9 h9 tk9 F9 N9 ho9 hi9; (try dsimp only)) | ((with_reducible show wpAny _ _ (subscriptTail _ (Expr.Slice _ _ _ _) _ _) _ _ _); (exfalso; omega)) | ((with_reducible show wpAny _ _ (subscriptTail _ (Expr.Slice _ _ _ _) _ _) _ _ _); ((with_reducible show wpAny _ _ (subscriptTail _ (Expr.Slice (some _) none none _) _ _) _ _ _); (with_reducible rename Fr _ _ _ _ => F'); (with_reducible rename News _ _ _ _ => N'); refine my_sn (s := ⟨_, _, _, _, _⟩) ?h0 ?h1 F' N' ?_; (case h0 => omega); (case h1 => omega); intro _ _ _ _ _ _; (try dsimp only))) | ((with_reducible show wpAny _ _ (subscriptTail _ (Expr.Slice _ _ _ _) _ _) _ _ _); ((with_reducible show wpAny _ _ (subscriptTail _ (Expr.Slice none (some _) none _) _ _) _ _ _); (with_reducible rename Fr _ _ _ _ => F'); (with_reducible rename News _ _ _ _ => N'); refine my_ns (s := ⟨_, _, _, _, _⟩) ?h0 ?h1 F' N' ?_; (case h0 => omega); (case h1 => omega); intro _ _ _ _ _ _; (try dsimp only))) | ((with_reducible show wpAny _ _ (subscriptTail _ (Expr.Slice _ _ _ _) _ _) _ _ _); ((with_reducible show wpAny _ _ (subscriptTail _ (Expr.Slice none (some _) none _) _ _) _ _ _); (with_reducible rename Fr _ _ _ _ => F'); (with_reducible rename News _ _ _ _ => N'); refine my_nn (s := ⟨_, _, _, _, _⟩) (by assumption) F' N' ?_; intro _ _ _ _ _ _; (try dsimp only))) | (k_unfold; (try dsimp only)) | (k_end; wrow_close) | walk1 | (dsimp only; walk1) | (leave1; walk_say "STEP leave1"; try dsimp only))
            (rename IsRange _ _ 0 (a2.length : Int) 1 _ _ _ => rg2)
            refine for_range (n := a2.length) (InJ a2 b2 (Txt.item b2 i) c a2.length D9 (news ++ own) ⟨row, (i : Int) * 2, (i : Int) * 2, 9223372036854775807⟩) rfl rg2 rfl (by omega) (by assumption) (by assumption) ?_ ?_ ?_
            · exact ⟨us, c', ⟨row, (i : Int) * 2, (i : Int) * 2, 9223372036854775807⟩, _, _, _, _, _, _, _, rfl, rfl, hI, hlr, rfl, rfl, rfl, rfl, rfl, rfl, rfl, rfl⟩
            · rintro k tk2 m2 nx2 h6 tk6 own2 hin2 hadr2 hoff2 ⟨us2, c2, S, s1, s2, s3, s4, s5, s6, s7, rfl, hS, hI2, hlr2, f1, f2, f3, f4, f5, f6, f7, f8⟩ F7 N7
              have F8 := fr_under [(Str.ofString "row", .ref D9), (Str.ofString "distance", .int S.dist s1), (Str.ofString "result", .int S.res s2), (Str.ofString "minimum", .int S.mini s3), (Str.ofString "a", .str a2 s4), (Str.ofString "b", .str b2 s5), (Str.ofString "bchar", .str (Txt.item b2 i) s7), (Str.ofString "max_cost", .int c s6)] F7 (fm1 f1 (fm1 f2 (fm1 f3 (fm1 f4 (fm1 f5 (fm1 f6 (fm1 f7 (fm1 f8 fm0))))))))
              clear F7
              dsimp only [kstB] at F8
              have ho7 := off_app ho6 (hoff2.ne (List.mem_cons_self ..))
              rw [List.cons_append] at N7
              dsimp only at F8 N7 ⊢
              repeat' ((fail_if_success (with_reducible show wpAny _ _ (PySem.exec (PySem.Stmt.For _ _ _ _ _) _) _ _ _)); (fail_if_success (with_reducible show wpAny _ _ (PySem.exec (PySem.Stmt.While _ _ _ _) _) _ _ _)); (fail_if_success (with_reducible show wpAny _ _ (PySem.pyIter _) _ _ _)); first | ((with_reducible show wpAny _ _ (PySem.setItem (Value.ref _) (Value.int _ _) _) _ _ _); (k_here; (with_reducible show wpAny _ _ (PySem.setItem (Value.ref _) (Value.int _ _) (Value.int _ _)) _ _ _); k_dflt (refine' ksa_set ?k1 ?k2 (Upd.head ?k3) ?k4 ?k5 ?k6 ?k7 ?_; (case k1 => k_asm); (case k2 => k_asm); (case k3 => assumption); (case k4 => assumption); (case k5 => omega); (case k6 => omega); (case k7 => omega); k_whole); intro h' F' N' hi' hl' hs')) | (k_here; (with_reducible show wpAny _ _ (PySem.call (Value.ref 21) [_, _]) _ _ _); k_dflt (refine' cl_use (c_sc ?ha ?hb) ?k1 ?k2 ?k3 ?k4 ?k5 ?kK ?kd ?ku ?_; (case k1 => k_asm); (case k2 => k_asm); (case k3 => k_asm); (case k4 => k_asm); (case k5 => k_asm); (case kK => first | exact rfl | assumption); (case kd => ktr_room); (case ku => ktr_units); (case ha => exact item_le _ _); (case hb => exact item_le _ _); k_whole); intro v9 nw9 h9 tk9 F9 N9 P9; (obtain ⟨e8, t8, e9⟩ := P9); subst e8; subst e9; (try dsimp only); (try k_fold)) | (k_here; (with_reducible show wpAny _ _ (PySem.call (Value.type "list") [Value.ref _]) _ _ _); (rename IsRange _ _ _ _ _ _ _ _ => rgX); k_dflt (refine' list_row ?hh ?F ?N rgX ?h0 ?hn ?_; (case hh => exact rfl); (case F => k_asm); (case N => k_asm); (case h0 => assumption); (case hn => omega); k_whole); intro D9 us9 c9 h9 tk9 F9 N9 ho9 hi9; (try dsimp only)) | ((with_reducible show wpAny _ _ (subscriptTail _ (Expr.Slice _ _ _ _) _ _) _ _ _); (exfalso; omega)) | ((with_reducible show wpAny _ _ (subscriptTail _ (Expr.Slice _ _ _ _) _ _) _ _ _); ((with_reducible show wpAny _ _ (subscriptTail _ (Expr.Slice (some _) none none _) _ _) _ _ _); (with_reducible rename Fr _ _ _ _ => F'); (with_reducible rename News _ _ _ _ => N'); refine my_sn (s := ⟨_, _, _, _, _⟩) ?h0 ?h1 F' N' ?_; (case h0 => omega); (case h1 => omega); intro _ _ _ _ _ _; (try dsimp only))) | ((with_reducible show wpAny _ _ (subscriptTail _ (Expr.Slice _ _ _ _) _ _) _ _ _); ((with_reducible show wpAny _ _ (subscriptTail _ (Expr.Slice none (some _) none _) _ _) _ _ _); (with_reducible rename Fr _ _ _ _ => F'); (with_reducible rename News _ _ _ _ => N'); refine my_ns (s := ⟨_, _, _, _, _⟩) ?h0 ?h1 F' N' ?_; (case h0 => omega); (case h1 => omega); intro _ _ _ _ _ _; (try dsimp only))) | ((with_reducible show wpAny _ _ (subscriptTail _ (Expr.Slice _ _ _ _) _ _) _ _ _); ((with_reducible show wpAny _ _ (subscriptTail _ (Expr.Slice none (some _) none _) _ _) _ _ _); (with_reducible rename Fr _ _ _ _ => F'); (with_reducible rename News _ _ _ _ => N'); refine my_nn (s := ⟨_, _, _, _, _⟩) (by assumption) F' N' ?_; intro _ _ _ _ _ _; (try dsimp only))) | (k_unfold; (try dsimp only)) | (k_end; wrow_close) | walk1 | (dsimp only; walk1) | (leave1; walk_say "STEP leave1"; try dsimp only))
              · rename (_ < S.mini) => hm
                refine inv_end (_ :: (news ++ own)) (by assumption) (by assumption) (fun p hp => mem_l hp) (fun p hp => mem_r hp) ?hmap ?hJ
                case hJ => exact ⟨_, c2, inStep (Txt.item b2 i) a2 S k, _, _, _, s4, s5, s6, s7, rfl, by rw [hS]; exact (inRun_turn hin2).symm, by assumption, by rw [inStep_len]; exact hlr2, rfl, rfl, rfl, congrArg (fun z => some (Value.int z _)) (mini_pos (bc := Txt.item b2 i) (a := a2) (k := k) hm).symm, rfl, rfl, rfl, rfl⟩
                case hmap => rfl
              · rename (¬ (_ < S.mini)) => hm
                refine inv_end (_ :: (news ++ own)) (by assumption) (by assumption) (fun p hp => mem_l hp) (fun p hp => mem_r hp) ?hmap ?hJ
                case hJ => exact ⟨_, c2, inStep (Txt.item b2 i) a2 S k, _, _, _, s4, s5, s6, s7, rfl, by rw [hS]; exact (inRun_turn hin2).symm, by assumption, by rw [inStep_len]; exact hlr2, rfl, rfl, rfl, congrArg (fun z => some (Value.int z _)) (mini_neg (bc := Txt.item b2 i) (a := a2) (k := k) hm).symm, rfl, rfl, rfl, rfl⟩
                case hmap => rfl
            · rintro m2 nx2 h6 tk6 ⟨us2, c2, S, s1, s2, s3, s4, s5, s6, s7, rfl, hS, hI2, hlr2, f1, f2, f3, f4, f5, f6, f7, f8⟩ hadr2 F7 N7
              have F8 := fr_known [(Str.ofString "row", .ref D9), (Str.ofString "result", .int S.res s2), (Str.ofString "minimum", .int S.mini s3), (Str.ofString "a", .str a2 s4), (Str.ofString "b", .str b2 s5), (Str.ofString "max_cost", .int c s6)] F7 (fm1 f1 (fm1 f3 (fm1 f4 (fm1 f5 (fm1 f6 (fm1 f8 fm0))))))
              clear F7
              dsimp only [kstB] at F8
              dsimp only at F8 N7 ⊢
              repeat' ((fail_if_success (with_reducible show wpAny _ _ (PySem.exec (PySem.Stmt.For _ _ _ _ _) _) _ _ _)); (fail_if_success (with_reducible show wpAny _ _ (PySem.exec (PySem.Stmt.While _ _ _ _) _) _ _ _)); (fail_if_success (with_reducible show wpAny _ _ (PySem.pyIter _) _ _ _)); first | ((with_reducible show wpAny _ _ (PySem.setItem (Value.ref _) (Value.int _ _) _) _ _ _); (k_here; (with_reducible show wpAny _ _ (PySem.setItem (Value.ref _) (Value.int _ _) (Value.int _ _)) _ _ _); k_dflt (refine' ksa_set ?k1 ?k2 (Upd.head ?k3) ?k4 ?k5 ?k6 ?k7 ?_; (case k1 => k_asm); (case k2 => k_asm); (case k3 => assumption); (case k4 => assumption); (case k5 => omega); (case k6 => omega); (case k7 => omega); k_whole); intro h' F' N' hi' hl' hs')) | (k_here; (with_reducible show wpAny _ _ (PySem.call (Value.ref 21) [_, _]) _ _ _); k_dflt (refine' cl_use (c_sc ?ha ?hb) ?k1 ?k2 ?k3 ?k4 ?k5 ?kK ?kd ?ku ?_; (case k1 => k_asm); (case k2 => k_asm); (case k3 => k_asm); (case k4 => k_asm); (case k5 => k_asm); (case kK => first | exact rfl | assumption); (case kd => ktr_room); (case ku => ktr_units); (case ha => exact item_le _ _); (case hb => exact item_le _ _); k_whole); intro v9 nw9 h9 tk9 F9 N9 P9; (obtain ⟨e8, t8, e9⟩ := P9); subst e8; subst e9; (try dsimp only); (try k_fold)) | (k_here; (with_reducible show wpAny _ _ (PySem.call (Value.type "list") [Value.ref _]) _ _ _); (rename IsRange _ _ _ _ _ _ _ _ => rgX); k_dflt (refine' list_row ?hh ?F ?N rgX ?h0 ?hn ?_; (case hh => exact rfl); (case F => k_asm); (case N => k_asm); (case h0 => assumption); (case hn => omega); k_whole); intro D9 us9 c9 h9 tk9 F9 N9 ho9 hi9; (try dsimp only)) | ((with_reducible show wpAny _ _ (subscriptTail _ (Expr.Slice _ _ _ _) _ _) _ _ _); (exfalso; omega)) | ((with_reducible show wpAny _ _ (subscriptTail _ (Expr.Slice _ _ _ _) _ _) _ _ _); ((with_reducible show wpAny _ _ (subscriptTail _ (Expr.Slice (some _) none none _) _ _) _ _ _); (with_reducible rename Fr _ _ _ _ => F'); (with_reducible rename News _ _ _ _ => N'); refine my_sn (s := ⟨_, _, _, _, _⟩) ?h0 ?h1 F' N' ?_; (case h0 => omega); (case h1 => omega); intro _ _ _ _ _ _; (try dsimp only))) | ((with_reducible show wpAny _ _ (subscriptTail _ (Expr.Slice _ _ _ _) _ _) _ _ _); ((with_reducible show wpAny _ _ (subscriptTail _ (Expr.Slice none (some _) none _) _ _) _ _ _); (with_reducible rename Fr _ _ _ _ => F'); (with_reducible rename News _ _ _ _ => N'); refine my_ns (s := ⟨_, _, _, _, _⟩) ?h0 ?h1 F' N' ?_; (case h0 => omega); (case h1 => omega); intro _ _ _ _ _ _; (try dsimp only))) | ((with_reducible show wpAny _ _ (subscriptTail _ (Expr.Slice _ _ _ _) _ _) _ _ _); ((with_reducible show wpAny _ _ (subscriptTail _ (Expr.Slice none (some _) none _) _ _) _ _ _); (with_reducible rename Fr _ _ _ _ => F'); (with_reducible rename News _ _ _ _ => N'); refine my_nn (s := ⟨_, _, _, _, _⟩) (by assumption) F' N' ?_; intro _ _ _ _ _ _; (try dsimp only))) | (k_unfold; (try dsimp only)) | (k_end; wrow_close) | walk1 | (dsimp only; walk1) | (leave1; walk_say "STEP leave1"; try dsimp only))
              · have e := levF_long (c := c) hab hx hy (by rw [hA]; assumption) (by rw [hB]; assumption)
                rw [hA, hB, out_ret hin hrun hS (by assumption)] at e
                rename News h₀ L _ (_ :: (news ++ own)) => kN
                exact ret_end hret _ (by assumption) (news_drop kN) ⟨rfl, _, by rw [e]⟩
              · refine inv_end (_ :: news) (by assumption) (by assumption) (fun p hp => mem_l hp) (fun p hp => mem_r hp) ?hmap ?hJ
                case hJ => exact ⟨us2, c2, S.row, S.res, _, _, _, _, rfl, hI2, hlr2, rfl, rfl, rfl, rfl, rfl, out_next hin hrun hS (by assumption)⟩
                case hmap => rfl
          · rintro m1 nx h5 tk5 ⟨us, c', row, res, tr, ta, tb, tc, rfl, hI, hlr, e1, e2, e3, e4, e5, hrun⟩ hadr F5 N5
            have F6 := fr_known [(Str.ofString "result", .int res tr)] F5 (fm1 e2 fm0)
            clear F5
            dsimp only [kstB] at F6
            dsimp only at F6 N5 ⊢
            repeat' ((fail_if_success (with_reducible show wpAny _ _ (PySem.exec (PySem.Stmt.For _ _ _ _ _) _) _ _ _)); (fail_if_success (with_reducible show wpAny _ _ (PySem.exec (PySem.Stmt.While _ _ _ _) _) _ _ _)); (fail_if_success (with_reducible show wpAny _ _ (PySem.pyIter _) _ _ _)); first | ((with_reducible show wpAny _ _ (PySem.setItem (Value.ref _) (Value.int _ _) _) _ _ _); (k_here; (with_reducible show wpAny _ _ (PySem.setItem (Value.ref _) (Value.int _ _) (Value.int _ _)) _ _ _); k_dflt (refine' ksa_set ?k1 ?k2 (Upd.head ?k3) ?k4 ?k5 ?k6 ?k7 ?_; (case k1 => k_asm); (case k2 => k_asm); (case k3 => assumption); (case k4 => assumption); (case k5 => omega); (case k6 => omega); (case k7 => omega); k_whole); intro h' F' N' hi' hl' hs')) | (k_here; (with_reducible show wpAny _ _ (PySem.call (Value.ref 21) [_, _]) _ _ _); k_dflt (refine' cl_use (c_sc ?ha ?hb) ?k1 ?k2 ?k3 ?k4 ?k5 ?kK ?kd ?ku ?_; (case k1 => k_asm); (case k2 => k_asm); (case k3 => k_asm); (case k4 => k_asm); (case k5 => k_asm); (case kK => first | exact rfl | assumption); (case kd => ktr_room); (case ku => ktr_units); (case ha => exact item_le _ _); (case hb => exact item_le _ _); k_whole); intro v9 nw9 h9 tk9 F9 N9 P9; (obtain ⟨e8, t8, e9⟩ := P9); subst e8; subst e9; (try dsimp only); (try k_fold)) | (k_here; (with_reducible show wpAny _ _ (PySem.call (Value.type "list") [Value.ref _]) _ _ _); (rename IsRange _ _ _ _ _ _ _ _ => rgX); k_dflt (refine' list_row ?hh ?F ?N rgX ?h0 ?hn ?_; (case hh => exact rfl); (case F => k_asm); (case N => k_asm); (case h0 => assumption); (case hn => omega); k_whole); intro D9 us9 c9 h9 tk9 F9 N9 ho9 hi9; (try dsimp only)) | ((with_reducible show wpAny _ _ (subscriptTail _ (Expr.Slice _ _ _ _) _ _) _ _ _); (exfalso; omega)) | ((with_reducible show wpAny _ _ (subscriptTail _ (Expr.Slice _ _ _ _) _ _) _ _ _); ((with_reducible show wpAny _ _ (subscriptTail _ (Expr.Slice (some _) none none _) _ _) _ _ _); (with_reducible rename Fr _ _ _ _ => F'); (with_reducible rename News _ _ _ _ => N'); refine my_sn (s := ⟨_, _, _, _, _⟩) ?h0 ?h1 F' N' ?_; (case h0 => omega); (case h1 => omega); intro _ _ _ _ _ _; (try dsimp only))) | ((with_reducible show wpAny _ _ (subscriptTail _ (Expr.Slice _ _ _ _) _ _) _ _ _); ((with_reducible show wpAny _ _ (subscriptTail _ (Expr.Slice none (some _) none _) _ _) _ _ _); (with_reducible rename Fr _ _ _ _ => F'); (with_reducible rename News _ _ _ _ => N'); refine my_ns (s := ⟨_, _, _, _, _⟩) ?h0 ?h1 F' N' ?_; (case h0 => omega); (case h1 => omega); intro _ _ _ _ _ _; (try dsimp only))) | ((with_reducible show wpAny _ _ (subscriptTail _ (Expr.Slice _ _ _ _) _ _) _ _ _); ((with_reducible show wpAny _ _ (subscriptTail _ (Expr.Slice none (some _) none _) _ _) _ _ _); (with_reducible rename Fr _ _ _ _ => F'); (with_reducible rename News _ _ _ _ => N'); refine my_nn (s := ⟨_, _, _, _, _⟩) (by assumption) F' N' ?_; intro _ _ _ _ _ _; (try dsimp only))) | (k_unfold; (try dsimp only)) | (k_end; wrow_close) | walk1 | (dsimp only; walk1) | (leave1; walk_say "STEP leave1"; try dsimp only))
            · have e := levF_long (c := c) hab hx hy (by rw [hA]; assumption) (by rw [hB]; assumption)
              rw [hA, hB, out_end hrun] at e
              rename News h₀ L _ (_ :: news) => kN
              exact ret_end hret _ (by assumption) (news_drop1 kN) ⟨rfl, _, by rw [e]⟩
        · rename ((toS (fromS b p) q).length : Int) = 0 => e
          exact ret_end hret _ (by assumption) (by assumption) ⟨rfl, _, by rw [levF_short hab hx hy (.inr e)]⟩
        · rename ((toS (fromS a p) q).length : Int) = 0 => e
          exact ret_end hret _ (by assumption) (by assumption) ⟨rfl, _, by rw [levF_short hab hx hy (.inl e)]⟩
end

/- LevP -/
section
open PySem PySem.W PyProof.Rows PySem.Spec
noncomputable def word (L x : Nat) : Str := ⟨((List.range L).map fun k => (if x / 2 ^ k % 2 = 1 then 65 else 97) + k).toArray⟩
noncomputable def bits (L x : Nat) : Nat := ((List.range L).map fun k => x / 2 ^ k % 2).sum
noncomputable def within (L y x : Nat) : Bool := (List.range L).all fun k => decide (y / 2 ^ k % 2 ≤ x / 2 ^ k % 2)
noncomputable def levOk (L y x : Nat) : Bool := decide (bits L x < bits L y) || (decide (levF (word L y) (word L x) ((bits L x : Int) - bits L y) = (bits L x : Int) - bits L y) == within L y x)
set_option maxRecDepth 100000
theorem levOk3 : ((List.range 8).all fun y => (List.range 8).all fun x => levOk 3 y x) = true := by decide +kernel
theorem levOk4_0 : ((List.range 16).all fun x => levOk 4 0 x) = true := by decide +kernel
theorem levOk4_1 : ((List.range 16).all fun x => levOk 4 1 x) = true := by decide +kernel
theorem levOk4_2 : ((List.range 16).all fun x => levOk 4 2 x) = true := by decide +kernel
theorem levOk4_3 : ((List.range 16).all fun x => levOk 4 3 x) = true := by decide +kernel
theorem levOk4_4 : ((List.range 16).all fun x => levOk 4 4 x) = true := by decide +kernel
theorem levOk4_5 : ((List.range 16).all fun x => levOk 4 5 x) = true := by decide +kernel
theorem levOk4_6 : ((List.range 16).all fun x => levOk 4 6 x) = true := by decide +kernel
theorem levOk4_7 : ((List.range 16).all fun x => levOk 4 7 x) = true := by decide +kernel
theorem levOk4_8 : ((List.range 16).all fun x => levOk 4 8 x) = true := by decide +kernel
theorem levOk4_9 : ((List.range 16).all fun x => levOk 4 9 x) = true := by decide +kernel
theorem levOk4_10 : ((List.range 16).all fun x => levOk 4 10 x) = true := by decide +kernel
theorem levOk4_11 : ((List.range 16).all fun x => levOk 4 11 x) = true := by decide +kernel
theorem levOk4_12 : ((List.range 16).all fun x => levOk 4 12 x) = true := by decide +kernel
theorem levOk4_13 : ((List.range 16).all fun x => levOk 4 13 x) = true := by decide +kernel
theorem levOk4_14 : ((List.range 16).all fun x => levOk 4 14 x) = true := by decide +kernel
theorem levOk4_15 : ((List.range 16).all fun x => levOk 4 15 x) = true := by decide +kernel
theorem levOk4 : ((List.range 16).all fun y => (List.range 16).all fun x => levOk 4 y x) = true := by
  rw [List.all_eq_true]
  intro y hy
  have h := List.mem_range.mp hy
  match y, h with
  | 0, _ => exact levOk4_0
  | 1, _ => exact levOk4_1
  | 2, _ => exact levOk4_2
  | 3, _ => exact levOk4_3
  | 4, _ => exact levOk4_4
  | 5, _ => exact levOk4_5
  | 6, _ => exact levOk4_6
  | 7, _ => exact levOk4_7
  | 8, _ => exact levOk4_8
  | 9, _ => exact levOk4_9
  | 10, _ => exact levOk4_10
  | 11, _ => exact levOk4_11
  | 12, _ => exact levOk4_12
  | 13, _ => exact levOk4_13
  | 14, _ => exact levOk4_14
  | 15, _ => exact levOk4_15
  | y + 16, h => exact absurd h (by omega)
end

/- Told -/
section
open PySem PySem.W PyProof.Rows PySem.Spec
set_option maxRecDepth 100000
/-- L letters, M sets -/
noncomputable def Lm (L M : Nat) : Prop := (L = 3 ∧ M = 8) ∨ (L = 4 ∧ M = 16)
noncomputable def sizesL (L M : Nat) : List Int := (List.range M).map fun x => (bits L x : Int)
noncomputable def WordsOK (L M : Nat) (ws : List Value) : Prop := ws.length = M ∧ ∀ i, i < M → ∃ t, ws[i]? = some (.str (word L i) t)
noncomputable def withinI (L : Nat) (y x : Int) : Bool := within L y.toNat x.toNat
noncomputable def holdI (L : Nat) (fam : List Int) (x : Int) : Int := if fam.any (fun y => withinI L y x) = true then 1 else 0
theorem holdI_nil (L : Nat) (x : Int) : holdI L [] x = 0 := rfl
theorem holdI_01 (L : Nat) (fam : List Int) (x : Int) : holdI L fam x = 0 ∨ holdI L fam x = 1 := by
  unfold holdI; split
  · exact .inr rfl
  · exact .inl rfl
theorem holdI_old {L : Nat} {fam : List Int} {n x : Int} (h : ¬ holdI L fam x = 0) : holdI L (fam ++ [n]) x = holdI L fam x := by
  unfold holdI at *
  rw [List.any_append]
  cases e : fam.any (fun y => withinI L y x) with
  | true => simp
  | false => rw [e] at h; exact absurd rfl h
theorem holdI_no {L : Nat} {fam : List Int} {n x : Int} (h : withinI L n x = false) : holdI L (fam ++ [n]) x = holdI L fam x := by
  unfold holdI
  rw [List.any_append]
  simp [h]
theorem holdI_yes {L : Nat} {fam : List Int} {n x : Int} (h : withinI L n x = true) : holdI L (fam ++ [n]) x = 1 := by
  unfold holdI
  rw [List.any_append]
  simp [h]
theorem sizesL_get {L M : Nat} {x : Int} (h0 : 0 ≤ x) (h1 : x < (M : Int)) : (sizesL L M).getD x.toNat 0 = (bits L x.toNat : Int) := by
  unfold sizesL
  rw [List.getD_eq_getElem?_getD, List.getElem?_map, List.getElem?_range (by omega)]
  rfl
theorem sizesL_len (L M : Nat) : (sizesL L M).length = M := by simp [sizesL]
theorem word_len (L x : Nat) : (word L x).length = L := by
  unfold word
  show (((List.range L).map _).toArray).size = L
  rw [List.size_toArray, List.length_map, List.length_range]
theorem lev_at {L M : Nat} (h : Lm L M) {y x : Nat} (hy : y < M) (hx : x < M) : levOk L y x = true := by
  rcases h with ⟨rfl, rfl⟩ | ⟨rfl, rfl⟩
  · exact List.all_eq_true.mp (List.all_eq_true.mp levOk3 y (List.mem_range.mpr hy)) x (List.mem_range.mpr hx)
  · exact List.all_eq_true.mp (List.all_eq_true.mp levOk4 y (List.mem_range.mpr hy)) x (List.mem_range.mpr hx)
theorem bits_le4 : ((List.range 16).all fun x => decide (bits 4 x ≤ 4)) = true := by decide +kernel
theorem bits_le3 : ((List.range 8).all fun x => decide (bits 3 x ≤ 3)) = true := by decide +kernel
theorem bits_le {L M : Nat} (h : Lm L M) {x : Nat} (hx : x < M) : bits L x ≤ 4 := by
  rcases h with ⟨rfl, rfl⟩ | ⟨rfl, rfl⟩
  · have := of_decide_eq_true (List.all_eq_true.mp bits_le3 x (List.mem_range.mpr hx)); omega
  · have := of_decide_eq_true (List.all_eq_true.mp bits_le4 x (List.mem_range.mpr hx)); omega
noncomputable def fewer (L M : Nat) : Bool := (List.range M).all fun y => (List.range M).all fun x => !within L y x || decide (bits L y ≤ bits L x)
theorem fewer_ok : fewer 3 8 = true ∧ fewer 4 16 = true := by constructor <;> decide +kernel
theorem few_at {L M : Nat} (h : Lm L M) {y x : Nat} (hy : y < M) (hx : x < M) (hb : bits L x < bits L y) : within L y x = false := by
  have key : fewer L M = true := by
    rcases h with ⟨rfl, rfl⟩ | ⟨rfl, rfl⟩
    · exact fewer_ok.1
    · exact fewer_ok.2
  have := List.all_eq_true.mp (List.all_eq_true.mp key y (List.mem_range.mpr hy)) x (List.mem_range.mpr hx)
  cases e : within L y x with
  | false => rfl
  | true =>
    rw [e] at this
    have h2 : bits L y ≤ bits L x := by simpa using this
    omega
section
variable {L M : Nat} {y x : Int}
theorem no_few (h : Lm L M) (hy0 : 0 ≤ y) (hy1 : y < (M : Int)) (hx0 : 0 ≤ x) (hx1 : x < (M : Int)) (hm : ¬ 0 ≤ (sizesL L M).getD x.toNat 0 - (sizesL L M).getD y.toNat 0) : withinI L y x = false := by
  rw [sizesL_get hx0 hx1, sizesL_get hy0 hy1] at hm
  exact few_at h (by omega) (by omega) (by omega)
theorem lev_say (h : Lm L M) (hy0 : 0 ≤ y) (hy1 : y < (M : Int)) (hx0 : 0 ≤ x) (hx1 : x < (M : Int)) (hm : 0 ≤ (sizesL L M).getD x.toNat 0 - (sizesL L M).getD y.toNat 0) :
    (levF (word L y.toNat) (word L x.toNat) ((sizesL L M).getD x.toNat 0 - (sizesL L M).getD y.toNat 0) = (sizesL L M).getD x.toNat 0 - (sizesL L M).getD y.toNat 0) ↔ withinI L y x = true := by
  rw [sizesL_get hx0 hx1, sizesL_get hy0 hy1] at *
  have k := lev_at h (y := y.toNat) (x := x.toNat) (by omega) (by omega)
  unfold levOk at k
  rcases Bool.or_eq_true_iff.mp k with k | k
  · have := of_decide_eq_true k; omega
  · have e := beq_iff_eq.mp k
    unfold withinI
    rw [← e]
    exact decide_eq_true_iff.symm
theorem no_lev (h : Lm L M) (hy0 : 0 ≤ y) (hy1 : y < (M : Int)) (hx0 : 0 ≤ x) (hx1 : x < (M : Int)) (hm : 0 ≤ (sizesL L M).getD x.toNat 0 - (sizesL L M).getD y.toNat 0)
    (hl : ¬ levF (word L y.toNat) (word L x.toNat) ((sizesL L M).getD x.toNat 0 - (sizesL L M).getD y.toNat 0) = (sizesL L M).getD x.toNat 0 - (sizesL L M).getD y.toNat 0) : withinI L y x = false := by
  cases e : withinI L y x with
  | false => rfl
  | true => exact absurd ((lev_say h hy0 hy1 hx0 hx1 hm).mpr e) hl
end
theorem more_le {L M : Nat} {y x : Int} (h : Lm L M) (hy0 : 0 ≤ y) (hy1 : y < (M : Int)) (hx0 : 0 ≤ x) (hx1 : x < (M : Int)) : (sizesL L M).getD x.toNat 0 - (sizesL L M).getD y.toNat 0 ≤ 4 := by
  rw [sizesL_get hx0 hx1, sizesL_get hy0 hy1]
  have := bits_le h (x := x.toNat) (by omega)
  omega

theorem find_map {K : Type} [DecidableEq K] (k k' : K) (v : Value) : ∀ kvs : List (K × Value), valueAt (kvs.map fun kv => if kv.1 = k then (kv.1, v) else kv) k' = if k' = k then (if (kvs.any fun kv => decide (kv.1 = k)) = true then some v else none) else valueAt kvs k'
  | [] => by unfold valueAt; simp
  | kv :: r => by
    have ih := find_map k k' v r
    unfold valueAt at *
    rw [List.map_cons, List.find?_cons, List.find?_cons, List.any_cons]
    by_cases h1 : kv.1 = k
    · simp only [h1, if_true]
      by_cases h2 : k = k'
      · simp [h2]
      · simp only [h2, decide_false]
        rw [ih]
        simp [Ne.symm h2, h1, h2]
    · simp only [h1, if_false]
      by_cases h2 : kv.1 = k'
      · have : ¬ k' = k := fun e => h1 (h2.trans e)
        simp [h2, this]
      · simp only [h2, decide_false, h1, Bool.false_or]
        rw [ih]
theorem valueAt_app {K : Type} [DecidableEq K] (k k' : K) (v : Value) (kvs : List (K × Value)) : valueAt (kvs ++ [(k, v)]) k' = (valueAt kvs k').or (if k = k' then some v else none) := by
  unfold valueAt
  rw [List.find?_append, Option.map_or]
  congr 1
  by_cases h : k = k' <;> simp [h]
theorem valueAt_stored {K : Type} [DecidableEq K] (kvs : List (K × Value)) (k k' : K) (v : Value) : valueAt (stored kvs k v) k' = if k' = k then some v else valueAt kvs k' := by
  unfold stored
  cases e : kvs.any (fun kv => decide (kv.1 = k)) with
  | true =>
    rw [if_pos rfl, find_map, e]
    simp
  | false =>
    rw [if_neg (by decide), valueAt_app]
    by_cases h : k' = k
    · subst h
      have : valueAt kvs k' = none := by
        unfold valueAt
        rw [Option.map_eq_none_iff, List.find?_eq_none]
        intro p hp hq
        have := List.any_eq_false.mp e p hp
        exact this hq
      rw [this]; simp
    · rw [if_neg h, if_neg (fun e => h e.symm)]
      simp
theorem stored_len_old {K : Type} [DecidableEq K] {kvs : List (K × Value)} {k : K} {v u : Value} (h : valueAt kvs k = some u) : (stored kvs k v).length = kvs.length := by
  unfold stored
  cases e : kvs.any (fun kv => decide (kv.1 = k)) with
  | true => simp
  | false =>
    exfalso
    unfold valueAt at h
    cases f : kvs.find? (fun kv => decide (kv.1 = k)) with
    | none => rw [f] at h; cases h
    | some p =>
      have := List.any_eq_false.mp e p (List.mem_of_find?_eq_some f)
      exact this (by have := List.find?_some f; exact this)
noncomputable def ToldOK (L : Nat) (fam : List Int) (kvs : List (Int × Value)) : Prop := ∀ k v, valueAt kvs k = some v → ∃ t, v = .int (holdI L fam k) t
theorem mem_in {x p : Addr × Obj} {r o : List (Addr × Obj)} (h : p ∈ r) : p ∈ x :: (r ++ o) := List.mem_cons_of_mem _ (List.mem_append_left _ h)
theorem mem_in0 {x p : Addr × Obj} {r : List (Addr × Obj)} (h : p ∈ r) : p ∈ x :: r := List.mem_cons_of_mem _ h
section
variable {prog : Program} {w : World} {A : Around} {E : Value → Shared → Prop} {s : Shared} {h₀ : Heap} {l : Addr} {m : Str → Option Value} {news : List (Addr × Obj)}
theorem my_word {value slice : PySem.Expr} {lw : Addr} {ws : List Value} {nw : Nat} {L M : Nat} {k : Int} {u : Tok} {Q : Value → Shared → Prop} (N : News h₀ l s.heap news) (hm : (lw, listOf ws.toArray nw) ∈ news) (hW : WordsOK L M ws) (h0 : 0 ≤ k) (h1 : k < (M : Int)) (hfit : k < 2 ^ 63)
    (h : ∀ t, Q (.str (word L k.toNat) t) s)
    (hs : subscripted slice false (.ref lw) (.int k u) = operate [.ref lw, .int k u] (getItem (.ref lw) (.int k u)) := by with_unfolding_all rfl) :
    wpAny (model prog w) A (subscriptTail value slice (.ref lw) (.int k u)) Q E s := by
  have hl : s.heap.IsList lw ws.toArray := PySem.IsL.isList (n := nw) (N _ hm).1
  obtain ⟨t, e⟩ := hW.2 k.toNat (by omega)
  exact tail_any hl.typeIs slot_list_getitem.lookup (wpAny_getItem_list hl h0 hfit (by simpa using e) (h t)) hs
theorem my_notin {d : Addr} {o : Obj} {kvs : List (Int × Value)} {k : Int} {t : Tok} {Q : Value → Shared → Prop} (N : News h₀ l s.heap news) (hp : (d, o) ∈ news) (hd : o.IsDictOf (PySem.intKind prog w) kvs) (lo : (d == sysModules) = false) (h : Q (.bool (!(valueAt kvs k).isSome)) { s with toks := s.toks + 1 }) :
    wpAny (model prog w) A (compareOp .NotIn (.int k t) (.ref d)) Q E s := wpAny_notIn_of (intKind_is _ _ _ _) lo (kda_dict N hp hd).mapOf h
theorem my_notinS {d : Addr} {o : Obj} {kvs : List (Int × Value)} {k : Int} {t : Tok} {v : Value} {Q : Value → Shared → Prop} (N : News h₀ l s.heap news) (hp : (d, o) ∈ news) (hd : o.IsDictOf (PySem.intKind prog w) kvs) (lo : (d == sysModules) = false) (hv : valueAt kvs k = some v) (h : Q (.bool false) { s with toks := s.toks + 1 }) :
    wpAny (model prog w) A (compareOp .NotIn (.int k t) (.ref d)) Q E s := my_notin N hp hd lo (by rw [hv]; exact h)
theorem my_notinN {d : Addr} {o : Obj} {kvs : List (Int × Value)} {k : Int} {t : Tok} {Q : Value → Shared → Prop} (N : News h₀ l s.heap news) (hp : (d, o) ∈ news) (hd : o.IsDictOf (PySem.intKind prog w) kvs) (lo : (d == sysModules) = false) (hv : valueAt kvs k = none) (h : Q (.bool true) { s with toks := s.toks + 1 }) :
    wpAny (model prog w) A (compareOp .NotIn (.int k t) (.ref d)) Q E s := my_notin N hp hd lo (by rw [hv]; exact h)
end
theorem take_one {fam : List Int} {i : Nat} {n : Int} (h : fam[i]? = some n) : fam.take (i + 1) = fam.take i ++ [n] := by
  rw [List.take_add_one, h]; rfl
theorem told_end {L : Nat} {fam : List Int} {x : Int} {kvs kvs' : List (Int × Value)} {tv : Tok} (hT : ToldOK L fam kvs) (hoth : ∀ k, k ≠ x → valueAt kvs' k = valueAt kvs k) (hval : valueAt kvs' x = some (.int (holdI L fam x) tv)) : ToldOK L fam kvs' := by
  intro k v hk
  by_cases e : k = x
  · subst e
    rw [hval] at hk
    cases hk
    exact ⟨tv, rfl⟩
  · rw [hoth k e] at hk
    exact hT k v hk
noncomputable def comF (x : Int) (l : List Int) : Int := l.foldl (fun c o => if Builtin.bitOr o x = x then Builtin.bitAnd c o else c) x
noncomputable def someF (x : Int) (l : List Int) : Bool := l.any fun o => decide (Builtin.bitOr o x = x)
noncomputable def ordN (k : Int) : Int := ([1, 1, 2, 6] : List Int).getD k.toNat 0
noncomputable def dueI (L : Nat) (fam : List Int) (x : Int) : Int := if someF x fam = true then cntI (comF x fam) * ordN (cntI x - 1) * ordN ((L : Int) - cntI x) else 0
theorem comF_yes {x : Int} {l : List Int} {o : Int} (h : Builtin.bitOr o x = x) : comF x (l ++ [o]) = Builtin.bitAnd (comF x l) o := by
  unfold comF
  rw [List.foldl_append]
  exact if_pos h
theorem comF_no {x : Int} {l : List Int} {o : Int} (h : ¬ Builtin.bitOr o x = x) : comF x (l ++ [o]) = comF x l := by
  unfold comF
  rw [List.foldl_append]
  exact if_neg h
theorem someF_yes {x : Int} {l : List Int} {o : Int} (h : Builtin.bitOr o x = x) : someF x (l ++ [o]) = true := by
  unfold someF
  rw [List.any_append]
  simp [h]
theorem someF_no {x : Int} {l : List Int} {o : Int} (h : ¬ Builtin.bitOr o x = x) : someF x (l ++ [o]) = someF x l := by
  unfold someF
  rw [List.any_append]
  simp [h]
theorem and_tab : ∀ c o : Fin 16, 0 ≤ Builtin.bitAnd (c.val : Int) (o.val : Int) ∧ Builtin.bitAnd (c.val : Int) (o.val : Int) < 16 := by decide +kernel
theorem and_bound {c o : Int} (h0 : 0 ≤ c) (h1 : c < 16) (g0 : 0 ≤ o) (g1 : o < 16) : 0 ≤ Builtin.bitAnd c o ∧ Builtin.bitAnd c o < 16 := by
  have := and_tab ⟨c.toNat, by omega⟩ ⟨o.toNat, by omega⟩
  simp only [Int.toNat_of_nonneg h0, Int.toNat_of_nonneg g0] at this
  exact this
theorem com_bound {x : Int} (h0 : 0 ≤ x) (h1 : x < 16) : ∀ (l : List Int), (∀ y ∈ l, 0 ≤ y ∧ y < 16) → ∀ c, 0 ≤ c → c < 16 → 0 ≤ l.foldl (fun c o => if Builtin.bitOr o x = x then Builtin.bitAnd c o else c) c ∧ l.foldl (fun c o => if Builtin.bitOr o x = x then Builtin.bitAnd c o else c) c < 16
  | [], _, c, c0, c1 => ⟨c0, c1⟩
  | o :: r, h, c, c0, c1 => by
    rw [List.foldl_cons]
    have ho := h o (List.mem_cons_self ..)
    have hr : ∀ y ∈ r, 0 ≤ y ∧ y < 16 := fun y hy => h y (List.mem_cons_of_mem _ hy)
    by_cases e : Builtin.bitOr o x = x
    · rw [if_pos e]
      have := and_bound c0 c1 ho.1 ho.2
      exact com_bound h0 h1 r hr _ this.1 this.2
    · rw [if_neg e]
      exact com_bound h0 h1 r hr _ c0 c1
theorem cnt_tab : ∀ c : Fin 16, 0 ≤ cntI (c.val : Int) ∧ cntI (c.val : Int) ≤ 4 ∧ (1 ≤ c.val → 1 ≤ cntI (c.val : Int)) ∧ (c.val < 8 → cntI (c.val : Int) ≤ 3) := by decide +kernel
theorem cnt_bound {c : Int} (h0 : 0 ≤ c) (h1 : c < 16) : 0 ≤ cntI c ∧ cntI c ≤ 4 ∧ (1 ≤ c → 1 ≤ cntI c) ∧ (c < 8 → cntI c ≤ 3) := by
  have := cnt_tab ⟨c.toNat, by omega⟩
  simp only [Int.toNat_of_nonneg h0] at this
  exact ⟨this.1, this.2.1, fun h => this.2.2.1 (by omega), fun h => this.2.2.2 (by omega)⟩
theorem ord_tab : ∀ k : Fin 4, 0 ≤ ordN (k.val : Int) ∧ ordN (k.val : Int) ≤ 6 := by decide +kernel
theorem ord_bound {k : Int} (h0 : 0 ≤ k) (h1 : k < 4) : 0 ≤ ordN k ∧ ordN k ≤ 6 := by
  have := ord_tab ⟨k.toNat, by omega⟩
  simp only [Int.toNat_of_nonneg h0] at this
  exact this
theorem ord_sub {prog : Program} {w : World} {A : Around} {E : Value → Shared → Prop} {s : Shared} {h₀ : Heap} {l : Addr} {news : List (Addr × Obj)} {value slice : PySem.Expr} {D : Addr} {n : Nat} {t1 t2 t3 t4 : Tok} {k : Int} {u : Tok} {Q : Value → Shared → Prop} (N : News h₀ l s.heap news)
    (hm : (D, listOf #[.int 1 t1, .int 1 t2, .int 2 t3, .int 6 t4] n) ∈ news) (h0 : 0 ≤ k) (h1 : k < 4) (h : ∀ t, 0 ≤ ordN k → ordN k ≤ 6 → Q (.int (ordN k) t) s)
    (hs : subscripted slice false (.ref D) (.int k u) = operate [.ref D, .int k u] (getItem (.ref D) (.int k u)) := by with_unfolding_all rfl) :
    wpAny (model prog w) A (subscriptTail value slice (.ref D) (.int k u)) Q E s :=
  ksa_sub (vs := [.int 1 t1, .int 1 t2, .int 2 t3, .int 6 t4]) (ns := [1, 1, 2, 6]) N hm (.cons _ _ (.cons _ _ (.cons _ _ (.cons _ _ .nil)))) h0 (by simpa using h1) (by omega) (fun t => h t (ord_bound h0 h1).1 (ord_bound h0 h1).2) hs
end

/- C7 -/
section
open PySem PySem.W PyProof.Rows PySem.Spec
set_option maxRecDepth 100000
set_option maxHeartbeats 4000000

section

noncomputable def HolJ (w : World) (L : Nat) (fam : List Int) (x : Int) (kvs : List (Int × Value)) (lw ls ld : Addr) (rest : List (Addr × Obj)) (i : Nat) (m : Str → Option Value) (nx : List (Addr × Obj)) : Prop :=
  ∃ od' kvs' tv tx, nx = (ld, od') :: rest ∧ Obj.IsDictOf (PySem.intKind PySem.Challenge.rw_sw0045_01.row.prog w) od' kvs' ∧ (∀ k, k ≠ x → valueAt kvs' k = valueAt kvs k) ∧ valueAt kvs' x = some (.int (holdI L (fam.take i) x) tv) ∧ kvs'.length ≤ kvs.length + 1 ∧
    m (Str.ofString "x") = some (.int x tx) ∧ m (Str.ofString "words") = some (.ref lw) ∧ m (Str.ofString "sizes") = some (.ref ls) ∧ m (Str.ofString "told") = some (.ref ld)

theorem c_holds {w : World} {mean : ExcName → Option Value} {mg mb : Str → Option Value} {L M : Nat} (hLM : Lm L M) {lf lw ls ld : Addr} {vf ws zs : List Value} {fam : List Int} {nf nw ns : Nat} {od : Obj} {kvs : List (Int × Value)} {rest : List (Addr × Obj)} {x : Int} {t : Tok} (hx0 : 0 ≤ x) (hx1 : x < (M : Int))
    (hmF : (lf, listOf vf.toArray nf) ∈ rest) (hmW : (lw, listOf ws.toArray nw) ∈ rest) (hmS : (ls, listOf zs.toArray ns) ∈ rest) (hoff : ∀ p ∈ rest, p.1 ≠ ld) (hmod : (ld == sysModules) = false)
    (hF : IntsAre vf fam) (hfam : ∀ y ∈ fam, 1 ≤ y ∧ y < (M : Int)) (hfl : fam.length ≤ 3) (hW : WordsOK L M ws) (hS : IntsAre zs (sizesL L M)) (hd : od.IsDictOf (PySem.intKind PySem.Challenge.rw_sw0045_01.row.prog w) kvs) (hT : ToldOK L fam kvs) (hlen : kvs.length ≤ 1000) :
    Cl w mean mg mb 137 3 24 ((ld, od) :: rest) [.int x t, .ref lf, .ref lw, .ref ls, .ref ld] (fun v news' => (∃ t', v = .int (holdI L fam x) t') ∧ ∃ od' kvs', news' = (ld, od') :: rest ∧ od'.IsDictOf (PySem.intKind PySem.Challenge.rw_sw0045_01.row.prog w) kvs' ∧ ToldOK L fam kvs' ∧ kvs'.length ≤ kvs.length + 1) := by
  w_top off
  unfold Cl
  k_fill
  intro dp un gd cn cs a' ccd cl outer A₀ base h₀ Lc m s Q E B F X N T hk hdp hu hret
  obtain ⟨loo, T⟩ := T
  have kMark : KstMark := kstMark
  have hLM' := hLM
  unfold Lm at hLM'
  refine wpAny_call ?_
  k_dflt ((refine' code_def ?k1 ?k2 ?k3 ?k4 ?k5 ?kA ?kF ?kK ?k6 ?k7 ?k8 ?k9 ?kB ?_ ?c2 ?c3 ?c4 ?c5; (case kA => exact rfl); (case kF => exact rfl); (case kK => first | exact rfl | assumption); (case k1 => k_asm); (case k2 => k_asm); (case k3 => k_asm); (case k4 => k_asm); (case k5 => k_asm); (case k6 => k_is); (case k7 => k_is); (case k8 => ktr_room); (case k9 => (first | exact BindsTo.of_eq rfl | (refine' kp_binds ?kx ?ke; (case kx => k_in); (case ke => exact fun _ => rfl)))); (case c5 => decide); (case kB => exact locs rfl); (case c2 => exact rfl); (case c3 => exact rfl); (case c4 => exact rfl); k_whole; intro g' L' h' FG' F' N' B' X' T'; (try dsimp only); (try k_lift B'); (try k_fold)))
  cases hv : valueAt kvs x with
  | some v0 =>
    obtain ⟨t0, rfl⟩ := hT x v0 hv
    repeat' ((fail_if_success (with_reducible show wpAny _ _ (PySem.exec (PySem.Stmt.For _ _ _ _ _) _) _ _ _)); (fail_if_success (with_reducible show wpAny _ _ (PySem.exec (PySem.Stmt.While _ _ _ _) _) _ _ _)); (fail_if_success (with_reducible show wpAny _ _ (PySem.pyIter _) _ _ _)); first | (k_here; (with_reducible show wpAny _ _ (PySem.call (Value.ref 28) [_, _, _]) _ _ _); k_dflt (refine' cl_use (c_lev ?ha ?hb ?hc ?hd) ?k1 ?k2 ?k3 ?k4 ?k5 ?kK ?kd ?ku ?_; (case k1 => k_asm); (case k2 => k_asm); (case k3 => k_asm); (case k4 => k_asm); (case k5 => k_asm); (case kK => first | exact rfl | assumption); (case kd => ktr_room); (case ku => ktr_units); (case ha => (rw [word_len, word_len])); (case hb => (rw [word_len]; omega)); (case hc => assumption); (case hd => exact more_le hLM (by omega) (by omega) (by omega) (by omega)); k_whole); intro v9 nw9 h9 tk9 F9 N9 P9; (obtain ⟨e8, t8, e9⟩ := P9); subst e8; subst e9; (try dsimp only); (try k_fold)) | ((with_reducible show wpAny _ _ (PySem.setItem (Value.ref _) (Value.int _ _) _) _ _ _); (k_here; k_dflt (refine' kda_set ?F ?N (UpdF.head ?U) ?d (intKind_is _ _ _ _) ?z ?_; (case F => k_asm); (case N => k_asm); (case U => k_asm); (case d => k_asm); (case z => (rw [sizeLine_eq]; omega))); intro h' o' F' N' hd'; (try dsimp only at N'))) | ((with_reducible show wpAny _ _ (subscriptTail (Expr.Name _ _) (Expr.Name _ _) (Value.ref _) (Value.int _ _)) _ _ _); (k_here; k_dflt (refine kda_item (by k_asm) (.head _) (by k_asm) (intKind_is _ _ _ _) (by k_asm) ?_))) | ((with_reducible show wpAny _ _ (subscriptTail (Expr.Name _ _) (Expr.Name _ _) (Value.ref _) (Value.int _ _)) _ _ _); (k_here; k_dflt (refine' ksa_sub ?k1 ?k2 ?k3 ?k4 ?k5 ?k6 ?_ ?k7; (case k1 => k_asm); (case k2 => exact mem_in hmS); (case k3 => exact hS); (case k4 => omega); (case k5 => (rw [sizesL_len]; omega)); (case k6 => omega); (case k7 => with_unfolding_all rfl); k_whole); intro _)) | ((with_reducible show wpAny _ _ (subscriptTail (Expr.Name _ _) (Expr.Name _ _) (Value.ref _) (Value.int _ _)) _ _ _); (k_here; k_dflt (refine' my_word ?k1 ?k2 ?k3 ?k4 ?k5 ?k6 ?_ ?k7; (case k1 => k_asm); (case k2 => exact mem_in hmW); (case k3 => exact hW); (case k4 => omega); (case k5 => omega); (case k6 => omega); (case k7 => with_unfolding_all rfl); k_whole); intro _)) | ((with_reducible show wpAny _ _ (PySem.compareOp _ (Value.int _ _) (Value.ref _)) _ _ _); (k_here; k_dflt (first | refine my_notinS (by k_asm) (.head _) (by k_asm) (by k_asm) (by assumption) ?_ | refine my_notinN (by k_asm) (.head _) (by k_asm) (by k_asm) (by assumption) ?_))) | (k_here; (with_reducible show wpAny _ _ (PySem.call (Value.ref _) _) _ _ _); (refine wpAny_call ?_); k_dflt ((refine' code_def ?k1 ?k2 ?k3 ?k4 ?k5 ?kA ?kF ?kK ?k6 ?k7 ?k8 ?k9 ?kB ?_ ?c2 ?c3 ?c4 ?c5; (case kA => exact rfl); (case kF => exact rfl); (case kK => first | exact rfl | assumption); (case k1 => k_asm); (case k2 => k_asm); (case k3 => k_asm); (case k4 => k_asm); (case k5 => k_asm); (case k6 => k_is); (case k7 => k_is); (case k8 => ktr_room); (case k9 => (first | exact BindsTo.of_eq rfl | (refine' kp_binds ?kx ?ke; (case kx => k_in); (case ke => exact fun _ => rfl)))); (case c5 => decide); (case kB => exact locs rfl); (case c2 => exact rfl); (case c3 => exact rfl); (case c4 => exact rfl); k_whole; intro g' L' h' FG' F' N' B' X' T'; (try dsimp only); (try k_lift B'); (try k_fold)))) | (k_unfold; (try dsimp only)) | (k_end; wrow_close) | walk1 | (dsimp only; walk1) | (leave1; walk_say "STEP leave1"; try dsimp only))
    exact ret_end hret _ (by assumption) (by assumption) ⟨⟨_, rfl⟩, od, kvs, rfl, hd, hT, by omega⟩
  | none =>
    repeat' ((fail_if_success (with_reducible show wpAny _ _ (PySem.exec (PySem.Stmt.For _ _ _ _ _) _) _ _ _)); (fail_if_success (with_reducible show wpAny _ _ (PySem.exec (PySem.Stmt.While _ _ _ _) _) _ _ _)); (fail_if_success (with_reducible show wpAny _ _ (PySem.pyIter _) _ _ _)); first | (k_here; (with_reducible show wpAny _ _ (PySem.call (Value.ref 28) [_, _, _]) _ _ _); k_dflt (refine' cl_use (c_lev ?ha ?hb ?hc ?hd) ?k1 ?k2 ?k3 ?k4 ?k5 ?kK ?kd ?ku ?_; (case k1 => k_asm); (case k2 => k_asm); (case k3 => k_asm); (case k4 => k_asm); (case k5 => k_asm); (case kK => first | exact rfl | assumption); (case kd => ktr_room); (case ku => ktr_units); (case ha => (rw [word_len, word_len])); (case hb => (rw [word_len]; omega)); (case hc => assumption); (case hd => exact more_le hLM (by omega) (by omega) (by omega) (by omega)); k_whole); intro v9 nw9 h9 tk9 F9 N9 P9; (obtain ⟨e8, t8, e9⟩ := P9); subst e8; subst e9; (try dsimp only); (try k_fold)) | ((with_reducible show wpAny _ _ (PySem.setItem (Value.ref _) (Value.int _ _) _) _ _ _); (k_here; k_dflt (refine' kda_set ?F ?N (UpdF.head ?U) ?d (intKind_is _ _ _ _) ?z ?_; (case F => k_asm); (case N => k_asm); (case U => k_asm); (case d => k_asm); (case z => (rw [sizeLine_eq]; omega))); intro h' o' F' N' hd'; (try dsimp only at N'))) | ((with_reducible show wpAny _ _ (subscriptTail (Expr.Name _ _) (Expr.Name _ _) (Value.ref _) (Value.int _ _)) _ _ _); (k_here; k_dflt (refine kda_item (by k_asm) (.head _) (by k_asm) (intKind_is _ _ _ _) (by k_asm) ?_))) | ((with_reducible show wpAny _ _ (subscriptTail (Expr.Name _ _) (Expr.Name _ _) (Value.ref _) (Value.int _ _)) _ _ _); (k_here; k_dflt (refine' ksa_sub ?k1 ?k2 ?k3 ?k4 ?k5 ?k6 ?_ ?k7; (case k1 => k_asm); (case k2 => exact mem_in hmS); (case k3 => exact hS); (case k4 => omega); (case k5 => (rw [sizesL_len]; omega)); (case k6 => omega); (case k7 => with_unfolding_all rfl); k_whole); intro _)) | ((with_reducible show wpAny _ _ (subscriptTail (Expr.Name _ _) (Expr.Name _ _) (Value.ref _) (Value.int _ _)) _ _ _); (k_here; k_dflt (refine' my_word ?k1 ?k2 ?k3 ?k4 ?k5 ?k6 ?_ ?k7; (case k1 => k_asm); (case k2 => exact mem_in hmW); (case k3 => exact hW); (case k4 => omega); (case k5 => omega); (case k6 => omega); (case k7 => with_unfolding_all rfl); k_whole); intro _)) | ((with_reducible show wpAny _ _ (PySem.compareOp _ (Value.int _ _) (Value.ref _)) _ _ _); (k_here; k_dflt (first | refine my_notinS (by k_asm) (.head _) (by k_asm) (by k_asm) (by assumption) ?_ | refine my_notinN (by k_asm) (.head _) (by k_asm) (by k_asm) (by assumption) ?_))) | (k_here; (with_reducible show wpAny _ _ (PySem.call (Value.ref _) _) _ _ _); (refine wpAny_call ?_); k_dflt ((refine' code_def ?k1 ?k2 ?k3 ?k4 ?k5 ?kA ?kF ?kK ?k6 ?k7 ?k8 ?k9 ?kB ?_ ?c2 ?c3 ?c4 ?c5; (case kA => exact rfl); (case kF => exact rfl); (case kK => first | exact rfl | assumption); (case k1 => k_asm); (case k2 => k_asm); (case k3 => k_asm); (case k4 => k_asm); (case k5 => k_asm); (case k6 => k_is); (case k7 => k_is); (case k8 => ktr_room); (case k9 => (first | exact BindsTo.of_eq rfl | (refine' kp_binds ?kx ?ke; (case kx => k_in); (case ke => exact fun _ => rfl)))); (case c5 => decide); (case kB => exact locs rfl); (case c2 => exact rfl); (case c3 => exact rfl); (case c4 => exact rfl); k_whole; intro g' L' h' FG' F' N' B' X' T'; (try dsimp only); (try k_lift B'); (try k_fold)))) | (k_unfold; (try dsimp only)) | (k_end; wrow_close) | walk1 | (dsimp only; walk1) | (leave1; walk_say "STEP leave1"; try dsimp only))
    rename Obj.IsDictOf _ _ (stored kvs x _) => hd1
    k_here
    (rename Fr _ _ _ _ => lF')
    (with_unfolding_all refine' For_invVF lF' ?k1 ?k2 ?_)
    (case k1 => exact rfl)
    (case k2 => exact rfl)
    k_whole
    repeat' ((fail_if_success (with_reducible show wpAny _ _ (PySem.exec (PySem.Stmt.For _ _ _ _ _) _) _ _ _)); (fail_if_success (with_reducible show wpAny _ _ (PySem.exec (PySem.Stmt.While _ _ _ _) _) _ _ _)); (fail_if_success (with_reducible show wpAny _ _ (PySem.pyIter _) _ _ _)); first | (k_here; (with_reducible show wpAny _ _ (PySem.call (Value.ref 28) [_, _, _]) _ _ _); k_dflt (refine' cl_use (c_lev ?ha ?hb ?hc ?hd) ?k1 ?k2 ?k3 ?k4 ?k5 ?kK ?kd ?ku ?_; (case k1 => k_asm); (case k2 => k_asm); (case k3 => k_asm); (case k4 => k_asm); (case k5 => k_asm); (case kK => first | exact rfl | assumption); (case kd => ktr_room); (case ku => ktr_units); (case ha => (rw [word_len, word_len])); (case hb => (rw [word_len]; omega)); (case hc => assumption); (case hd => exact more_le hLM (by omega) (by omega) (by omega) (by omega)); k_whole); intro v9 nw9 h9 tk9 F9 N9 P9; (obtain ⟨e8, t8, e9⟩ := P9); subst e8; subst e9; (try dsimp only); (try k_fold)) | ((with_reducible show wpAny _ _ (PySem.setItem (Value.ref _) (Value.int _ _) _) _ _ _); (k_here; k_dflt (refine' kda_set ?F ?N (UpdF.head ?U) ?d (intKind_is _ _ _ _) ?z ?_; (case F => k_asm); (case N => k_asm); (case U => k_asm); (case d => k_asm); (case z => (rw [sizeLine_eq]; omega))); intro h' o' F' N' hd'; (try dsimp only at N'))) | ((with_reducible show wpAny _ _ (subscriptTail (Expr.Name _ _) (Expr.Name _ _) (Value.ref _) (Value.int _ _)) _ _ _); (k_here; k_dflt (refine kda_item (by k_asm) (.head _) (by k_asm) (intKind_is _ _ _ _) (by k_asm) ?_))) | ((with_reducible show wpAny _ _ (subscriptTail (Expr.Name _ _) (Expr.Name _ _) (Value.ref _) (Value.int _ _)) _ _ _); (k_here; k_dflt (refine' ksa_sub ?k1 ?k2 ?k3 ?k4 ?k5 ?k6 ?_ ?k7; (case k1 => k_asm); (case k2 => exact mem_in hmS); (case k3 => exact hS); (case k4 => omega); (case k5 => (rw [sizesL_len]; omega)); (case k6 => omega); (case k7 => with_unfolding_all rfl); k_whole); intro _)) | ((with_reducible show wpAny _ _ (subscriptTail (Expr.Name _ _) (Expr.Name _ _) (Value.ref _) (Value.int _ _)) _ _ _); (k_here; k_dflt (refine' my_word ?k1 ?k2 ?k3 ?k4 ?k5 ?k6 ?_ ?k7; (case k1 => k_asm); (case k2 => exact mem_in hmW); (case k3 => exact hW); (case k4 => omega); (case k5 => omega); (case k6 => omega); (case k7 => with_unfolding_all rfl); k_whole); intro _)) | ((with_reducible show wpAny _ _ (PySem.compareOp _ (Value.int _ _) (Value.ref _)) _ _ _); (k_here; k_dflt (first | refine my_notinS (by k_asm) (.head _) (by k_asm) (by k_asm) (by assumption) ?_ | refine my_notinN (by k_asm) (.head _) (by k_asm) (by k_asm) (by assumption) ?_))) | (k_here; (with_reducible show wpAny _ _ (PySem.call (Value.ref _) _) _ _ _); (refine wpAny_call ?_); k_dflt ((refine' code_def ?k1 ?k2 ?k3 ?k4 ?k5 ?kA ?kF ?kK ?k6 ?k7 ?k8 ?k9 ?kB ?_ ?c2 ?c3 ?c4 ?c5; (case kA => exact rfl); (case kF => exact rfl); (case kK => first | exact rfl | assumption); (case k1 => k_asm); (case k2 => k_asm); (case k3 => k_asm); (case k4 => k_asm); (case k5 => k_asm); (case k6 => k_is); (case k7 => k_is); (case k8 => ktr_room); (case k9 => (first | exact BindsTo.of_eq rfl | (refine' kp_binds ?kx ?ke; (case kx => k_in); (case ke => exact fun _ => rfl)))); (case c5 => decide); (case kB => exact locs rfl); (case c2 => exact rfl); (case c3 => exact rfl); (case c4 => exact rfl); k_whole; intro g' L' h' FG' F' N' B' X' T'; (try dsimp only); (try k_lift B'); (try k_fold)))) | (k_unfold; (try dsimp only)) | (k_end; wrow_close) | walk1 | (dsimp only; walk1) | (leave1; walk_say "STEP leave1"; try dsimp only))
    refine iter_invNL (HolJ w L fam x kvs lw ls ld rest) rfl (mem_in0 hmF) hF (by assumption) (by assumption) ?_ ?_ ?_
    · exact ⟨_, _, _, _, rfl, hd1, fun k hk => by rw [valueAt_stored, if_neg hk], by rw [valueAt_stored, if_pos rfl]; rfl, stored_length_le _ _ _, rfl, rfl, rfl, rfl⟩
    · rintro i one t1 m1 nx h5 tk5 own hin hadr hoff5 hmem ⟨od5, kvs5, tv, tx, rfl, hd5, hoth, hval, hlen5, e1, e2, e3, e4⟩ F5 N5
      have F6 := fr_under [(Str.ofString "x", .int x tx), (Str.ofString "words", .ref lw), (Str.ofString "sizes", .ref ls), (Str.ofString "told", .ref ld)] F5 (fm1 e1 (fm1 e2 (fm1 e3 (fm1 e4 fm0))))
      clear F5
      dsimp only [kstB] at F6
      have ho6 := off_app hoff (hoff5.ne (List.mem_cons_self ..))
      rw [List.cons_append] at N5
      obtain ⟨hone1, hone2⟩ := hfam one (List.mem_of_getElem? hin)
      dsimp only at F6 N5 ⊢
      repeat' ((fail_if_success (with_reducible show wpAny _ _ (PySem.exec (PySem.Stmt.For _ _ _ _ _) _) _ _ _)); (fail_if_success (with_reducible show wpAny _ _ (PySem.exec (PySem.Stmt.While _ _ _ _) _) _ _ _)); (fail_if_success (with_reducible show wpAny _ _ (PySem.pyIter _) _ _ _)); first | (k_here; (with_reducible show wpAny _ _ (PySem.call (Value.ref 28) [_, _, _]) _ _ _); k_dflt (refine' cl_use (c_lev ?ha ?hb ?hc ?hd) ?k1 ?k2 ?k3 ?k4 ?k5 ?kK ?kd ?ku ?_; (case k1 => k_asm); (case k2 => k_asm); (case k3 => k_asm); (case k4 => k_asm); (case k5 => k_asm); (case kK => first | exact rfl | assumption); (case kd => ktr_room); (case ku => ktr_units); (case ha => (rw [word_len, word_len])); (case hb => (rw [word_len]; omega)); (case hc => assumption); (case hd => exact more_le hLM (by omega) (by omega) (by omega) (by omega)); k_whole); intro v9 nw9 h9 tk9 F9 N9 P9; (obtain ⟨e8, t8, e9⟩ := P9); subst e8; subst e9; (try dsimp only); (try k_fold)) | ((with_reducible show wpAny _ _ (PySem.setItem (Value.ref _) (Value.int _ _) _) _ _ _); (k_here; k_dflt (refine' kda_set ?F ?N (UpdF.head ?U) ?d (intKind_is _ _ _ _) ?z ?_; (case F => k_asm); (case N => k_asm); (case U => k_asm); (case d => k_asm); (case z => (rw [sizeLine_eq]; omega))); intro h' o' F' N' hd'; (try dsimp only at N'))) | ((with_reducible show wpAny _ _ (subscriptTail (Expr.Name _ _) (Expr.Name _ _) (Value.ref _) (Value.int _ _)) _ _ _); (k_here; k_dflt (refine kda_item (by k_asm) (.head _) (by k_asm) (intKind_is _ _ _ _) (by k_asm) ?_))) | ((with_reducible show wpAny _ _ (subscriptTail (Expr.Name _ _) (Expr.Name _ _) (Value.ref _) (Value.int _ _)) _ _ _); (k_here; k_dflt (refine' ksa_sub ?k1 ?k2 ?k3 ?k4 ?k5 ?k6 ?_ ?k7; (case k1 => k_asm); (case k2 => exact mem_in hmS); (case k3 => exact hS); (case k4 => omega); (case k5 => (rw [sizesL_len]; omega)); (case k6 => omega); (case k7 => with_unfolding_all rfl); k_whole); intro _)) | ((with_reducible show wpAny _ _ (subscriptTail (Expr.Name _ _) (Expr.Name _ _) (Value.ref _) (Value.int _ _)) _ _ _); (k_here; k_dflt (refine' my_word ?k1 ?k2 ?k3 ?k4 ?k5 ?k6 ?_ ?k7; (case k1 => k_asm); (case k2 => exact mem_in hmW); (case k3 => exact hW); (case k4 => omega); (case k5 => omega); (case k6 => omega); (case k7 => with_unfolding_all rfl); k_whole); intro _)) | ((with_reducible show wpAny _ _ (PySem.compareOp _ (Value.int _ _) (Value.ref _)) _ _ _); (k_here; k_dflt (first | refine my_notinS (by k_asm) (.head _) (by k_asm) (by k_asm) (by assumption) ?_ | refine my_notinN (by k_asm) (.head _) (by k_asm) (by k_asm) (by assumption) ?_))) | (k_here; (with_reducible show wpAny _ _ (PySem.call (Value.ref _) _) _ _ _); (refine wpAny_call ?_); k_dflt ((refine' code_def ?k1 ?k2 ?k3 ?k4 ?k5 ?kA ?kF ?kK ?k6 ?k7 ?k8 ?k9 ?kB ?_ ?c2 ?c3 ?c4 ?c5; (case kA => exact rfl); (case kF => exact rfl); (case kK => first | exact rfl | assumption); (case k1 => k_asm); (case k2 => k_asm); (case k3 => k_asm); (case k4 => k_asm); (case k5 => k_asm); (case k6 => k_is); (case k7 => k_is); (case k8 => ktr_room); (case k9 => (first | exact BindsTo.of_eq rfl | (refine' kp_binds ?kx ?ke; (case kx => k_in); (case ke => exact fun _ => rfl)))); (case c5 => decide); (case kB => exact locs rfl); (case c2 => exact rfl); (case c3 => exact rfl); (case c4 => exact rfl); k_whole; intro g' L' h' FG' F' N' B' X' T'; (try dsimp only); (try k_lift B'); (try k_fold)))) | (k_unfold; (try dsimp only)) | (k_end; wrow_close) | walk1 | (dsimp only; walk1) | (leave1; walk_say "STEP leave1"; try dsimp only))
      · have hw := (lev_say hLM (by omega) hone2 hx0 hx1 (by assumption)).mp (by assumption)
        rename Obj.IsDictOf _ _ (stored kvs5 x _) => hd6
        refine inv_end (_ :: rest) (by assumption) (by assumption) (fun p hp => mem_l hp) (fun p hp => mem_r hp) ?hmap ?hJ
        case hJ => exact ⟨mem_in0 hmF, _, _, _, _, rfl, hd6, fun k hk => by rw [valueAt_stored, if_neg hk]; exact hoth k hk, by rw [valueAt_stored, if_pos rfl, take_one hin, holdI_yes hw], by rw [stored_len_old hval]; exact hlen5, rfl, rfl, rfl, rfl⟩
        case hmap => rfl
      · have hw := no_lev hLM (by omega) hone2 hx0 hx1 (by assumption) (by assumption)
        refine inv_end (_ :: rest) (by assumption) (by assumption) (fun p hp => mem_l hp) (fun p hp => mem_r hp) ?hmap ?hJ
        case hJ => exact ⟨mem_in0 hmF, _, _, _, _, rfl, hd5, hoth, by rw [take_one hin, holdI_no hw]; exact hval, hlen5, rfl, rfl, rfl, rfl⟩
        case hmap => rfl
      · have hw := no_few hLM (by omega) hone2 hx0 hx1 (by assumption)
        refine inv_end (_ :: rest) (by assumption) (by assumption) (fun p hp => mem_l hp) (fun p hp => mem_r hp) ?hmap ?hJ
        case hJ => exact ⟨mem_in0 hmF, _, _, _, _, rfl, hd5, hoth, by rw [take_one hin, holdI_no hw]; exact hval, hlen5, rfl, rfl, rfl, rfl⟩
        case hmap => rfl
      · refine inv_end (_ :: rest) (by assumption) (by assumption) (fun p hp => mem_l hp) (fun p hp => mem_r hp) ?hmap ?hJ
        case hJ => exact ⟨mem_in0 hmF, _, _, _, _, rfl, hd5, hoth, by rw [take_one hin, holdI_old (by assumption)]; exact hval, hlen5, rfl, rfl, rfl, rfl⟩
        case hmap => rfl
    · rintro m1 nx h5 tk5 hmem ⟨od5, kvs5, tv, tx, rfl, hd5, hoth, hval, hlen5, e1, e2, e3, e4⟩ F5 N5
      have F6 := fr_known [(Str.ofString "x", .int x tx), (Str.ofString "told", .ref ld)] F5 (fm1 e1 (fm1 e4 fm0))
      clear F5
      dsimp only [kstB] at F6
      dsimp only at F6 N5 ⊢
      rw [List.take_length] at hval
      repeat' ((fail_if_success (with_reducible show wpAny _ _ (PySem.exec (PySem.Stmt.For _ _ _ _ _) _) _ _ _)); (fail_if_success (with_reducible show wpAny _ _ (PySem.exec (PySem.Stmt.While _ _ _ _) _) _ _ _)); (fail_if_success (with_reducible show wpAny _ _ (PySem.pyIter _) _ _ _)); first | (k_here; (with_reducible show wpAny _ _ (PySem.call (Value.ref 28) [_, _, _]) _ _ _); k_dflt (refine' cl_use (c_lev ?ha ?hb ?hc ?hd) ?k1 ?k2 ?k3 ?k4 ?k5 ?kK ?kd ?ku ?_; (case k1 => k_asm); (case k2 => k_asm); (case k3 => k_asm); (case k4 => k_asm); (case k5 => k_asm); (case kK => first | exact rfl | assumption); (case kd => ktr_room); (case ku => ktr_units); (case ha => (rw [word_len, word_len])); (case hb => (rw [word_len]; omega)); (case hc => assumption); (case hd => exact more_le hLM (by omega) (by omega) (by omega) (by omega)); k_whole); intro v9 nw9 h9 tk9 F9 N9 P9; (obtain ⟨e8, t8, e9⟩ := P9); subst e8; subst e9; (try dsimp only); (try k_fold)) | ((with_reducible show wpAny _ _ (PySem.setItem (Value.ref _) (Value.int _ _) _) _ _ _); (k_here; k_dflt (refine' kda_set ?F ?N (UpdF.head ?U) ?d (intKind_is _ _ _ _) ?z ?_; (case F => k_asm); (case N => k_asm); (case U => k_asm); (case d => k_asm); (case z => (rw [sizeLine_eq]; omega))); intro h' o' F' N' hd'; (try dsimp only at N'))) | ((with_reducible show wpAny _ _ (subscriptTail (Expr.Name _ _) (Expr.Name _ _) (Value.ref _) (Value.int _ _)) _ _ _); (k_here; k_dflt (refine kda_item (by k_asm) (.head _) (by k_asm) (intKind_is _ _ _ _) (by k_asm) ?_))) | ((with_reducible show wpAny _ _ (subscriptTail (Expr.Name _ _) (Expr.Name _ _) (Value.ref _) (Value.int _ _)) _ _ _); (k_here; k_dflt (refine' ksa_sub ?k1 ?k2 ?k3 ?k4 ?k5 ?k6 ?_ ?k7; (case k1 => k_asm); (case k2 => exact mem_in hmS); (case k3 => exact hS); (case k4 => omega); (case k5 => (rw [sizesL_len]; omega)); (case k6 => omega); (case k7 => with_unfolding_all rfl); k_whole); intro _)) | ((with_reducible show wpAny _ _ (subscriptTail (Expr.Name _ _) (Expr.Name _ _) (Value.ref _) (Value.int _ _)) _ _ _); (k_here; k_dflt (refine' my_word ?k1 ?k2 ?k3 ?k4 ?k5 ?k6 ?_ ?k7; (case k1 => k_asm); (case k2 => exact mem_in hmW); (case k3 => exact hW); (case k4 => omega); (case k5 => omega); (case k6 => omega); (case k7 => with_unfolding_all rfl); k_whole); intro _)) | ((with_reducible show wpAny _ _ (PySem.compareOp _ (Value.int _ _) (Value.ref _)) _ _ _); (k_here; k_dflt (first | refine my_notinS (by k_asm) (.head _) (by k_asm) (by k_asm) (by assumption) ?_ | refine my_notinN (by k_asm) (.head _) (by k_asm) (by k_asm) (by assumption) ?_))) | (k_here; (with_reducible show wpAny _ _ (PySem.call (Value.ref _) _) _ _ _); (refine wpAny_call ?_); k_dflt ((refine' code_def ?k1 ?k2 ?k3 ?k4 ?k5 ?kA ?kF ?kK ?k6 ?k7 ?k8 ?k9 ?kB ?_ ?c2 ?c3 ?c4 ?c5; (case kA => exact rfl); (case kF => exact rfl); (case kK => first | exact rfl | assumption); (case k1 => k_asm); (case k2 => k_asm); (case k3 => k_asm); (case k4 => k_asm); (case k5 => k_asm); (case k6 => k_is); (case k7 => k_is); (case k8 => ktr_room); (case k9 => (first | exact BindsTo.of_eq rfl | (refine' kp_binds ?kx ?ke; (case kx => k_in); (case ke => exact fun _ => rfl)))); (case c5 => decide); (case kB => exact locs rfl); (case c2 => exact rfl); (case c3 => exact rfl); (case c4 => exact rfl); k_whole; intro g' L' h' FG' F' N' B' X' T'; (try dsimp only); (try k_lift B'); (try k_fold)))) | (k_unfold; (try dsimp only)) | (k_end; wrow_close) | walk1 | (dsimp only; walk1) | (leave1; walk_say "STEP leave1"; try dsimp only))
      exact ret_end hret _ (by assumption) (by assumption) ⟨⟨_, rfl⟩, od5, kvs5, rfl, hd5, told_end hT hoth hval, hlen5⟩
end
end

/- C8 -/
section
open PySem PySem.W PyProof.Rows PySem.Spec
set_option maxRecDepth 100000
set_option maxHeartbeats 4000000

section

theorem c_due {w : World} {mean : ExcName → Option Value} {mg mb : Str → Option Value} {L M : Nat} (hLM : Lm L M) {lf : Addr} {vf : List Value} {fam : List Int} {nf : Nat} {news : List (Addr × Obj)} {x : Int} {t t2 : Tok} (hx0 : 1 ≤ x) (hx1 : x < (M : Int))
    (hmF : (lf, listOf vf.toArray nf) ∈ news) (hF : IntsAre vf fam) (hfam : ∀ y ∈ fam, 1 ≤ y ∧ y < (M : Int)) :
    Cl w mean mg mb 151 2 16 news [.int x t, .ref lf, .int (L : Int) t2] (fun v news' => news' = news ∧ (∃ t', v = .int (dueI L fam x) t')) := by
  w_top off
  unfold Cl
  k_fill
  intro dp un gd cn cs a' ccd cl outer A₀ base h₀ Lc m s Q E B F X N T hk hdp hu hret
  obtain ⟨loo, T⟩ := T
  have kMark : KstMark := kstMark
  have hLM' := hLM
  unfold Lm at hLM'
  refine wpAny_call ?_
  k_dflt ((refine' code_def ?k1 ?k2 ?k3 ?k4 ?k5 ?kA ?kF ?kK ?k6 ?k7 ?k8 ?k9 ?kB ?_ ?c2 ?c3 ?c4 ?c5; (case kA => exact rfl); (case kF => exact rfl); (case kK => first | exact rfl | assumption); (case k1 => k_asm); (case k2 => k_asm); (case k3 => k_asm); (case k4 => k_asm); (case k5 => k_asm); (case k6 => k_is); (case k7 => k_is); (case k8 => ktr_room); (case k9 => (first | exact BindsTo.of_eq rfl | (refine' kp_binds ?kx ?ke; (case kx => k_in); (case ke => exact fun _ => rfl)))); (case c5 => decide); (case kB => exact locs rfl); (case c2 => exact rfl); (case c3 => exact rfl); (case c4 => exact rfl); k_whole; intro g' L' h' FG' F' N' B' X' T'; (try dsimp only); (try k_lift B'); (try k_fold)))
  repeat' ((fail_if_success (with_reducible show wpAny _ _ (PySem.exec (PySem.Stmt.For _ _ _ _ _) _) _ _ _)); (fail_if_success (with_reducible show wpAny _ _ (PySem.exec (PySem.Stmt.While _ _ _ _) _) _ _ _)); (fail_if_success (with_reducible show wpAny _ _ (PySem.pyIter _) _ _ _)); first | ((with_reducible show wpAny _ _ (subscriptTail (Expr.Name _ _) (Expr.BinOp _ _ _ _) (Value.ref _) (Value.int _ _)) _ _ _); (k_here; k_dflt (refine' ord_sub ?k1 ?k2 ?k3 ?k4 ?_ ?k7; (case k1 => k_asm); (case k2 => exact .head _); (case k3 => omega); (case k4 => omega); (case k7 => with_unfolding_all rfl); k_whole); intro _ _ _)) | (k_here; (with_reducible show wpAny _ _ (PySem.call (Value.ref 144) [_]) _ _ _); k_dflt (refine' cl_use (c_count _ _ ?ha ?hb) ?k1 ?k2 ?k3 ?k4 ?k5 ?kK ?kd ?ku ?_; (case k1 => k_asm); (case k2 => k_asm); (case k3 => k_asm); (case k4 => k_asm); (case k5 => k_asm); (case kK => first | exact rfl | assumption); (case kd => ktr_room); (case ku => ktr_units); (case ha => omega); (case hb => omega); k_whole); intro v9 nw9 h9 tk9 F9 N9 P9; (obtain ⟨e8, t8, e9⟩ := P9); subst e8; subst e9; (try dsimp only); (try k_fold)) | (k_unfold; (try dsimp only)) | (k_end; wrow_close) | walk1 | (dsimp only; walk1) | (leave1; walk_say "STEP leave1"; try dsimp only))
  k_here
  (rename Fr _ _ _ _ => lF')
  (with_unfolding_all refine' For_invVF lF' ?k1 ?k2 ?_)
  (case k1 => exact rfl)
  (case k2 => exact rfl)
  k_whole
  repeat' ((fail_if_success (with_reducible show wpAny _ _ (PySem.exec (PySem.Stmt.For _ _ _ _ _) _) _ _ _)); (fail_if_success (with_reducible show wpAny _ _ (PySem.exec (PySem.Stmt.While _ _ _ _) _) _ _ _)); (fail_if_success (with_reducible show wpAny _ _ (PySem.pyIter _) _ _ _)); first | ((with_reducible show wpAny _ _ (subscriptTail (Expr.Name _ _) (Expr.BinOp _ _ _ _) (Value.ref _) (Value.int _ _)) _ _ _); (k_here; k_dflt (refine' ord_sub ?k1 ?k2 ?k3 ?k4 ?_ ?k7; (case k1 => k_asm); (case k2 => exact .head _); (case k3 => omega); (case k4 => omega); (case k7 => with_unfolding_all rfl); k_whole); intro _ _ _)) | (k_here; (with_reducible show wpAny _ _ (PySem.call (Value.ref 144) [_]) _ _ _); k_dflt (refine' cl_use (c_count _ _ ?ha ?hb) ?k1 ?k2 ?k3 ?k4 ?k5 ?kK ?kd ?ku ?_; (case k1 => k_asm); (case k2 => k_asm); (case k3 => k_asm); (case k4 => k_asm); (case k5 => k_asm); (case kK => first | exact rfl | assumption); (case kd => ktr_room); (case ku => ktr_units); (case ha => omega); (case hb => omega); k_whole); intro v9 nw9 h9 tk9 F9 N9 P9; (obtain ⟨e8, t8, e9⟩ := P9); subst e8; subst e9; (try dsimp only); (try k_fold)) | (k_unfold; (try dsimp only)) | (k_end; wrow_close) | walk1 | (dsimp only; walk1) | (leave1; walk_say "STEP leave1"; try dsimp only))
  rename News _ _ _ (_ :: news) => N1
  obtain ⟨nx0, hnx0, N2⟩ : ∃ nx0, nx0 = _ ∧ News _ _ _ nx0 := ⟨_, rfl, N1⟩
  obtain ⟨m0, hm0, F2⟩ : ∃ m0, m0 = _ ∧ Fr _ _ _ m0 := ⟨_, rfl, lF'⟩
  have hmF2 : (lf, listOf vf.toArray nf) ∈ nx0 := by rw [hnx0]; exact mem_in0 hmF
  refine iter_invNL (fun i m nx => nx = nx0 ∧ (∃ t1, m (Str.ofString "common") = some (.int (comF x (fam.take i)) t1)) ∧ m (Str.ofString "some") = some (.bool (someF x (fam.take i))) ∧ m (Str.ofString "x") = m0 (Str.ofString "x") ∧ m (Str.ofString "letters") = m0 (Str.ofString "letters") ∧ m (Str.ofString "orders") = m0 (Str.ofString "orders")) rfl hmF2 hF F2 N2 ?_ ?_ ?_
  · subst hm0
    exact ⟨rfl, ⟨_, rfl⟩, rfl, rfl, rfl, rfl⟩
  · rintro i one t1 m1 nx h5 tk5 own hin hadr hoff5 hmem ⟨rfl, ⟨tc, e1⟩, e2, e3, e4, e5⟩ F5 N5
    rw [hm0] at e3
    have F6 := fr_under [(Str.ofString "common", .int (comF x (fam.take i)) tc), (Str.ofString "some", .bool (someF x (fam.take i))), (Str.ofString "x", .int x t)] F5 (fm1 e1 (fm1 e2 (fm1 e3 fm0)))
    clear F5
    dsimp only [kstB] at F6
    obtain ⟨hone1, hone2⟩ := hfam one (List.mem_of_getElem? hin)
    dsimp only at F6 N5 ⊢
    repeat' ((fail_if_success (with_reducible show wpAny _ _ (PySem.exec (PySem.Stmt.For _ _ _ _ _) _) _ _ _)); (fail_if_success (with_reducible show wpAny _ _ (PySem.exec (PySem.Stmt.While _ _ _ _) _) _ _ _)); (fail_if_success (with_reducible show wpAny _ _ (PySem.pyIter _) _ _ _)); first | ((with_reducible show wpAny _ _ (subscriptTail (Expr.Name _ _) (Expr.BinOp _ _ _ _) (Value.ref _) (Value.int _ _)) _ _ _); (k_here; k_dflt (refine' ord_sub ?k1 ?k2 ?k3 ?k4 ?_ ?k7; (case k1 => k_asm); (case k2 => exact .head _); (case k3 => omega); (case k4 => omega); (case k7 => with_unfolding_all rfl); k_whole); intro _ _ _)) | (k_here; (with_reducible show wpAny _ _ (PySem.call (Value.ref 144) [_]) _ _ _); k_dflt (refine' cl_use (c_count _ _ ?ha ?hb) ?k1 ?k2 ?k3 ?k4 ?k5 ?kK ?kd ?ku ?_; (case k1 => k_asm); (case k2 => k_asm); (case k3 => k_asm); (case k4 => k_asm); (case k5 => k_asm); (case kK => first | exact rfl | assumption); (case kd => ktr_room); (case ku => ktr_units); (case ha => omega); (case hb => omega); k_whole); intro v9 nw9 h9 tk9 F9 N9 P9; (obtain ⟨e8, t8, e9⟩ := P9); subst e8; subst e9; (try dsimp only); (try k_fold)) | (k_unfold; (try dsimp only)) | (k_end; wrow_close) | walk1 | (dsimp only; walk1) | (leave1; walk_say "STEP leave1"; try dsimp only))
    · refine inv_end nx (by assumption) (by assumption) (fun p hp => List.mem_append_left _ hp) (fun p hp => List.mem_append_right _ hp) ?hmap ?hJ
      case hJ =>
        rw [take_one hin, comF_yes (by assumption), someF_yes (by assumption)]
        exact ⟨hmem, rfl, ⟨_, rfl⟩, rfl, by rw [hm0]; rfl, e4, e5⟩
      case hmap => rfl
    · refine inv_end nx (by assumption) (by assumption) (fun p hp => List.mem_append_left _ hp) (fun p hp => List.mem_append_right _ hp) ?hmap ?hJ
      case hJ =>
        rw [take_one hin, comF_no (by assumption), someF_no (by assumption)]
        exact ⟨hmem, rfl, ⟨_, rfl⟩, rfl, by rw [hm0]; rfl, e4, e5⟩
      case hmap => rfl
  · rintro m1 nx h5 tk5 hmem ⟨rfl, ⟨tc, e1⟩, e2, e3, e4, e5⟩ F5 N5
    rw [hm0] at e3 e4 e5
    rw [List.take_length] at e1 e2
    have F6 := fr_known [(Str.ofString "common", .int (comF x fam) tc), (Str.ofString "some", .bool (someF x fam)), (Str.ofString "x", .int x t), (Str.ofString "letters", .int (L : Int) t2), (Str.ofString "orders", .ref _)] F5 (fm1 e1 (fm1 e2 (fm1 e3 (fm1 e4 (fm1 e5 fm0)))))
    clear F5
    dsimp only [kstB] at F6
    rw [hnx0] at N5
    have hcb := com_bound (x := x) (by omega) (by omega) fam (fun y hy => by have := hfam y hy; omega) x (by omega) (by omega)
    change 0 ≤ comF x fam ∧ comF x fam < 16 at hcb
    have hc1 := cnt_bound hcb.1 hcb.2
    have hc2 := cnt_bound (c := x) (by omega) (by omega)
    have hc3 := hc2.2.2.1 hx0
    have hc4 : cntI x ≤ (L : Int) := by
      rcases hLM' with ⟨rfl, rfl⟩ | ⟨rfl, rfl⟩
      · exact hc2.2.2.2 hx1
      · exact hc2.2.1
    dsimp only at F6 N5 ⊢
    cases hsm : someF x fam with
    | true =>
      rw [hsm] at F6
      repeat' ((fail_if_success (with_reducible show wpAny _ _ (PySem.exec (PySem.Stmt.For _ _ _ _ _) _) _ _ _)); (fail_if_success (with_reducible show wpAny _ _ (PySem.exec (PySem.Stmt.While _ _ _ _) _) _ _ _)); (fail_if_success (with_reducible show wpAny _ _ (PySem.pyIter _) _ _ _)); first | ((with_reducible show wpAny _ _ (subscriptTail (Expr.Name _ _) (Expr.BinOp _ _ _ _) (Value.ref _) (Value.int _ _)) _ _ _); (k_here; k_dflt (refine' ord_sub ?k1 ?k2 ?k3 ?k4 ?_ ?k7; (case k1 => k_asm); (case k2 => exact .head _); (case k3 => omega); (case k4 => omega); (case k7 => with_unfolding_all rfl); k_whole); intro _ _ _)) | (k_here; (with_reducible show wpAny _ _ (PySem.call (Value.ref 144) [_]) _ _ _); k_dflt (refine' cl_use (c_count _ _ ?ha ?hb) ?k1 ?k2 ?k3 ?k4 ?k5 ?kK ?kd ?ku ?_; (case k1 => k_asm); (case k2 => k_asm); (case k3 => k_asm); (case k4 => k_asm); (case k5 => k_asm); (case kK => first | exact rfl | assumption); (case kd => ktr_room); (case ku => ktr_units); (case ha => omega); (case hb => omega); k_whole); intro v9 nw9 h9 tk9 F9 N9 P9; (obtain ⟨e8, t8, e9⟩ := P9); subst e8; subst e9; (try dsimp only); (try k_fold)) | (k_unfold; (try dsimp only)) | (k_end; wrow_close) | walk1 | (dsimp only; walk1) | (leave1; walk_say "STEP leave1"; try dsimp only))
      rename News h₀ Lc _ (_ :: news) => kN
      exact ret_end hret _ (by assumption) (news_drop1 kN) ⟨rfl, _, by unfold dueI; rw [if_pos hsm]⟩
    | false =>
      rw [hsm] at F6
      repeat' ((fail_if_success (with_reducible show wpAny _ _ (PySem.exec (PySem.Stmt.For _ _ _ _ _) _) _ _ _)); (fail_if_success (with_reducible show wpAny _ _ (PySem.exec (PySem.Stmt.While _ _ _ _) _) _ _ _)); (fail_if_success (with_reducible show wpAny _ _ (PySem.pyIter _) _ _ _)); first | ((with_reducible show wpAny _ _ (subscriptTail (Expr.Name _ _) (Expr.BinOp _ _ _ _) (Value.ref _) (Value.int _ _)) _ _ _); (k_here; k_dflt (refine' ord_sub ?k1 ?k2 ?k3 ?k4 ?_ ?k7; (case k1 => k_asm); (case k2 => exact .head _); (case k3 => omega); (case k4 => omega); (case k7 => with_unfolding_all rfl); k_whole); intro _ _ _)) | (k_here; (with_reducible show wpAny _ _ (PySem.call (Value.ref 144) [_]) _ _ _); k_dflt (refine' cl_use (c_count _ _ ?ha ?hb) ?k1 ?k2 ?k3 ?k4 ?k5 ?kK ?kd ?ku ?_; (case k1 => k_asm); (case k2 => k_asm); (case k3 => k_asm); (case k4 => k_asm); (case k5 => k_asm); (case kK => first | exact rfl | assumption); (case kd => ktr_room); (case ku => ktr_units); (case ha => omega); (case hb => omega); k_whole); intro v9 nw9 h9 tk9 F9 N9 P9; (obtain ⟨e8, t8, e9⟩ := P9); subst e8; subst e9; (try dsimp only); (try k_fold)) | (k_unfold; (try dsimp only)) | (k_end; wrow_close) | walk1 | (dsimp only; walk1) | (leave1; walk_say "STEP leave1"; try dsimp only))
      rename News h₀ Lc _ (_ :: news) => kN
      exact ret_end hret _ (by assumption) (news_drop1 kN) ⟨rfl, _, by unfold dueI; rw [if_neg (by rw [hsm]; decide)]⟩
end
end

/- Fam -/
section
open PySem PySem.W PyProof.Rows PySem.Spec
set_option maxRecDepth 100000
theorem ints_pick {vs : List Value} {ns : List Int} (h : IntsAre vs ns) : ∀ idx : List Nat, ∃ ms, IntsAre (idx.filterMap (vs.toArray[·]?)) ms
  | [] => ⟨[], .nil⟩
  | k :: r => by
    obtain ⟨ms, hm⟩ := ints_pick h r
    rw [List.filterMap_cons]
    cases e : vs.toArray[k]? with
    | none => exact ⟨ms, hm⟩
    | some v =>
      have e' : vs[k]? = some v := by simpa using e
      have hk : k < ns.length := by
        rw [← h.length]
        exact (List.getElem?_eq_some_iff.mp e').1
      obtain ⟨t, hx⟩ := h.get k ns[k] (by simp [hk])
      have : v = .int ns[k] t := Option.some.inj (e'.symm.trans hx)
      subst this
      exact ⟨_ :: ms, .cons _ _ hm⟩
section
variable {prog : Program} {w : World} {A : Around} {E : Value → Shared → Prop} {s : Shared} {h₀ : Heap} {L : Addr} {m : Str → Option Value} {news : List (Addr × Obj)}
theorem my_sum {D : Addr} {vs : List Value} {ns : List Int} {lo hi st : Option Int} {n : Nat} {Q : Value → Shared → Prop} (F : Fr h₀ L s.heap m) (N : News h₀ L s.heap ((D, listOf (slicePick vs.toArray lo hi st) n) :: news)) (hh : A.handled = none) (hI : IntsAre vs ns)
    (h : ∀ y h' tk t', Fr h₀ L h' m → News h₀ L h' news → Q (.int y t') { s with heap := h', toks := tk }) : wpAny (model prog w) A (call (.builtin "sum") [.ref D]) Q E s := by
  obtain ⟨ms, hm⟩ := ints_pick hI (sliceRange (sliceBounds lo hi st vs.toArray.size).1 (sliceBounds lo hi st vs.toArray.size).2.1 (sliceBounds lo hi st vs.toArray.size).2.2)
  have hl := PySem.IsL.isList (n := n) (N _ (List.mem_cons_self ..)).1
  exact LSm.sum_ints F (fun p hp => N p (List.mem_cons_of_mem _ hp)) hh hl hm fun h' tk t' F' N' => h _ h' tk t' F' N'
theorem fst_sub {value slice : PySem.Expr} {D : Addr} {n : Nat} {t1 t2 t3 : Tok} {k : Int} {u : Tok} {Q : Value → Shared → Prop} (N : News h₀ L s.heap news)
    (hm : (D, listOf #[.int 2 t1, .int 5 t2, .int 3 t3] n) ∈ news) (h0 : 0 ≤ k) (h1 : k < 3) (h : ∀ y t, Q (.int y t) s)
    (hs : subscripted slice false (.ref D) (.int k u) = operate [.ref D, .int k u] (getItem (.ref D) (.int k u)) := by with_unfolding_all rfl) :
    wpAny (model prog w) A (subscriptTail value slice (.ref D) (.int k u)) Q E s :=
  ksa_sub (vs := [.int 2 t1, .int 5 t2, .int 3 t3]) (ns := [2, 5, 3]) N hm (.cons _ _ (.cons _ _ (.cons _ _ .nil))) h0 (by simpa using h1) (by omega) (fun t => h _ t) hs
end
theorem cL_nonneg (ns : List Int) (x : Int) : 0 ≤ cL ns x := by unfold cL; omega
theorem cL_le (ns : List Int) (x : Int) : cL ns x ≤ (ns.length : Int) := by unfold cL; have := List.countP_le_length (p := fun y => decide (y < x)) (l := ns); omega
theorem insR_len (ns : List Int) (x : Int) : (insR ns x).length = ns.length + 1 := by
  have := cR_le ns x
  unfold insR
  rw [List.length_append, List.length_cons, List.length_take, List.length_drop]
  omega
theorem mem_insR {ns : List Int} {x y : Int} : y ∈ insR ns x ↔ y = x ∨ y ∈ ns := by
  unfold insR
  rw [List.mem_append, List.mem_cons]
  constructor
  · rintro (h | h | h)
    · exact .inr (List.mem_of_mem_take h)
    · exact .inl h
    · exact .inr (List.mem_of_mem_drop h)
  · rintro (h | h)
    · exact .inr (.inl h)
    · rw [← List.take_append_drop (cR ns x).toNat ns] at h
      rcases List.mem_append.mp h with h | h
      · exact .inl h
      · exact .inr (.inr h)
theorem insR_perm (ns : List Int) (x : Int) : (insR ns x).Perm (x :: ns) := by
  unfold insR
  refine (List.perm_middle).trans ?_
  rw [List.take_append_drop]
theorem le_before : ∀ {ns : List Int} {x : Int}, Sorted ns → ∀ y ∈ ns.take (ns.countP fun y => decide (y ≤ x)), y ≤ x
  | [], _, _, y, h => by simp at h
  | a :: r, x, hs, y, h => by
    have hs := List.pairwise_cons.mp hs
    by_cases ha : a ≤ x
    · rw [List.countP_cons_of_pos (by simpa using ha), List.take_succ_cons, List.mem_cons] at h
      rcases h with rfl | h
      · exact ha
      · exact le_before hs.2 y h
    · have : (r.countP fun y => decide (y ≤ x)) = 0 := by
        rw [List.countP_eq_zero]
        intro z hz
        have := hs.1 z hz
        simp; omega
      rw [List.countP_cons_of_neg (by simpa using ha), this] at h
      simp at h
theorem gt_behind : ∀ {ns : List Int} {x : Int}, Sorted ns → ∀ y ∈ ns.drop (ns.countP fun y => decide (y ≤ x)), x < y
  | [], _, _, y, h => by simp at h
  | a :: r, x, hs, y, h => by
    have hs := List.pairwise_cons.mp hs
    by_cases ha : a ≤ x
    · rw [List.countP_cons_of_pos (by simpa using ha), List.drop_succ_cons] at h
      exact gt_behind hs.2 y h
    · have hc : (r.countP fun y => decide (y ≤ x)) = 0 := by
        rw [List.countP_eq_zero]
        intro z hz
        have := hs.1 z hz
        simp; omega
      rw [List.countP_cons_of_neg (by simpa using ha), hc, List.drop_zero, List.mem_cons] at h
      rcases h with rfl | h
      · omega
      · have := hs.1 y h; omega
theorem insR_sorted {ns : List Int} {x : Int} (h : Sorted ns) : Sorted (insR ns x) := by
  unfold insR cR
  simp only [Int.toNat_natCast]
  refine List.pairwise_append.mpr ⟨h.sublist (List.take_sublist ..), List.pairwise_cons.mpr ⟨fun y hy => ?_, h.sublist (List.drop_sublist ..)⟩, fun a ha b hb => ?_⟩
  · have := gt_behind h y hy; omega
  · have h1 := le_before h a ha
    rcases List.mem_cons.mp hb with rfl | hb
    · exact h1
    · have := gt_behind h b hb; omega
theorem one_bound {z n : Int} (hn : 0 < n) : 1 ≤ 1 + Int.fmod z n ∧ 1 + Int.fmod z n < n + 1 := by
  have h1 := Int.fmod_nonneg_of_pos z hn
  have h2 := Int.fmod_lt_of_pos z hn
  omega
theorem news_swap {h₀ h : Heap} {L : Addr} {x y : Addr × Obj} {news : List (Addr × Obj)} (N : News h₀ L h (x :: y :: news)) : News h₀ L h (y :: x :: news) := fun p hp => N p (by
  rcases List.mem_cons.mp hp with rfl | hp
  · exact .tail _ (.head _)
  · rcases List.mem_cons.mp hp with rfl | hp
    · exact .head _
    · exact .tail _ (.tail _ hp))
theorem off2 {D l : Addr} {o : Obj} {news : List (Addr × Obj)} (h : l ≠ D) (g : ∀ p ∈ news, p.1 ≠ D) : ∀ p ∈ (l, o) :: news, p.1 ≠ D := List.forall_mem_cons.mpr ⟨h, g⟩
theorem cL_lt {ns : List Int} {x : Int} (h : cL ns x ≠ (ns.length : Int)) : cL ns x < (ns.length : Int) := by have := cL_le ns x; omega
theorem cL_small {ns : List Int} {x : Int} (h : ns.length ≤ 100) : cL ns x < 2 ^ 63 := by have := cL_le ns x; omega
theorem cL_ne {ns : List Int} {x : Int} (h : cL ns x ≠ (ns.length : Int)) : ns ≠ [] := by
  rintro rfl
  exact h rfl
theorem fam_next {fam : List Int} {o : Int} {M : Nat} (hb : ∀ y ∈ fam, 1 ≤ y ∧ y < (M : Int)) (h : 1 ≤ o ∧ o < (M : Int)) : ∀ y ∈ insR fam o, 1 ≤ y ∧ y < (M : Int) := by
  intro y hy
  rcases mem_insR.mp hy with rfl | hy
  · exact h
  · exact hb y hy
theorem insR_ne (fam : List Int) (o : Int) : insR fam o ≠ [] := by
  intro e
  have := insR_len fam o
  rw [e] at this
  simp at this
theorem one3 (z : Int) : 1 ≤ 1 + Int.fmod z (2 ^ Int.toNat 3 - 1) ∧ 1 + Int.fmod z (2 ^ Int.toNat 3 - 1) < ((8 : Nat) : Int) := one_bound (n := 2 ^ Int.toNat 3 - 1) (by decide)
theorem one4 (z : Int) : 1 ≤ 1 + Int.fmod z (2 ^ Int.toNat 4 - 1) ∧ 1 + Int.fmod z (2 ^ Int.toNat 4 - 1) < ((16 : Nat) : Int) := one_bound (n := 2 ^ Int.toNat 4 - 1) (by decide)
end

/- Pow -/
section
open PySem PySem.W PyProof.Rows PySem.Spec
theorem lm_of {n : Nat} (h : n = 3 ∨ n = 4) : ∃ M, Lm n M ∧ n ≤ 4 ∧ M ≤ 16 ∧ (((n : Int) = 3 ∧ M = 8) ∨ ((n : Int) = 4 ∧ M = 16)) := by
  rcases h with rfl | rfl
  · exact ⟨8, .inl ⟨rfl, rfl⟩, by decide, by decide, .inl ⟨rfl, rfl⟩⟩
  · exact ⟨16, .inr ⟨rfl, rfl⟩, by decide, by decide, .inr ⟨rfl, rfl⟩⟩
theorem lm_bd {L M : Nat} (h : Lm L M) : L ≤ 4 ∧ M ≤ 16 ∧ 8 ≤ M ∧ 3 ≤ L := by
  rcases h with ⟨rfl, rfl⟩ | ⟨rfl, rfl⟩ <;> decide
theorem pow_letters {prog : Program} {w : World} {A : Around} {E : Value → Shared → Prop} {s : Shared} {L M : Nat} {t u : Tok} {Q : Value → Shared → Prop} (hLM : Lm L M) (h : Q (.int (M : Int) s.toks) { s with toks := s.toks + 1 }) :
    wpAny (model prog w) A (binaryOp .Pow (.int 2 t) (.int (L : Int) u)) Q E s := by
  rcases hLM with ⟨rfl, rfl⟩ | ⟨rfl, rfl⟩
  · exact pow_int_small (by decide) (by decide) (by decide) (by rw [show (2 : Int) ^ (((3 : Nat) : Int)).toNat = ((8 : Nat) : Int) by decide]; exact h)
  · exact pow_int_small (by decide) (by decide) (by decide) (by rw [show (2 : Int) ^ (((4 : Nat) : Int)).toNat = ((16 : Nat) : Int) by decide]; exact h)
theorem sz_len {L M i : Nat} (h : Lm L M) (hi : i < M - 1) : ((sizesL L M).take (i + 1)).length = i + 1 := by
  have := lm_bd h
  rw [List.length_take, sizesL_len]; omega
end

/- C9 -/
section
open PySem PySem.W PyProof.Rows PySem.Spec
set_option maxRecDepth 100000
set_option maxHeartbeats 4000000

section


noncomputable def FamJ (M : Nat) (lfam lfst lsc : Addr) (ofst : Obj) (lt : Int) (t : Tok) (news : List (Addr × Obj)) (i : Nat) (m : Str → Option Value) (nx : List (Addr × Obj)) : Prop :=
  ∃ vf c' fam, nx = (lfam, listOf vf.toArray c') :: (lfst, ofst) :: news ∧ IntsAre vf fam ∧ Sorted fam ∧ fam.length ≤ i ∧ (∀ y ∈ fam, 1 ≤ y ∧ y < (M : Int)) ∧ (1 ≤ i → fam ≠ []) ∧
    m (Str.ofString "family") = some (.ref lfam) ∧ m (Str.ofString "first") = some (.ref lfst) ∧ m (Str.ofString "script") = some (.ref lsc) ∧ m (Str.ofString "letters") = some (.int lt t)

theorem lm_int {M : Nat} {lt : Int} (h : (lt = 3 ∧ M = 8) ∨ (lt = 4 ∧ M = 16)) : ∃ L : Nat, lt = (L : Int) ∧ Lm L M := by
  rcases h with ⟨rfl, rfl⟩ | ⟨rfl, rfl⟩
  · exact ⟨3, rfl, .inl ⟨rfl, rfl⟩⟩
  · exact ⟨4, rfl, .inr ⟨rfl, rfl⟩⟩
theorem oneM {M : Nat} (h : 8 ≤ M) (z : Int) : 1 ≤ 1 + Int.fmod z ((M : Int) - 1) ∧ 1 + Int.fmod z ((M : Int) - 1) < (M : Int) := by
  have := one_bound (z := z) (n := (M : Int) - 1) (by omega)
  omega
theorem c_fam {w : World} {mean : ExcName → Option Value} {mg mb : Str → Option Value} {M : Nat} {lt : Int} (hLM : (lt = 3 ∧ M = 8) ∨ (lt = 4 ∧ M = 16)) {lsc : Addr} {vsc : List Value} {scr : List Int} {news : List (Addr × Obj)} {t : Tok} (hiS : IntsAre vsc scr) (hsl : scr.length ≤ 63)
    (dp un : Nat) (gd : Option (List Code)) (cn : Str) (cs : Scope) (a : Addr) (ccd : Value) (cl : List (Str × Addr)) (outer : List Env) (A₀ : Around) (base h₀ : Heap) (Lc : Addr) (m : Str → Option Value) (s : Shared) (Q E : Value → Shared → Prop)
    (hbs : base.IsList lsc vsc.toArray) (B : Below A₀ base outer h₀) (F : Fr h₀ Lc s.heap m) (X : (hd.heap_39 w.params).In h₀) (N : News h₀ Lc s.heap news) {loo : List Str} (T : Top topProg loo mean mg mb h₀) (hk : cs.kind = .function) (hdp : dp + 4 < recursionLimit) (hu : un + 32 < cLine)
    (hret : Ret h₀ Lc m s Q (fun v news' => ∃ l vf fam n, v = .ref l ∧ news' = (l, listOf vf.toArray n) :: news ∧ (∀ p ∈ news, p.1 < l) ∧ IntsAre vf fam ∧ fam.length ≤ 3 ∧ fam ≠ [] ∧ ∀ y ∈ fam, 1 ≤ y ∧ y < (M : Int))) :
    wpAny (model PySem.Challenge.rw_sw0045_01.row.prog w) (ktrTop dp un gd cn cs Lc a ccd cl outer) (PySem.call (.ref 111) [.ref lsc, .int lt t]) Q E s := by
  w_top off
  revert X
  k_fill
  intro X
  have kMark : KstMark := kstMark
  obtain ⟨Ln, rfl, hLM2⟩ := lm_int hLM
  obtain ⟨hL4, hM16, hM8, hL3⟩ := lm_bd hLM2
  all_goals (refine wpAny_call ?_)
  all_goals (k_dflt ((refine' code_def ?k1 ?k2 ?k3 ?k4 ?k5 ?kA ?kF ?kK ?k6 ?k7 ?k8 ?k9 ?kB ?_ ?c2 ?c3 ?c4 ?c5; (case kA => exact rfl); (case kF => exact rfl); (case kK => first | exact rfl | assumption); (case k1 => k_asm); (case k2 => k_asm); (case k3 => k_asm); (case k4 => k_asm); (case k5 => k_asm); (case k6 => k_is); (case k7 => k_is); (case k8 => ktr_room); (case k9 => (first | exact BindsTo.of_eq rfl | (refine' kp_binds ?kx ?ke; (case kx => k_in); (case ke => exact fun _ => rfl)))); (case c5 => decide); (case kB => exact locs rfl); (case c2 => exact rfl); (case c3 => exact rfl); (case c4 => exact rfl); k_whole; intro g' L' h' FG' F' N' B' X' T'; (try dsimp only); (try k_lift B'); (try k_fold))))
  all_goals repeat' ((fail_if_success (with_reducible show InvEndN _ _ _ _ _ _ _)); (fail_if_success (with_reducible show wpAny _ _ (PySem.exec (PySem.Stmt.For _ _ _ _ _) _) _ _ _)); (fail_if_success (with_reducible show wpAny _ _ (PySem.exec (PySem.Stmt.While _ _ _ _) _) _ _ _)); (fail_if_success (with_reducible show wpAny _ _ (PySem.pyIter _) _ _ _)); first | ((with_reducible show wpAny _ _ (subscriptTail (Expr.Name _ _) (Expr.Name _ _) (Value.ref _) (Value.int _ _)) _ _ _); (k_here; k_dflt (refine' fst_sub ?k1 ?k2 ?k3 ?k4 ?_ ?k7; (case k1 => k_asm); (case k2 => exact .tail _ (.head _)); (case k3 => omega); (case k4 => omega); (case k7 => with_unfolding_all rfl); k_whole); intro _ _)) | ((with_reducible show wpAny _ _ (binaryOp Operator.Pow (Value.int 2 _) (Value.int _ _)) _ _ _); (with_reducible refine pow_letters hLM2 ?_); (try dsimp only)) | ((with_reducible show wpAny _ _ (subscriptTail (Expr.Name _ _) (Expr.Name _ _) (Value.ref _) (Value.int _ _)) _ _ _); (k_here; k_dflt (refine' ksa_sub ?k1 ?k2 ?k3 ?k4 ?k5 ?k6 ?_ ?k7; (case k1 => k_asm); (case k2 => exact .head _); (case k3 => assumption); (case k4 => exact cL_nonneg _ _); (case k5 => exact cL_lt (by assumption)); (case k6 => exact cL_small (by omega)); (case k7 => with_unfolding_all rfl); k_whole); intro _)) | (k_here; (with_reducible show wpAny _ _ (PySem.call (Value.builtin "sum") [Value.ref _]) _ _ _); k_dflt (refine' my_sum (n := 0) ?k1 ?k2 ?k3 ?k4 ?_; (case k1 => k_asm); (case k2 => k_asm); (case k3 => exact rfl); (case k4 => exact hiS); k_whole); intro y9 h9 tk9 t9 F9 N9; (try dsimp only); (try k_fold)) | (k_here; (with_reducible show wpAny _ _ (PySem.call (Value.ref 37) [_, _]) _ _ _); k_dflt (refine' cl_use (c_ins ?hi ?hs ?hf ?ho) ?k1 ?k2 ?k3 ?k4 ?k5 ?kK ?kd ?ku ?_; (case k1 => k_asm); (case k2 => k_asm); (case k3 => k_asm); (case k4 => k_asm); (case k5 => k_asm); (case kK => first | exact rfl | assumption); (case kd => ktr_room); (case ku => ktr_units); (case hi => assumption); (case hs => assumption); (case hf => omega); (case ho => assumption); k_whole); intro v9 nw9 h9 tk9 F9 N9 P9; (obtain ⟨e9, vs9, n9, e8, hI9⟩ := P9); subst e8; subst e9; (try dsimp only); (try k_fold)) | (k_here; (with_reducible show wpAny _ _ (PySem.call (Value.ref 55) [_, _]) _ _ _); k_dflt (refine' cl_use (c_bl2 ?hi ?hs ?hf) ?k1 ?k2 ?k3 ?k4 ?k5 ?kK ?kd ?ku ?_; (case k1 => k_asm); (case k2 => k_asm); (case k3 => k_asm); (case k4 => k_asm); (case k5 => k_asm); (case kK => first | exact rfl | assumption); (case kd => ktr_room); (case ku => ktr_units); (case hi => assumption); (case hs => assumption); (case hf => omega); k_whole); intro v9 nw9 h9 tk9 F9 N9 P9; (obtain ⟨e8, t8, e9⟩ := P9); subst e8; subst e9; (try dsimp only); (try k_fold)) | (k_unfold; (try dsimp only)) | (k_end; wrow_close) | walk1 | (dsimp only; walk1) | (leave1; walk_say "STEP leave1"; try dsimp only))
  · rename_i lfam hh1 hl1 hh2 tkx lfst hh3 hl2 hh4 Fx Nx
    have ho1 : ∀ p ∈ news, p.1 ≠ lfam := fun p hp => Nat.ne_of_lt (hl1 p hp)
    have ho2 := fun o => off2 (o := o) (Nat.ne_of_gt hl2.1) ho1
    have N2 := news_swap Nx
    clear Nx
    k_here
    (with_unfolding_all refine' For_invVF Fx ?k1 ?k2 ?_)
    (case k1 => exact rfl)
    (case k2 => exact rfl)
    k_whole
    repeat' ((fail_if_success (with_reducible show InvEndN _ _ _ _ _ _ _)); (fail_if_success (with_reducible show wpAny _ _ (PySem.exec (PySem.Stmt.For _ _ _ _ _) _) _ _ _)); (fail_if_success (with_reducible show wpAny _ _ (PySem.exec (PySem.Stmt.While _ _ _ _) _) _ _ _)); (fail_if_success (with_reducible show wpAny _ _ (PySem.pyIter _) _ _ _)); first | ((with_reducible show wpAny _ _ (subscriptTail (Expr.Name _ _) (Expr.Name _ _) (Value.ref _) (Value.int _ _)) _ _ _); (k_here; k_dflt (refine' fst_sub ?k1 ?k2 ?k3 ?k4 ?_ ?k7; (case k1 => k_asm); (case k2 => exact .tail _ (.head _)); (case k3 => omega); (case k4 => omega); (case k7 => with_unfolding_all rfl); k_whole); intro _ _)) | ((with_reducible show wpAny _ _ (binaryOp Operator.Pow (Value.int 2 _) (Value.int _ _)) _ _ _); (with_reducible refine pow_letters hLM2 ?_); (try dsimp only)) | ((with_reducible show wpAny _ _ (subscriptTail (Expr.Name _ _) (Expr.Name _ _) (Value.ref _) (Value.int _ _)) _ _ _); (k_here; k_dflt (refine' ksa_sub ?k1 ?k2 ?k3 ?k4 ?k5 ?k6 ?_ ?k7; (case k1 => k_asm); (case k2 => exact .head _); (case k3 => assumption); (case k4 => exact cL_nonneg _ _); (case k5 => exact cL_lt (by assumption)); (case k6 => exact cL_small (by omega)); (case k7 => with_unfolding_all rfl); k_whole); intro _)) | (k_here; (with_reducible show wpAny _ _ (PySem.call (Value.builtin "sum") [Value.ref _]) _ _ _); k_dflt (refine' my_sum (n := 0) ?k1 ?k2 ?k3 ?k4 ?_; (case k1 => k_asm); (case k2 => k_asm); (case k3 => exact rfl); (case k4 => exact hiS); k_whole); intro y9 h9 tk9 t9 F9 N9; (try dsimp only); (try k_fold)) | (k_here; (with_reducible show wpAny _ _ (PySem.call (Value.ref 37) [_, _]) _ _ _); k_dflt (refine' cl_use (c_ins ?hi ?hs ?hf ?ho) ?k1 ?k2 ?k3 ?k4 ?k5 ?kK ?kd ?ku ?_; (case k1 => k_asm); (case k2 => k_asm); (case k3 => k_asm); (case k4 => k_asm); (case k5 => k_asm); (case kK => first | exact rfl | assumption); (case kd => ktr_room); (case ku => ktr_units); (case hi => assumption); (case hs => assumption); (case hf => omega); (case ho => assumption); k_whole); intro v9 nw9 h9 tk9 F9 N9 P9; (obtain ⟨e9, vs9, n9, e8, hI9⟩ := P9); subst e8; subst e9; (try dsimp only); (try k_fold)) | (k_here; (with_reducible show wpAny _ _ (PySem.call (Value.ref 55) [_, _]) _ _ _); k_dflt (refine' cl_use (c_bl2 ?hi ?hs ?hf) ?k1 ?k2 ?k3 ?k4 ?k5 ?kK ?kd ?ku ?_; (case k1 => k_asm); (case k2 => k_asm); (case k3 => k_asm); (case k4 => k_asm); (case k5 => k_asm); (case kK => first | exact rfl | assumption); (case kd => ktr_room); (case ku => ktr_units); (case hi => assumption); (case hs => assumption); (case hf => omega); k_whole); intro v9 nw9 h9 tk9 F9 N9 P9; (obtain ⟨e8, t8, e9⟩ := P9); subst e8; subst e9; (try dsimp only); (try k_fold)) | (k_unfold; (try dsimp only)) | (k_end; wrow_close) | walk1 | (dsimp only; walk1) | (leave1; walk_say "STEP leave1"; try dsimp only))
    (rename Fr _ _ _ _ => F1)
    (rename IsRange _ _ _ _ _ _ _ _ => rg)
    (rename News _ _ _ (_ :: (_, _) :: news) => N1)
    obtain ⟨ofst, hofst, N3⟩ : ∃ o, o = _ ∧ News _ _ _ ((lfam, listOf #[] 0) :: (lfst, o) :: news) := ⟨_, rfl, N1⟩
    refine for_range (n := 3) (FamJ M lfam lfst lsc ofst (Ln : Int) t news) rfl rg rfl (by omega) F1 N3 ⟨[], 0, [], rfl, .nil, .nil, Nat.le_refl _, (fun y hy => nomatch hy), (fun h => absurd h (by omega)), rfl, rfl, rfl, rfl⟩ ?_ ?_
    · rintro i ti m1 nx h5 tk5 own hin hadr hoff ⟨vf, c', fam, rfl, hI, hS, hl, hb, hne, e1, e2, e3, e4⟩ F5 N5
      have F6 := fr_under [(Str.ofString "family", .ref lfam), (Str.ofString "first", .ref lfst), (Str.ofString "script", .ref lsc), (Str.ofString "letters", .int (Ln : Int) t)] F5 (fm1 e1 (fm1 e2 (fm1 e3 (fm1 e4 fm0))))
      clear F5
      dsimp only [kstB] at F6
      have ho6 := off_app (off2 (o := ofst) (Nat.ne_of_gt hl2.1) ho1) (hoff.ne (List.mem_cons_self ..))
      rw [List.cons_append] at N5
      subst hofst
      dsimp only at F6 N5 ⊢
      repeat' ((fail_if_success (with_reducible show InvEndN _ _ _ _ _ _ _)); (fail_if_success (with_reducible show wpAny _ _ (PySem.exec (PySem.Stmt.For _ _ _ _ _) _) _ _ _)); (fail_if_success (with_reducible show wpAny _ _ (PySem.exec (PySem.Stmt.While _ _ _ _) _) _ _ _)); (fail_if_success (with_reducible show wpAny _ _ (PySem.pyIter _) _ _ _)); first | ((with_reducible show wpAny _ _ (subscriptTail (Expr.Name _ _) (Expr.Name _ _) (Value.ref _) (Value.int _ _)) _ _ _); (k_here; k_dflt (refine' fst_sub ?k1 ?k2 ?k3 ?k4 ?_ ?k7; (case k1 => k_asm); (case k2 => exact .tail _ (.head _)); (case k3 => omega); (case k4 => omega); (case k7 => with_unfolding_all rfl); k_whole); intro _ _)) | ((with_reducible show wpAny _ _ (binaryOp Operator.Pow (Value.int 2 _) (Value.int _ _)) _ _ _); (with_reducible refine pow_letters hLM2 ?_); (try dsimp only)) | ((with_reducible show wpAny _ _ (subscriptTail (Expr.Name _ _) (Expr.Name _ _) (Value.ref _) (Value.int _ _)) _ _ _); (k_here; k_dflt (refine' ksa_sub ?k1 ?k2 ?k3 ?k4 ?k5 ?k6 ?_ ?k7; (case k1 => k_asm); (case k2 => exact .head _); (case k3 => assumption); (case k4 => exact cL_nonneg _ _); (case k5 => exact cL_lt (by assumption)); (case k6 => exact cL_small (by omega)); (case k7 => with_unfolding_all rfl); k_whole); intro _)) | (k_here; (with_reducible show wpAny _ _ (PySem.call (Value.builtin "sum") [Value.ref _]) _ _ _); k_dflt (refine' my_sum (n := 0) ?k1 ?k2 ?k3 ?k4 ?_; (case k1 => k_asm); (case k2 => k_asm); (case k3 => exact rfl); (case k4 => exact hiS); k_whole); intro y9 h9 tk9 t9 F9 N9; (try dsimp only); (try k_fold)) | (k_here; (with_reducible show wpAny _ _ (PySem.call (Value.ref 37) [_, _]) _ _ _); k_dflt (refine' cl_use (c_ins ?hi ?hs ?hf ?ho) ?k1 ?k2 ?k3 ?k4 ?k5 ?kK ?kd ?ku ?_; (case k1 => k_asm); (case k2 => k_asm); (case k3 => k_asm); (case k4 => k_asm); (case k5 => k_asm); (case kK => first | exact rfl | assumption); (case kd => ktr_room); (case ku => ktr_units); (case hi => assumption); (case hs => assumption); (case hf => omega); (case ho => assumption); k_whole); intro v9 nw9 h9 tk9 F9 N9 P9; (obtain ⟨e9, vs9, n9, e8, hI9⟩ := P9); subst e8; subst e9; (try dsimp only); (try k_fold)) | (k_here; (with_reducible show wpAny _ _ (PySem.call (Value.ref 55) [_, _]) _ _ _); k_dflt (refine' cl_use (c_bl2 ?hi ?hs ?hf) ?k1 ?k2 ?k3 ?k4 ?k5 ?kK ?kd ?ku ?_; (case k1 => k_asm); (case k2 => k_asm); (case k3 => k_asm); (case k4 => k_asm); (case k5 => k_asm); (case kK => first | exact rfl | assumption); (case kd => ktr_room); (case ku => ktr_units); (case hi => assumption); (case hs => assumption); (case hf => omega); k_whole); intro v9 nw9 h9 tk9 F9 N9 P9; (obtain ⟨e8, t8, e9⟩ := P9); subst e8; subst e9; (try dsimp only); (try k_fold)) | (k_unfold; (try dsimp only)) | (k_end; wrow_close) | walk1 | (dsimp only; walk1) | (leave1; walk_say "STEP leave1"; try dsimp only))
      · rename IntsAre _ (insR fam _) => hI9
        refine inv_end (_ :: (_ :: news)) (by assumption) (by assumption) (fun p hp => mem_l hp) (fun p hp => mem_r hp) ?hmap ?hJ
        case hJ => exact ⟨_, _, _, rfl, hI9, insR_sorted hS, by rw [insR_len]; omega, fam_next hb (oneM hM8 _), fun _ => insR_ne _ _, rfl, rfl, rfl, rfl⟩
        case hmap => rfl
      · rename IntsAre _ (insR fam _) => hI9
        refine inv_end (_ :: (_ :: news)) (by assumption) (by assumption) (fun p hp => mem_l hp) (fun p hp => mem_r hp) ?hmap ?hJ
        case hJ => exact ⟨_, _, _, rfl, hI9, insR_sorted hS, by rw [insR_len]; omega, fam_next hb (oneM hM8 _), fun _ => insR_ne _ _, rfl, rfl, rfl, rfl⟩
        case hmap => rfl
      · refine inv_end (_ :: (_ :: news)) (by assumption) (by assumption) (fun p hp => mem_l hp) (fun p hp => mem_r hp) ?hmap ?hJ
        case hJ => exact ⟨_, _, fam, rfl, hI, hS, by omega, hb, fun _ => cL_ne (by assumption), rfl, rfl, rfl, rfl⟩
        case hmap => rfl
    · rintro m1 nx h5 tk5 ⟨vf, c', fam, rfl, hI, hS, hl, hb, hne, e1, e2, e3, e4⟩ hadr F5 N5
      have F6 := fr_known [(Str.ofString "family", .ref lfam)] F5 (fm1 e1 fm0)
      clear F5
      dsimp only [kstB] at F6
      dsimp only at F6 N5 ⊢
      repeat' ((fail_if_success (with_reducible show InvEndN _ _ _ _ _ _ _)); (fail_if_success (with_reducible show wpAny _ _ (PySem.exec (PySem.Stmt.For _ _ _ _ _) _) _ _ _)); (fail_if_success (with_reducible show wpAny _ _ (PySem.exec (PySem.Stmt.While _ _ _ _) _) _ _ _)); (fail_if_success (with_reducible show wpAny _ _ (PySem.pyIter _) _ _ _)); first | ((with_reducible show wpAny _ _ (subscriptTail (Expr.Name _ _) (Expr.Name _ _) (Value.ref _) (Value.int _ _)) _ _ _); (k_here; k_dflt (refine' fst_sub ?k1 ?k2 ?k3 ?k4 ?_ ?k7; (case k1 => k_asm); (case k2 => exact .tail _ (.head _)); (case k3 => omega); (case k4 => omega); (case k7 => with_unfolding_all rfl); k_whole); intro _ _)) | ((with_reducible show wpAny _ _ (binaryOp Operator.Pow (Value.int 2 _) (Value.int _ _)) _ _ _); (with_reducible refine pow_letters hLM2 ?_); (try dsimp only)) | ((with_reducible show wpAny _ _ (subscriptTail (Expr.Name _ _) (Expr.Name _ _) (Value.ref _) (Value.int _ _)) _ _ _); (k_here; k_dflt (refine' ksa_sub ?k1 ?k2 ?k3 ?k4 ?k5 ?k6 ?_ ?k7; (case k1 => k_asm); (case k2 => exact .head _); (case k3 => assumption); (case k4 => exact cL_nonneg _ _); (case k5 => exact cL_lt (by assumption)); (case k6 => exact cL_small (by omega)); (case k7 => with_unfolding_all rfl); k_whole); intro _)) | (k_here; (with_reducible show wpAny _ _ (PySem.call (Value.builtin "sum") [Value.ref _]) _ _ _); k_dflt (refine' my_sum (n := 0) ?k1 ?k2 ?k3 ?k4 ?_; (case k1 => k_asm); (case k2 => k_asm); (case k3 => exact rfl); (case k4 => exact hiS); k_whole); intro y9 h9 tk9 t9 F9 N9; (try dsimp only); (try k_fold)) | (k_here; (with_reducible show wpAny _ _ (PySem.call (Value.ref 37) [_, _]) _ _ _); k_dflt (refine' cl_use (c_ins ?hi ?hs ?hf ?ho) ?k1 ?k2 ?k3 ?k4 ?k5 ?kK ?kd ?ku ?_; (case k1 => k_asm); (case k2 => k_asm); (case k3 => k_asm); (case k4 => k_asm); (case k5 => k_asm); (case kK => first | exact rfl | assumption); (case kd => ktr_room); (case ku => ktr_units); (case hi => assumption); (case hs => assumption); (case hf => omega); (case ho => assumption); k_whole); intro v9 nw9 h9 tk9 F9 N9 P9; (obtain ⟨e9, vs9, n9, e8, hI9⟩ := P9); subst e8; subst e9; (try dsimp only); (try k_fold)) | (k_here; (with_reducible show wpAny _ _ (PySem.call (Value.ref 55) [_, _]) _ _ _); k_dflt (refine' cl_use (c_bl2 ?hi ?hs ?hf) ?k1 ?k2 ?k3 ?k4 ?k5 ?kK ?kd ?ku ?_; (case k1 => k_asm); (case k2 => k_asm); (case k3 => k_asm); (case k4 => k_asm); (case k5 => k_asm); (case kK => first | exact rfl | assumption); (case kd => ktr_room); (case ku => ktr_units); (case hi => assumption); (case hs => assumption); (case hf => omega); k_whole); intro v9 nw9 h9 tk9 F9 N9 P9; (obtain ⟨e8, t8, e9⟩ := P9); subst e8; subst e9; (try dsimp only); (try k_fold)) | (k_unfold; (try dsimp only)) | (k_end; wrow_close) | walk1 | (dsimp only; walk1) | (leave1; walk_say "STEP leave1"; try dsimp only))
      refine ret_end hret ((lfam, listOf vf.toArray c') :: news) (by assumption) ?_ ⟨lfam, vf, fam, c', rfl, rfl, hl1, hI, hl, hne (by omega), hb⟩
      rename News h₀ Lc _ (_ :: (_ :: news)) => kN
      exact fun p hp => kN p ((List.mem_cons.mp hp).elim (fun e => e ▸ .head _) fun h => .tail _ (.tail _ h))
end
end

/- Wds -/
section
open PySem PySem.W PyProof.Rows PySem.Spec
set_option maxRecDepth 100000
section
variable {prog : Program} {w : World} {A : Around} {E : Value → Shared → Prop} {Q : Flow → Shared → Prop} {s : Shared} {env : Env} {h₀ : Heap} {L : Addr}
/-- for_range, from a start of its own -/
theorem for_rangeA {x : Str} {body : List Stmt} {r : Addr} {a₀ b₀ : Int} {t₀ u₀ v₀ : Tok} {n : Nat} {m₀ : Str → Option Value} {news : List (Addr × Obj)} (J : Nat → (Str → Option Value) → List (Addr × Obj) → Prop)
    (hh : A.handled = none) (hr : IsRange s.heap r a₀ b₀ 1 t₀ u₀ v₀) (hb : b₀ = a₀ + (n : Int)) (ha : 0 ≤ a₀ ∧ a₀ ≤ 100) (hn : n < 2 ^ 20) (F : Fr h₀ env.locals s.heap m₀) (N : News h₀ env.locals s.heap news) (hj : J 0 m₀ news)
    (turn : ∀ i t m₁ nx h tk own, i < n → nx.map (·.1) = news.map (·.1) → OwnOff own (news.map (·.1)) → J i m₁ nx → Fr h₀ env.locals h (fun y => if y = x then some (.int (a₀ + (i : Int)) t) else m₁ y) → News h₀ env.locals h (nx ++ own) →
      wpAny (model prog w) A (execs body env) (InvPostN h₀ env.locals (J (i + 1)) own (news.map (·.1)) { s with heap := h, toks := tk } Q) E { s with heap := h, toks := tk })
    (done : ∀ m₁ nx h tk, J n m₁ nx → nx.map (·.1) = news.map (·.1) → Fr h₀ env.locals h m₁ → News h₀ env.locals h nx → Q .next { s with heap := h, toks := tk }) :
    wpAny (model prog w) A (pyIter (.ref r)) (fun it s₂ => LoopAtV prog w A h₀ env x body Q E it s₂) E s := by
  subst hb
  refine wpAny_pyIter_range hr (small_one (by omega) (by omega) (by omega) (by omega)) ?_
  have hs : Builtin.Range.rangeSize a₀ (a₀ + (n : Int)) 1 = (n : Int) := by rw [rangeSize_nat]; omega
  have W : Walks prog w A s.heap.objs.size [s.heap.objs.size] [s.heap.objs.size] n (fun i v => i < n ∧ ∃ t, v = .int (a₀ + i * 1) t)
      (fun i h => IsRangeIter h s.heap.objs.size (a₀ + (i : Nat) * 1) ((n : Int) - (i : Nat)) 1) := (Walks.range hh _ a₀ 1 n).bound
  have notL : env.locals ∉ [s.heap.objs.size] := fun hm => absurd F.ns.lt ((List.mem_singleton.mp hm) ▸ Nat.lt_irrefl _)
  have notN : ∀ p ∈ news, p.1 ∉ [s.heap.objs.size] := fun p hp hI => absurd (Heap.lt_size (N p hp).1) ((List.mem_singleton.mp hI) ▸ Nat.lt_irrefl _)
  refine loop_invN (fun i m nx => J i m nx ∧ nx.map (·.1) = news.map (·.1)) W notL (fun b hb => ?_) notN notN (by show IsRangeIter _ _ _ _ _; rw [hs]; simpa using Heap.get?_push_size _ rfl) (F.push _) (fun p hp => ⟨Heap.get?_push_of_some _ (N p hp).1, (N p hp).2⟩) ⟨hj, rfl⟩ ?_ ?_
  · rw [List.mem_singleton.mp hb]
    exact next_is_new F
  · rintro i v m₁ nx h tk own hin ⟨_, t, rfl⟩ ha' ho ⟨hJ, _⟩ F₁ N₁
    rw [show a₀ + (i : Int) * 1 = a₀ + (i : Int) by omega] at F₁
    refine wpAny_mono (turn i t m₁ nx h tk own hin ha' ho hJ F₁ N₁) (fun f s₂ p => ?_) fun _ _ e => e
    have fin : InvEndN h₀ env.locals (J (i + 1)) own (news.map (·.1)) { s with heap := h, toks := tk } s₂ → InvEndN h₀ env.locals (fun m nx => J (i + 1) m nx ∧ nx.map (·.1) = news.map (·.1)) own (news.map (·.1)) { s with heap := h, toks := tk } s₂ := by
      rintro ⟨h', tk', m', news', nx', e, F', N', hn', ho', ha', hj'⟩
      exact ⟨h', tk', m', news', nx', e, F', N', hn', ho', ha', hj', ha'⟩
    cases f with
    | ret v => exact p
    | brk => exact p
    | next => exact fin p
    | cont => exact fin p
  · rintro m₁ nx h tk ⟨hJ, ha'⟩ F' N'
    exact done m₁ nx h tk hJ ha' F' N'
end
theorem word_succ (k x : Nat) : word (k + 1) x = word k x ++ (⟨#[(if x / 2 ^ k % 2 = 1 then 65 else 97) + k]⟩ : Str) := by
  unfold word
  rw [List.range_succ, List.map_append, ← List.append_toArray]
  rfl
theorem wds_snoc {L i : Nat} {ws : List Value} {t : Tok} (hl : ws.length = i) (h : ∀ j, j < i → ∃ t, ws[j]? = some (.str (word L j) t)) : (ws ++ [Value.str (word L i) t]).length = i + 1 ∧ ∀ j, j < i + 1 → ∃ t', (ws ++ [Value.str (word L i) t])[j]? = some (.str (word L j) t') := by
  refine ⟨by simp [hl], fun j hj => ?_⟩
  by_cases e : j < i
  · obtain ⟨t', h'⟩ := h j e
    exact ⟨t', by rw [List.getElem?_append_left (by omega)]; exact h'⟩
  · have : j = i := by omega
    subst this
    exact ⟨t, by rw [List.getElem?_append_right (by omega), hl]; simp⟩
theorem item_up {k : Nat} (h : k < 4) : Txt.item (Str.ofString "ABCD") (k : Int) = ⟨#[65 + k]⟩ := by
  have : k = 0 ∨ k = 1 ∨ k = 2 ∨ k = 3 := by omega
  rcases this with rfl | rfl | rfl | rfl <;> decide +kernel
theorem item_lo {k : Nat} (h : k < 4) : Txt.item (Str.ofString "abcd") (k : Int) = ⟨#[97 + k]⟩ := by
  have : k = 0 ∨ k = 1 ∨ k = 2 ∨ k = 3 := by omega
  rcases this with rfl | rfl | rfl | rfl <;> decide +kernel
theorem bit_int (i k : Nat) : Int.fmod (Int.fdiv (i : Int) (2 ^ (k : Int).toNat)) 2 = ((i / 2 ^ k % 2 : Nat) : Int) := by
  rw [Int.toNat_natCast, Int.fdiv_eq_ediv_of_nonneg _ (Int.le_of_lt (Int.pow_pos (by decide))), Int.fmod_eq_emod_of_nonneg _ (by decide)]
  simp
theorem word_up {i k : Nat} (h : Int.fmod (Int.fdiv (i : Int) (2 ^ (k : Int).toNat)) 2 = 1) (hk : k < 4) : word k i ++ Txt.item (Str.ofString "ABCD") (k : Int) = word (k + 1) i := by
  rw [bit_int] at h
  rw [word_succ, item_up hk, if_pos (by omega)]
theorem word_lo {i k : Nat} (h : Int.fmod (Int.fdiv (i : Int) (2 ^ (k : Int).toNat)) 2 ≠ 1) (hk : k < 4) : word k i ++ Txt.item (Str.ofString "abcd") (k : Int) = word (k + 1) i := by
  rw [bit_int] at h
  rw [word_succ, item_lo hk, if_neg (by omega)]
theorem half_b (i : Nat) : 0 ≤ Int.fdiv (1 + (i : Int)) (2 ^ Int.toNat 1) ∧ Int.fdiv (1 + (i : Int)) (2 ^ Int.toNat 1) < ((i + 1 : Nat) : Int) := by
  rw [Int.fdiv_eq_ediv_of_nonneg _ (by decide), show (2 : Int) ^ Int.toNat 1 = 2 by decide]
  omega
theorem sz_tab3 : ∀ i : Fin 7, ((sizesL 3 8).take (i.val + 1)).getD (Int.fdiv (1 + (i.val : Int)) (2 ^ Int.toNat 1)).toNat 0 + Builtin.bitAnd (1 + (i.val : Int)) 1 = (sizesL 3 8).getD (i.val + 1) 0 := by decide +kernel
theorem sz_tab4 : ∀ i : Fin 15, ((sizesL 4 16).take (i.val + 1)).getD (Int.fdiv (1 + (i.val : Int)) (2 ^ Int.toNat 1)).toNat 0 + Builtin.bitAnd (1 + (i.val : Int)) 1 = (sizesL 4 16).getD (i.val + 1) 0 := by decide +kernel
theorem sz_step3 {i : Nat} (h : i < 8 - 1) : ((sizesL 3 8).take (i + 1)).getD (Int.fdiv (1 + (i : Int)) (2 ^ Int.toNat 1)).toNat 0 + Builtin.bitAnd (1 + (i : Int)) 1 = (sizesL 3 8).getD (i + 1) 0 := sz_tab3 ⟨i, h⟩
theorem sz_step4 {i : Nat} (h : i < 16 - 1) : ((sizesL 4 16).take (i + 1)).getD (Int.fdiv (1 + (i : Int)) (2 ^ Int.toNat 1)).toNat 0 + Builtin.bitAnd (1 + (i : Int)) 1 = (sizesL 4 16).getD (i + 1) 0 := sz_tab4 ⟨i, h⟩
theorem take_snoc {l : List Int} {i : Nat} (h : i + 1 < l.length) : l.take (i + 1 + 1) = l.take (i + 1) ++ [l.getD (i + 1) 0] := by
  rw [List.take_succ_eq_append_getElem h, List.getD_eq_getElem?_getD, List.getElem?_eq_getElem h]
  rfl
theorem sz_step {L M i : Nat} (hLM : Lm L M) (h : i < M - 1) : ((sizesL L M).take (i + 1)).getD (Int.fdiv (1 + (i : Int)) (2 ^ Int.toNat 1)).toNat 0 + Builtin.bitAnd (1 + (i : Int)) 1 = (sizesL L M).getD (i + 1) 0 := by
  rcases hLM with ⟨rfl, rfl⟩ | ⟨rfl, rfl⟩
  · exact sz_step3 h
  · exact sz_step4 h
theorem sz_first {L M : Nat} (hLM : Lm L M) : (sizesL L M).take (0 + 1) = [0] := by
  rcases hLM with ⟨rfl, rfl⟩ | ⟨rfl, rfl⟩ <;> decide +kernel
theorem ints_snoc {vs : List Value} {ns ms : List Int} {x : Int} {t : Tok} (h : IntsAre vs ns) (e : ms = ns ++ [x]) : IntsAre (vs ++ [Value.int x t]) ms := by
  subst e
  exact ints_append h (.cons _ _ .nil)
end

/- C10 -/
section
open PySem PySem.W PyProof.Rows PySem.Spec
set_option maxRecDepth 100000
set_option maxHeartbeats 4000000

theorem c_words {L M : Nat} (hLM : Lm L M) {w : World} {mean : ExcName → Option Value} {mg mb : Str → Option Value} {news : List (Addr × Obj)} {t : Tok} :
    Cl w mean mg mb 118 2 16 news [.int (L : Int) t] (fun v news' => ∃ l ws n, v = .ref l ∧ news' = (l, listOf ws.toArray n) :: news ∧ (∀ p ∈ news, p.1 < l) ∧ WordsOK L M ws) := by
  w_top off
  unfold Cl
  k_fill
  intro dp un gd cn cs a' ccd cl outer A₀ base h₀ Lc m s Q E B F X N T hk hdp hu hret
  obtain ⟨loo, T⟩ := T
  have kMark : KstMark := kstMark
  obtain ⟨hL4, hM16, hM8, hL3⟩ := lm_bd hLM
  refine wpAny_call ?_
  k_dflt ((refine' code_def ?k1 ?k2 ?k3 ?k4 ?k5 ?kA ?kF ?kK ?k6 ?k7 ?k8 ?k9 ?kB ?_ ?c2 ?c3 ?c4 ?c5; (case kA => exact rfl); (case kF => exact rfl); (case kK => first | exact rfl | assumption); (case k1 => k_asm); (case k2 => k_asm); (case k3 => k_asm); (case k4 => k_asm); (case k5 => k_asm); (case k6 => k_is); (case k7 => k_is); (case k8 => ktr_room); (case k9 => (first | exact BindsTo.of_eq rfl | (refine' kp_binds ?kx ?ke; (case kx => k_in); (case ke => exact fun _ => rfl)))); (case c5 => decide); (case kB => exact locs rfl); (case c2 => exact rfl); (case c3 => exact rfl); (case c4 => exact rfl); k_whole; intro g' L' h' FG' F' N' B' X' T'; (try dsimp only); (try k_lift B'); (try k_fold)))
  repeat' ((fail_if_success (with_reducible show wpAny _ _ (PySem.exec (PySem.Stmt.For _ _ _ _ _) _) _ _ _)); (fail_if_success (with_reducible show wpAny _ _ (PySem.exec (PySem.Stmt.While _ _ _ _) _) _ _ _)); (fail_if_success (with_reducible show wpAny _ _ (PySem.pyIter _) _ _ _)); first | ((with_reducible show wpAny _ _ (binaryOp Operator.Pow (Value.int 2 _) (Value.int _ _)) _ _ _); (with_reducible refine pow_letters hLM ?_); (try dsimp only)) | (k_unfold; (try dsimp only)) | (k_end; wrow_close) | walk1 | (dsimp only; walk1) | (leave1; walk_say "STEP leave1"; try dsimp only))
  rename_i lw hh1 hl1 hh2 Fx Nx
  have ho1 : ∀ p ∈ news, p.1 ≠ lw := fun p hp => Nat.ne_of_lt (hl1 p hp)
  k_here
  (rename Fr _ _ _ _ => lF')
  (with_unfolding_all refine' For_invVF lF' ?k1 ?k2 ?_)
  (case k1 => exact rfl)
  (case k2 => exact rfl)
  k_whole
  repeat' ((fail_if_success (with_reducible show wpAny _ _ (PySem.exec (PySem.Stmt.For _ _ _ _ _) _) _ _ _)); (fail_if_success (with_reducible show wpAny _ _ (PySem.exec (PySem.Stmt.While _ _ _ _) _) _ _ _)); (fail_if_success (with_reducible show wpAny _ _ (PySem.pyIter _) _ _ _)); first | ((with_reducible show wpAny _ _ (binaryOp Operator.Pow (Value.int 2 _) (Value.int _ _)) _ _ _); (with_reducible refine pow_letters hLM ?_); (try dsimp only)) | (k_unfold; (try dsimp only)) | (k_end; wrow_close) | walk1 | (dsimp only; walk1) | (leave1; walk_say "STEP leave1"; try dsimp only))
  (rename IsRange _ _ _ _ _ _ _ _ => rg)
  (rename Fr _ _ _ _ => F1)
  (rename News _ _ _ (_ :: news) => N1)
  refine for_range (n := M) (fun i m nx => ∃ ws c, nx = (lw, listOf ws.toArray c) :: news ∧ (ws.length = i ∧ ∀ j, j < i → ∃ t, ws[j]? = some (.str (word L j) t)) ∧ m (Str.ofString "words") = some (.ref lw) ∧ m (Str.ofString "letters") = some (.int (L : Int) t)) rfl rg rfl (by omega) F1 N1 ⟨[], 0, rfl, ⟨rfl, fun j h => absurd h (Nat.not_lt_zero _)⟩, rfl, rfl⟩ ?_ ?_
  · rintro i ti m1 nx h5 tk5 own hin hadr hoff ⟨ws, c, rfl, hW, e1, e2⟩ F5 N5
    have F6 := fr_under [(Str.ofString "words", .ref lw), (Str.ofString "letters", .int (L : Int) t)] F5 (fm1 e1 (fm1 e2 fm0))
    clear F5
    dsimp only [kstB] at F6
    have ho6 := off_app ho1 (hoff.ne (List.mem_cons_self ..))
    rw [List.cons_append] at N5
    dsimp only at F6 N5 ⊢
    repeat' ((fail_if_success (with_reducible show wpAny _ _ (PySem.exec (PySem.Stmt.For _ _ _ _ _) _) _ _ _)); (fail_if_success (with_reducible show wpAny _ _ (PySem.exec (PySem.Stmt.While _ _ _ _) _) _ _ _)); (fail_if_success (with_reducible show wpAny _ _ (PySem.pyIter _) _ _ _)); first | ((with_reducible show wpAny _ _ (binaryOp Operator.Pow (Value.int 2 _) (Value.int _ _)) _ _ _); (with_reducible refine pow_letters hLM ?_); (try dsimp only)) | (k_unfold; (try dsimp only)) | (k_end; wrow_close) | walk1 | (dsimp only; walk1) | (leave1; walk_say "STEP leave1"; try dsimp only))
    k_here
    (rename Fr _ _ _ _ => lF')
    (with_unfolding_all refine' For_invVF lF' ?k1 ?k2 ?_)
    (case k1 => exact rfl)
    (case k2 => exact rfl)
    k_whole
    repeat' ((fail_if_success (with_reducible show wpAny _ _ (PySem.exec (PySem.Stmt.For _ _ _ _ _) _) _ _ _)); (fail_if_success (with_reducible show wpAny _ _ (PySem.exec (PySem.Stmt.While _ _ _ _) _) _ _ _)); (fail_if_success (with_reducible show wpAny _ _ (PySem.pyIter _) _ _ _)); first | ((with_reducible show wpAny _ _ (binaryOp Operator.Pow (Value.int 2 _) (Value.int _ _)) _ _ _); (with_reducible refine pow_letters hLM ?_); (try dsimp only)) | (k_unfold; (try dsimp only)) | (k_end; wrow_close) | walk1 | (dsimp only; walk1) | (leave1; walk_say "STEP leave1"; try dsimp only))
    (rename IsRange _ _ _ _ _ _ _ _ => rg2)
    (rename Fr _ _ _ _ => F2)
    (rename News _ _ _ (_ :: (news ++ own)) => N2)
    refine for_range (n := L) (fun k m nx => nx = (lw, listOf ws.toArray c) :: (news ++ own) ∧ (∃ t, m (Str.ofString "word") = some (.str (word k i) t)) ∧ m (Str.ofString "words") = some (.ref lw) ∧ m (Str.ofString "letters") = some (.int (L : Int) t) ∧ m (Str.ofString "x") = some (.int i ti)) rfl rg2 rfl (by omega) F2 N2 ?_ ?_ ?_
    · exact ⟨rfl, ⟨_, rfl⟩, rfl, rfl, rfl⟩
    · rintro k tk2 m2 nx2 h6 tk6 own2 hin2 hadr2 hoff2 ⟨rfl, ⟨tw, f1⟩, f2, f3, f4⟩ F7 N7
      have F8 := fr_under [(Str.ofString "word", .str (word k i) tw), (Str.ofString "words", .ref lw), (Str.ofString "letters", .int (L : Int) t), (Str.ofString "x", .int i ti)] F7 (fm1 f1 (fm1 f2 (fm1 f3 (fm1 f4 fm0))))
      clear F7
      dsimp only [kstB] at F8
      have hwl : (word k i).length ≤ 4 := by rw [word_len]; omega
      dsimp only at F8 N7 ⊢
      repeat' ((fail_if_success (with_reducible show wpAny _ _ (PySem.exec (PySem.Stmt.For _ _ _ _ _) _) _ _ _)); (fail_if_success (with_reducible show wpAny _ _ (PySem.exec (PySem.Stmt.While _ _ _ _) _) _ _ _)); (fail_if_success (with_reducible show wpAny _ _ (PySem.pyIter _) _ _ _)); first | ((with_reducible show wpAny _ _ (binaryOp Operator.Pow (Value.int 2 _) (Value.int _ _)) _ _ _); (with_reducible refine pow_letters hLM ?_); (try dsimp only)) | (k_unfold; (try dsimp only)) | (k_end; wrow_close) | walk1 | (dsimp only; walk1) | (leave1; walk_say "STEP leave1"; try dsimp only))
      · refine inv_end ((lw, listOf ws.toArray c) :: (news ++ own)) (by assumption) (by assumption) (fun p hp => List.mem_append_left _ hp) (fun p hp => List.mem_append_right _ hp) ?hmap ?hJ
        case hJ => exact ⟨rfl, ⟨_, congrArg (fun z => some (Value.str z _)) (word_up (by assumption) (by omega))⟩, rfl, rfl, rfl⟩
        case hmap => rfl
      · refine inv_end ((lw, listOf ws.toArray c) :: (news ++ own)) (by assumption) (by assumption) (fun p hp => List.mem_append_left _ hp) (fun p hp => List.mem_append_right _ hp) ?hmap ?hJ
        case hJ => exact ⟨rfl, ⟨_, congrArg (fun z => some (Value.str z _)) (word_lo (by assumption) (by omega))⟩, rfl, rfl, rfl⟩
        case hmap => rfl
    · rintro m2 nx2 h6 tk6 ⟨rfl, ⟨tw, f1⟩, f2, f3, f4⟩ hadr2 F7 N7
      have F8 := fr_known [(Str.ofString "word", .str (word L i) tw), (Str.ofString "words", .ref lw), (Str.ofString "letters", .int (L : Int) t)] F7 (fm1 f1 (fm1 f2 (fm1 f3 fm0)))
      clear F7
      dsimp only [kstB] at F8
      dsimp only at F8 N7 ⊢
      repeat' ((fail_if_success (with_reducible show wpAny _ _ (PySem.exec (PySem.Stmt.For _ _ _ _ _) _) _ _ _)); (fail_if_success (with_reducible show wpAny _ _ (PySem.exec (PySem.Stmt.While _ _ _ _) _) _ _ _)); (fail_if_success (with_reducible show wpAny _ _ (PySem.pyIter _) _ _ _)); first | ((with_reducible show wpAny _ _ (binaryOp Operator.Pow (Value.int 2 _) (Value.int _ _)) _ _ _); (with_reducible refine pow_letters hLM ?_); (try dsimp only)) | (k_unfold; (try dsimp only)) | (k_end; wrow_close) | walk1 | (dsimp only; walk1) | (leave1; walk_say "STEP leave1"; try dsimp only))
      rename News _ _ _ (_ :: (news ++ own)) => N9
      simp only [List.push_toArray] at N9
      refine inv_end (_ :: news) (by assumption) N9 (fun p hp => mem_l hp) (fun p hp => mem_r hp) ?hmap ?hJ
      case hJ => exact ⟨_, _, rfl, wds_snoc hW.1 hW.2, rfl, rfl⟩
      case hmap => rfl
  · rintro m1 nx h5 tk5 ⟨ws, c, rfl, hW, e1, e2⟩ hadr F5 N5
    have F6 := fr_known [(Str.ofString "words", .ref lw)] F5 (fm1 e1 fm0)
    clear F5
    dsimp only [kstB] at F6
    dsimp only at F6 N5 ⊢
    repeat' ((fail_if_success (with_reducible show wpAny _ _ (PySem.exec (PySem.Stmt.For _ _ _ _ _) _) _ _ _)); (fail_if_success (with_reducible show wpAny _ _ (PySem.exec (PySem.Stmt.While _ _ _ _) _) _ _ _)); (fail_if_success (with_reducible show wpAny _ _ (PySem.pyIter _) _ _ _)); first | ((with_reducible show wpAny _ _ (binaryOp Operator.Pow (Value.int 2 _) (Value.int _ _)) _ _ _); (with_reducible refine pow_letters hLM ?_); (try dsimp only)) | (k_unfold; (try dsimp only)) | (k_end; wrow_close) | walk1 | (dsimp only; walk1) | (leave1; walk_say "STEP leave1"; try dsimp only))
    exact ret_end hret _ (by assumption) (by assumption) ⟨lw, ws, c, rfl, rfl, hl1, hW⟩
end

/- C11 -/
section
open PySem PySem.W PyProof.Rows PySem.Spec
set_option maxRecDepth 100000
set_option maxHeartbeats 4000000

theorem c_sizes {L M : Nat} (hLM : Lm L M) {w : World} {mean : ExcName → Option Value} {mg mb : Str → Option Value} {news : List (Addr × Obj)} {t : Tok} :
    Cl w mean mg mb 125 3 24 news [.int (L : Int) t] (fun v news' => ∃ l zs n, v = .ref l ∧ news' = (l, listOf zs.toArray n) :: news ∧ (∀ p ∈ news, p.1 < l) ∧ IntsAre zs (sizesL L M)) := by
  w_top off
  unfold Cl
  k_fill
  intro dp un gd cn cs a' ccd cl outer A₀ base h₀ Lc m s Q E B F X N T hk hdp hu hret
  obtain ⟨loo, T⟩ := T
  have kMark : KstMark := kstMark
  obtain ⟨hL4, hM16, hM8, hL3⟩ := lm_bd hLM
  refine wpAny_call ?_
  k_dflt ((refine' code_def ?k1 ?k2 ?k3 ?k4 ?k5 ?kA ?kF ?kK ?k6 ?k7 ?k8 ?k9 ?kB ?_ ?c2 ?c3 ?c4 ?c5; (case kA => exact rfl); (case kF => exact rfl); (case kK => first | exact rfl | assumption); (case k1 => k_asm); (case k2 => k_asm); (case k3 => k_asm); (case k4 => k_asm); (case k5 => k_asm); (case k6 => k_is); (case k7 => k_is); (case k8 => ktr_room); (case k9 => (first | exact BindsTo.of_eq rfl | (refine' kp_binds ?kx ?ke; (case kx => k_in); (case ke => exact fun _ => rfl)))); (case c5 => decide); (case kB => exact locs rfl); (case c2 => exact rfl); (case c3 => exact rfl); (case c4 => exact rfl); k_whole; intro g' L' h' FG' F' N' B' X' T'; (try dsimp only); (try k_lift B'); (try k_fold)))
  repeat' ((fail_if_success (with_reducible show wpAny _ _ (PySem.exec (PySem.Stmt.For _ _ _ _ _) _) _ _ _)); (fail_if_success (with_reducible show wpAny _ _ (PySem.exec (PySem.Stmt.While _ _ _ _) _) _ _ _)); (fail_if_success (with_reducible show wpAny _ _ (PySem.pyIter _) _ _ _)); first | ((with_reducible show wpAny _ _ (subscriptTail (Expr.Name _ _) (Expr.Call _ _ _ _) (Value.ref _) (Value.int _ _)) _ _ _); (k_here; k_dflt (refine' ksa_sub ?k1 ?k2 ?k3 ?k4 ?k5 ?k6 ?_ ?k7; (case k1 => k_asm); (case k2 => exact .head _); (case k3 => assumption); (case k4 => exact (half_b _).1); (case k5 => (rw [hlz]; exact (half_b _).2)); (case k6 => (have hb9 := (half_b i).2; omega)); (case k7 => with_unfolding_all rfl); k_whole); intro _)) | (k_here; (with_reducible show wpAny _ _ (PySem.call (Value.ref _) _) _ _ _); (refine wpAny_call ?_); k_dflt ((refine' code_def ?k1 ?k2 ?k3 ?k4 ?k5 ?kA ?kF ?kK ?k6 ?k7 ?k8 ?k9 ?kB ?_ ?c2 ?c3 ?c4 ?c5; (case kA => exact rfl); (case kF => exact rfl); (case kK => first | exact rfl | assumption); (case k1 => k_asm); (case k2 => k_asm); (case k3 => k_asm); (case k4 => k_asm); (case k5 => k_asm); (case k6 => k_is); (case k7 => k_is); (case k8 => ktr_room); (case k9 => (first | exact BindsTo.of_eq rfl | (refine' kp_binds ?kx ?ke; (case kx => k_in); (case ke => exact fun _ => rfl)))); (case c5 => decide); (case kB => exact locs rfl); (case c2 => exact rfl); (case c3 => exact rfl); (case c4 => exact rfl); k_whole; intro g' L' h' FG' F' N' B' X' T'; (try dsimp only); (try k_lift B'); (try k_fold)))) | ((with_reducible show wpAny _ _ (binaryOp Operator.Pow (Value.int 2 _) (Value.int _ _)) _ _ _); (with_reducible refine pow_letters hLM ?_); (try dsimp only)) | (k_unfold; (try dsimp only)) | (k_end; wrow_close) | walk1 | (dsimp only; walk1) | (leave1; walk_say "STEP leave1"; try dsimp only))
  rename_i lz hh1 hl1 hh2 Fx Nx
  have ho1 : ∀ p ∈ news, p.1 ≠ lz := fun p hp => Nat.ne_of_lt (hl1 p hp)
  k_here
  (rename Fr _ _ _ _ => lF')
  (with_unfolding_all refine' For_invVF lF' ?k1 ?k2 ?_)
  (case k1 => exact rfl)
  (case k2 => exact rfl)
  k_whole
  repeat' ((fail_if_success (with_reducible show wpAny _ _ (PySem.exec (PySem.Stmt.For _ _ _ _ _) _) _ _ _)); (fail_if_success (with_reducible show wpAny _ _ (PySem.exec (PySem.Stmt.While _ _ _ _) _) _ _ _)); (fail_if_success (with_reducible show wpAny _ _ (PySem.pyIter _) _ _ _)); first | ((with_reducible show wpAny _ _ (subscriptTail (Expr.Name _ _) (Expr.Call _ _ _ _) (Value.ref _) (Value.int _ _)) _ _ _); (k_here; k_dflt (refine' ksa_sub ?k1 ?k2 ?k3 ?k4 ?k5 ?k6 ?_ ?k7; (case k1 => k_asm); (case k2 => exact .head _); (case k3 => assumption); (case k4 => exact (half_b _).1); (case k5 => (rw [hlz]; exact (half_b _).2)); (case k6 => (have hb9 := (half_b i).2; omega)); (case k7 => with_unfolding_all rfl); k_whole); intro _)) | (k_here; (with_reducible show wpAny _ _ (PySem.call (Value.ref _) _) _ _ _); (refine wpAny_call ?_); k_dflt ((refine' code_def ?k1 ?k2 ?k3 ?k4 ?k5 ?kA ?kF ?kK ?k6 ?k7 ?k8 ?k9 ?kB ?_ ?c2 ?c3 ?c4 ?c5; (case kA => exact rfl); (case kF => exact rfl); (case kK => first | exact rfl | assumption); (case k1 => k_asm); (case k2 => k_asm); (case k3 => k_asm); (case k4 => k_asm); (case k5 => k_asm); (case k6 => k_is); (case k7 => k_is); (case k8 => ktr_room); (case k9 => (first | exact BindsTo.of_eq rfl | (refine' kp_binds ?kx ?ke; (case kx => k_in); (case ke => exact fun _ => rfl)))); (case c5 => decide); (case kB => exact locs rfl); (case c2 => exact rfl); (case c3 => exact rfl); (case c4 => exact rfl); k_whole; intro g' L' h' FG' F' N' B' X' T'; (try dsimp only); (try k_lift B'); (try k_fold)))) | ((with_reducible show wpAny _ _ (binaryOp Operator.Pow (Value.int 2 _) (Value.int _ _)) _ _ _); (with_reducible refine pow_letters hLM ?_); (try dsimp only)) | (k_unfold; (try dsimp only)) | (k_end; wrow_close) | walk1 | (dsimp only; walk1) | (leave1; walk_say "STEP leave1"; try dsimp only))
  (rename IsRange _ _ _ _ _ _ _ _ => rg)
  (rename Fr _ _ _ _ => F1)
  (rename News _ _ _ (_ :: news) => N1)
  refine for_rangeA (n := M - 1) (fun i m nx => ∃ zs c, nx = (lz, listOf zs.toArray c) :: news ∧ IntsAre zs ((sizesL L M).take (i + 1)) ∧ m (Str.ofString "sizes") = some (.ref lz)) rfl rg (by omega) (by omega) (by omega) F1 N1 ⟨[_], 0, rfl, by rw [sz_first hLM]; exact .cons _ _ .nil, rfl⟩ ?_ ?_
  · rintro i ti m1 nx h5 tk5 own hin hadr hoff ⟨zs, c, rfl, hZ, e1⟩ F5 N5
    have F6 := fr_under [(Str.ofString "sizes", .ref lz)] F5 (fm1 e1 fm0)
    clear F5
    dsimp only [kstB] at F6
    have ho6 := off_app ho1 (hoff.ne (List.mem_cons_self ..))
    rw [List.cons_append] at N5
    have hlz : ((sizesL L M).take (i + 1)).length = i + 1 := by rw [List.length_take, sizesL_len]; omega
    dsimp only at F6 N5 ⊢
    repeat' ((fail_if_success (with_reducible show wpAny _ _ (PySem.exec (PySem.Stmt.For _ _ _ _ _) _) _ _ _)); (fail_if_success (with_reducible show wpAny _ _ (PySem.exec (PySem.Stmt.While _ _ _ _) _) _ _ _)); (fail_if_success (with_reducible show wpAny _ _ (PySem.pyIter _) _ _ _)); first | ((with_reducible show wpAny _ _ (subscriptTail (Expr.Name _ _) (Expr.Call _ _ _ _) (Value.ref _) (Value.int _ _)) _ _ _); (k_here; k_dflt (refine' ksa_sub ?k1 ?k2 ?k3 ?k4 ?k5 ?k6 ?_ ?k7; (case k1 => k_asm); (case k2 => exact .head _); (case k3 => assumption); (case k4 => exact (half_b _).1); (case k5 => (rw [hlz]; exact (half_b _).2)); (case k6 => (have hb9 := (half_b i).2; omega)); (case k7 => with_unfolding_all rfl); k_whole); intro _)) | (k_here; (with_reducible show wpAny _ _ (PySem.call (Value.ref _) _) _ _ _); (refine wpAny_call ?_); k_dflt ((refine' code_def ?k1 ?k2 ?k3 ?k4 ?k5 ?kA ?kF ?kK ?k6 ?k7 ?k8 ?k9 ?kB ?_ ?c2 ?c3 ?c4 ?c5; (case kA => exact rfl); (case kF => exact rfl); (case kK => first | exact rfl | assumption); (case k1 => k_asm); (case k2 => k_asm); (case k3 => k_asm); (case k4 => k_asm); (case k5 => k_asm); (case k6 => k_is); (case k7 => k_is); (case k8 => ktr_room); (case k9 => (first | exact BindsTo.of_eq rfl | (refine' kp_binds ?kx ?ke; (case kx => k_in); (case ke => exact fun _ => rfl)))); (case c5 => decide); (case kB => exact locs rfl); (case c2 => exact rfl); (case c3 => exact rfl); (case c4 => exact rfl); k_whole; intro g' L' h' FG' F' N' B' X' T'; (try dsimp only); (try k_lift B'); (try k_fold)))) | ((with_reducible show wpAny _ _ (binaryOp Operator.Pow (Value.int 2 _) (Value.int _ _)) _ _ _); (with_reducible refine pow_letters hLM ?_); (try dsimp only)) | (k_unfold; (try dsimp only)) | (k_end; wrow_close) | walk1 | (dsimp only; walk1) | (leave1; walk_say "STEP leave1"; try dsimp only))
    rename News _ _ _ (_ :: (news ++ own)) => N9
    simp only [List.push_toArray] at N9
    refine inv_end (_ :: news) (by assumption) N9 (fun p hp => mem_l hp) (fun p hp => mem_r hp) ?hmap ?hJ
    case hJ => exact ⟨_, _, rfl, ints_snoc hZ (by rw [take_snoc (by rw [sizesL_len]; omega), sz_step hLM hin]), rfl⟩
    case hmap => rfl
  · rintro m1 nx h5 tk5 ⟨zs, c, rfl, hZ, e1⟩ hadr F5 N5
    have F6 := fr_known [(Str.ofString "sizes", .ref lz)] F5 (fm1 e1 fm0)
    clear F5
    dsimp only [kstB] at F6
    dsimp only at F6 N5 ⊢
    repeat' ((fail_if_success (with_reducible show wpAny _ _ (PySem.exec (PySem.Stmt.For _ _ _ _ _) _) _ _ _)); (fail_if_success (with_reducible show wpAny _ _ (PySem.exec (PySem.Stmt.While _ _ _ _) _) _ _ _)); (fail_if_success (with_reducible show wpAny _ _ (PySem.pyIter _) _ _ _)); first | ((with_reducible show wpAny _ _ (subscriptTail (Expr.Name _ _) (Expr.Call _ _ _ _) (Value.ref _) (Value.int _ _)) _ _ _); (k_here; k_dflt (refine' ksa_sub ?k1 ?k2 ?k3 ?k4 ?k5 ?k6 ?_ ?k7; (case k1 => k_asm); (case k2 => exact .head _); (case k3 => assumption); (case k4 => exact (half_b _).1); (case k5 => (rw [hlz]; exact (half_b _).2)); (case k6 => (have hb9 := (half_b i).2; omega)); (case k7 => with_unfolding_all rfl); k_whole); intro _)) | (k_here; (with_reducible show wpAny _ _ (PySem.call (Value.ref _) _) _ _ _); (refine wpAny_call ?_); k_dflt ((refine' code_def ?k1 ?k2 ?k3 ?k4 ?k5 ?kA ?kF ?kK ?k6 ?k7 ?k8 ?k9 ?kB ?_ ?c2 ?c3 ?c4 ?c5; (case kA => exact rfl); (case kF => exact rfl); (case kK => first | exact rfl | assumption); (case k1 => k_asm); (case k2 => k_asm); (case k3 => k_asm); (case k4 => k_asm); (case k5 => k_asm); (case k6 => k_is); (case k7 => k_is); (case k8 => ktr_room); (case k9 => (first | exact BindsTo.of_eq rfl | (refine' kp_binds ?kx ?ke; (case kx => k_in); (case ke => exact fun _ => rfl)))); (case c5 => decide); (case kB => exact locs rfl); (case c2 => exact rfl); (case c3 => exact rfl); (case c4 => exact rfl); k_whole; intro g' L' h' FG' F' N' B' X' T'; (try dsimp only); (try k_lift B'); (try k_fold)))) | ((with_reducible show wpAny _ _ (binaryOp Operator.Pow (Value.int 2 _) (Value.int _ _)) _ _ _); (with_reducible refine pow_letters hLM ?_); (try dsimp only)) | (k_unfold; (try dsimp only)) | (k_end; wrow_close) | walk1 | (dsimp only; walk1) | (leave1; walk_say "STEP leave1"; try dsimp only))
    exact ret_end hret _ (by assumption) (by assumption) ⟨lz, zs, c, rfl, rfl, hl1, by rw [List.take_of_length_le (by rw [sizesL_len]; omega)] at hZ; exact hZ⟩
end

/- Cmp -/
section
open PySem PySem.W PyProof.Rows PySem.Spec
set_option maxRecDepth 100000
theorem compTurn_in (elt t0 i0 t1 i1 : PySem.Expr) (scope : Scope) (pos : Pos) (it acc : Value) (env : Env) :
    compTurn (.ListComp elt [⟨t0, i0, [], 0⟩, ⟨t1, i1, [], 0⟩] scope pos) 1 it acc env = (standAt i1.pos >>= fun _ => pyNext it >>= fun r => match r with
      | none => pure (.done .next)
      | some v => letOwnedTupleGo t1 it v >>= fun _ => assign t1 env v >>= fun _ =>
        (eval elt env >>= fun x => call (.builtin "list.append") [acc, x] >>= fun _ => pure ()) >>= fun _ =>
          again (.compLoop (.ListComp elt [⟨t0, i0, [], 0⟩, ⟨t1, i1, [], 0⟩] scope pos) 1 it acc env)) := by rfl
theorem compTurn_out (elt t0 i0 t1 i1 : PySem.Expr) (scope : Scope) (pos : Pos) (it acc : Value) (env : Env) :
    compTurn (.ListComp elt [⟨t0, i0, [], 0⟩, ⟨t1, i1, [], 0⟩] scope pos) 0 it acc env = (standAt i0.pos >>= fun _ => pyNext it >>= fun r => match r with
      | none => pure (.done .next)
      | some v => letOwnedTupleGo t0 it v >>= fun _ => assign t0 env v >>= fun _ =>
        eval i1 env >>= fun x => standAt i1.pos >>= fun _ => foldedSetIterable i1 env x >>= fun x => holding [x] (pyIter x) >>= fun it' =>
          runOwn (.compStart (.ListComp elt [⟨t0, i0, [], 0⟩, ⟨t1, i1, [], 0⟩] scope pos) 1 it' acc env) env >>= fun _ =>
          again (.compLoop (.ListComp elt [⟨t0, i0, [], 0⟩, ⟨t1, i1, [], 0⟩] scope pos) 0 it acc env)) := by rfl
section
variable {prog : Program} {w : World} {A : Around} {R : Result → Shared → Prop} {s : Shared} {elt t0 i0 t1 i1 : PySem.Expr} {scope : Scope} {pos : Pos} {it acc : Value} {env : Env}
abbrev e2 (elt t0 i0 t1 i1 : PySem.Expr) (scope : Scope) (pos : Pos) : PySem.Expr := .ListComp elt [⟨t0, i0, [], 0⟩, ⟨t1, i1, [], 0⟩] scope pos
theorem loop_in (I : Nat → Shared → Prop)
    (turn : ∀ n s (E' : Value → Shared → Prop), I n s → wpAny (model prog w) A (pyNext it) (fun r s₁ => match r with
      | none => R (.ok .next) s₁
      | some v => wpAny (model prog w) A (assign t1 env v) (fun _ s₂ => wpAny (model prog w) A (eval elt env) (fun x s₃ =>
          wpAny (model prog w) A (call (.builtin "list.append") [acc, x]) (fun _ s₄ => ∃ m, m < n ∧ I m s₄) E' s₃) E' s₂) E' s₁) E' s)
    (n : Nat) (h : I n s) (ht : ∀ v, letOwnedTupleGo t1 it v = pure ()) :
    codeAny (model prog w) A (.compLoop (e2 elt t0 i0 t1 i1 scope pos) 1 it acc env) R s := by
  refine codeAny_loop rfl I (fun n s hI => ?_) n h
  show wpAny _ _ ((compTurn (e2 elt t0 i0 t1 i1 scope pos) 1 it acc env).onRaise (fun x => do noteFrame x env; theTreesLotGoes x)) _ _ s
  refine wpAny_noted ?_
  rw [compTurn_in]
  refine wpAny_bind (wpAny_standAt (wpAny_bind (wpAny_mono (turn n s _ hI) (fun r s₁ h₁ => ?_) fun _ _ h' => h')))
  cases r with
  | none => exact wpAny_pure h₁
  | some v =>
    refine wpAny_bind (wpAny_of_eq (ht v) ?_)
    exact wpAny_bind (wpAny_mono h₁ (fun _ s₂ h₂ => wpAny_bind (wpAny_bind (wpAny_mono h₂ (fun x s₃ h₃ => wpAny_bind (wpAny_mono h₃
      (fun _ s₄ h₄ => wpAny_pure (wpAny_pure ⟨rfl, h₄⟩)) fun _ _ h' => h')) fun _ _ h' => h'))) fun _ _ h' => h')
theorem start_in (h : ∀ E' : Value → Shared → Prop, wpAny (model prog w) A (pyIter it) (fun it' s' => codeAny (model prog w) A (.compLoop (e2 elt t0 i0 t1 i1 scope pos) 1 it' acc env) R s') E' s)
    (h0 : codeAny (model prog w) A (.compLoop (e2 elt t0 i0 t1 i1 scope pos) 1 it acc env) R s) :
    codeAny (model prog w) A (.compStart (e2 elt t0 i0 t1 i1 scope pos) 1 it acc env) R s := by
  refine codeAny_of_tree ?_
  show wpAny _ _ ((compStart (e2 elt t0 i0 t1 i1 scope pos) 1 it acc env).onRaise (fun x => do noteFrame x env; standAt theWindowsPlace)) _ _ s
  refine wpAny_notedAt ?_
  unfold compStart
  show wpAny _ _ (ask >>= _) _ _ s
  refine wpAny_bind (wpAny_askSetting (wpAny_ite ?_))
  split
  · first
      | exact wpAny_bind (wpAny_pure (wpAny_pure (And.intro rfl h0)))
      | exact wpAny_pure (And.intro rfl h0)
  · refine wpAny_bind (wpAny_rule ?_)
    show wpAny _ _ (standAt i1.pos >>= _) _ _ s
    exact wpAny_bind (wpAny_standAt (wpAny_bind (wpAny_mono (h _) (fun it' s' h' => wpAny_pure (And.intro rfl h')) fun _ _ x => x)))
theorem loop_out (I : Nat → Shared → Prop)
    (turn : ∀ n s (E' : Value → Shared → Prop), I n s → wpAny (model prog w) A (pyNext it) (fun r s₁ => match r with
      | none => R (.ok .next) s₁
      | some v => wpAny (model prog w) A (assign t0 env v) (fun _ s₂ => wpAny (model prog w) A (eval i1 env) (fun x s₃ => wpAny (model prog w) A (pyIter x) (fun it' s₄ =>
          codeAny (model prog w) A (.compStart (e2 elt t0 i0 t1 i1 scope pos) 1 it' acc env) (fun r s₅ => match r with | .ok .next => ∃ m, m < n ∧ I m s₅ | _ => False) s₄) E' s₃) E' s₂) E' s₁) E' s)
    (n : Nat) (h : I n s) (ht : ∀ v, letOwnedTupleGo t0 it v = pure ()) (hs : ∀ x, foldedSetIterable i1 env x = pure x) :
    codeAny (model prog w) A (.compLoop (e2 elt t0 i0 t1 i1 scope pos) 0 it acc env) R s := by
  refine codeAny_loop rfl I (fun n s hI => ?_) n h
  show wpAny _ _ ((compTurn (e2 elt t0 i0 t1 i1 scope pos) 0 it acc env).onRaise (fun x => do noteFrame x env; theTreesLotGoes x)) _ _ s
  refine wpAny_noted ?_
  rw [compTurn_out]
  refine wpAny_bind (wpAny_standAt (wpAny_bind (wpAny_mono (turn n s _ hI) (fun r s₁ h₁ => ?_) fun _ _ h' => h')))
  cases r with
  | none => exact wpAny_pure h₁
  | some v =>
    refine wpAny_bind (wpAny_of_eq (ht v) ?_)
    refine wpAny_bind (wpAny_mono h₁ (fun _ s₂ h₂ => ?_) fun _ _ h' => h')
    refine wpAny_bind (wpAny_mono h₂ (fun x s₃ h₃ => ?_) fun _ _ h' => h')
    refine wpAny_bind (wpAny_standAt (wpAny_bind (wpAny_of_eq (hs x) (wpAny_bind (wpAny_holding (wpAny_mono h₃ (fun it' s₄ h₄ => ?_) fun _ _ h' => h'))))))
    refine wpAny_bind (wpAny_runOwn (codeAny_mono h₄ fun r s₅ h₅ => ?_))
    match r, h₅ with
    | .ok .next, h₅ => exact wpAny_pure ⟨rfl, h₅⟩
end
section
variable {prog : Program} {w : World} {A : Around} {E : Value → Shared → Prop} {env : Env}
theorem assign_comp2 {s : Shared} {elt t0 i0 t1 i1 : PySem.Expr} {y : Str} {py : Pos} {scope : Scope} {cl : List (Str × Addr)} {pos spos : Pos} {Q : Flow → Shared → Prop}
    (hsw : swapsWith (e2 elt t0 i0 t1 i1 scope pos) (some (.Name y py)) spos.line env = pure true)
    (hclos : closureFor scope env = pure cl) (hcell : ∀ z ∈ scope.names, z.2 ≠ .cell) (hkind : scope.kind = .function)
    (hnames : ∀ z ∈ scope.names, z.2 = .local → scope.names.lookup z.1 = some .local)
    (h : wpAny (model prog w) A (eval i0 env) (fun xv s₁ => wpAny (model prog w) A (pyIter xv) (fun it s₂ =>
      ∀ h₁, h₁.Ns (s₂.heap.objs.size + 1) (fun _ => none) → (∀ b o, b ≠ s₂.heap.objs.size + 1 → (s₂.heap.push { cls := .type "list", data := .seq #[] }).get? b = some o → h₁.get? b = some o) → 
        codeAny (model prog w) A (.compStart (e2 elt t0 i0 t1 i1 scope pos) 0 it (.ref s₂.heap.objs.size) (compEnvC scope cl (s₂.heap.objs.size + 1) env))
          (fun r s' => match r with
            | .ok _ => wpAny (model prog w) A (assign (.Name y py) env (.ref s₂.heap.objs.size)) (fun _ s'' => ∃ m, s''.heap.Ns (s₂.heap.objs.size + 1) m ∧ ∀ h', Heap.SameBut (s₂.heap.objs.size + 1) s''.heap h' → Q .next { s'' with heap := h' }) E s'
            | .error _ => False) { s₂ with heap := h₁ }) E s₁) E s)
    (hs : ∀ x, foldedSetIterable i0 env x = pure x) :
    wpAny (model prog w) A (exec (.Assign [.Name y py] (e2 elt t0 i0 t1 i1 scope pos) spos) env) Q E s := by
  rw [exec_Assign_Name_used _ _ _ _ hsw]
  refine wpAny_bind (wpAny_standAt (wpAny_bind ?_))
  show wpAny _ A (do let _ ← comprehension (e2 elt t0 i0 t1 i1 scope pos) scope env _ (newList []) false (eval i0 env) (some (assign (.Name y py) env))) _ _ s
  refine wpAny_bind (wpAny_mono (wpAny_comprehension_free (use := some (assign (.Name y py) env)) (Q := fun _ s' => Q .next s') rfl hs hclos hkind hnames
    (wpAny_mono h (fun xv s₁ h₁ => wpAny_mono h₁ (fun it s₂ h₂ => ?_) fun _ _ e => e) fun _ _ e => e)) (fun _ s' hq => wpAny_pure (wpAny_pure hq)) fun _ _ e => e)
  refine wpAny_newObj_type (wpAny_newFunctionEnv hcell (by intro y hy; simp at hy) (fun h₁ hns₁ hsb₁ => ?_) hkind)
  dsimp only at hns₁ hsb₁ ⊢
  have hC : (s₂.heap.push { cls := .type "list", dict := none, data := .seq ([] : List Value).toArray }).objs.size = s₂.heap.objs.size + 1 := Heap.size_push ..
  rw [hC] at hns₁ hsb₁ ⊢
  refine codeAny_mono (h₂ h₁ hns₁ fun b o hb e => hsb₁.extBut b o hb (Heap.get?_push_of_some _ e)) fun r s' hr => ?_
  match r, hr with
  | .ok _, hr => exact hr
end
end

/- Cmp2 -/
section
open PySem PySem.W PyProof.Rows PySem.Spec
set_option maxRecDepth 100000
noncomputable def rIt (i n : Nat) : Obj := { cls := .type "range_iterator", dict := none, data := .fields #[rawInt (0 + (i : Int) * 1), rawInt ((n : Int) - (i : Int)), rawInt 1], slots := #[] }
noncomputable def MadeAre (oes : List (Addr × Obj)) (us : List Value) (es : List (List Int)) : Prop :=
  us.length = es.length ∧ ∀ (j : Nat) (e : List Int), es[j]? = some e → ∃ r vs n, us[j]? = some (Value.ref r) ∧ (r, listOf vs.toArray n) ∈ oes ∧ IntsAre vs e
theorem made_nil (oes : List (Addr × Obj)) : MadeAre oes [] [] := ⟨rfl, fun j e h => by simp at h⟩
theorem made_snoc {oes : List (Addr × Obj)} {us : List Value} {es : List (List Int)} {r : Addr} {vs : List Value} {n : Nat} {e : List Int} (h : MadeAre oes us es) (hI : IntsAre vs e) : MadeAre ((r, listOf vs.toArray n) :: oes) (us ++ [Value.ref r]) (es ++ [e]) := by
  refine ⟨by simp [h.1], fun j e' hj => ?_⟩
  by_cases hlt : j < es.length
  · rw [List.getElem?_append_left hlt] at hj
    obtain ⟨r', vs', n', h1, h2, h3⟩ := h.2 j e' hj
    exact ⟨r', vs', n', by rw [List.getElem?_append_left (by rw [h.1]; exact hlt)]; exact h1, List.mem_cons_of_mem _ h2, h3⟩
  · rw [List.getElem?_append_right (by omega)] at hj
    have hz : j - es.length = 0 := by
      by_cases q : j - es.length = 0
      · exact q
      · rw [List.getElem?_eq_none (by simp; omega)] at hj; cases hj
    rw [hz] at hj
    cases hj
    exact ⟨r, vs, n, by rw [List.getElem?_append_right (by rw [h.1]; omega), h.1, hz]; rfl, List.mem_cons_self .., hI⟩
section
variable {prog : Program} {w : World} {A : Around} {R : Result → Shared → Prop} {s : Shared} {elt t0 i0 i1 : PySem.Expr} {xi : Str} {pxi : Pos} {scope : Scope} {pos : Pos} {env : Env} {hb : Heap}
theorem comp_inner (n : Nat) {Ii D : Addr} (el : Nat → List Int) (P : (Str → Option Value) → Prop) (hh : A.handled = none) (hi : env.kindOf xi = some .local)
    (hp : (env.scope.kind == .class || (env.scope.kind == .module && env.locals != env.globals)) = false)
    (hP : ∀ m i t, P m → P (fun y => if y = xi then some (.int i t) else m y))
    (helt : ∀ (i : Nat) t h tk m nx (E' : Value → Shared → Prop), i < n → P m → Fr hb env.locals h (fun y => if y = xi then some (.int (i : Int) t) else m y) → News hb env.locals h nx →
      wpAny (model prog w) A (eval elt env) (fun y s₃ => ∃ r vs n' h' tk', y = .ref r ∧ s₃ = { s with heap := h', toks := tk' } ∧ Fr hb env.locals h' (fun y => if y = xi then some (.int (i : Int) t) else m y) ∧ News hb env.locals h' ((r, listOf vs.toArray n') :: nx) ∧ (∀ p ∈ nx, p.1 ≠ r) ∧ IntsAre vs (el i)) E' { s with heap := h, toks := tk })
    {us : List Value} {c : Nat} {oes : List (Addr × Obj)} {es : List (List Int)} {m₀ : Str → Option Value} (F : Fr hb env.locals s.heap m₀) (hPm : P m₀)
    (N : News hb env.locals s.heap ((Ii, rIt 0 n) :: (D, listOf us.toArray c) :: oes)) (hID : Ii ≠ D) (hIo : ∀ p ∈ oes, p.1 ≠ Ii) (hDo : ∀ p ∈ oes, p.1 ≠ D) (hM : MadeAre oes us es) (hsz : us.length + n ≤ 1000)
    (done : ∀ m us' c' oes' h tk, Fr hb env.locals h m → P m → News hb env.locals h ((D, listOf us'.toArray c') :: oes') → (∀ p ∈ oes', p.1 ≠ D) → us'.length = us.length + n → (∀ p ∈ oes, p ∈ oes') → MadeAre oes' us' (es ++ (List.range n).map el) → R (.ok .next) { s with heap := h, toks := tk }) :
    codeAny (model prog w) A (.compLoop (e2 elt t0 i0 (.Name xi pxi) i1 scope pos) 1 (.ref Ii) (.ref D) env) R s := by
  have W : Walks prog w A Ii [Ii] [Ii] n (fun i v => i < n ∧ ∃ t, v = .int (0 + i * 1) t) (fun i h => IsRangeIter h Ii (0 + (i : Nat) * 1) ((n : Int) - (i : Nat)) 1) := (Walks.range hh _ 0 1 n).bound
  refine loop_in (fun k s' => ∃ i h tk m us' c' oes', s' = { s with heap := h, toks := tk } ∧ i ≤ n ∧ k = n - i ∧ Fr hb env.locals h m ∧ P m ∧ News hb env.locals h ((Ii, rIt i n) :: (D, listOf us'.toArray c') :: oes') ∧ (∀ p ∈ oes', p.1 ≠ Ii) ∧ (∀ p ∈ oes', p.1 ≠ D) ∧ us'.length = us.length + i ∧ (∀ p ∈ oes, p ∈ oes') ∧ MadeAre oes' us' (es ++ (List.range i).map el)) ?_ n
    ⟨0, s.heap, s.toks, m₀, us, c, oes, rfl, Nat.zero_le _, rfl, F, hPm, N, hIo, hDo, rfl, fun _ h => h, by simpa using hM⟩ (fun _ => rfl)
  rintro k s' E' ⟨i, h, tk, m, us', c', oes', rfl, hin, rfl, F', hPm', N', hI', hD', hl', hsub, hM'⟩
  have hitem : IsRangeIter h Ii (0 + (i : Nat) * 1) ((n : Int) - (i : Nat)) 1 := (N' _ (List.mem_cons_self ..)).1
  have hIL : env.locals ∉ [Ii] := fun q => (N' _ (List.mem_cons_self ..)).2.1 (List.mem_singleton.mp q).symm
  have hIb : hb.get? Ii = none := (N' _ (List.mem_cons_self ..)).2.2
  have step : ∀ h' : Heap, (∀ b o, b ∉ [Ii] → h.get? b = some o → h'.get? b = some o) → Fr hb env.locals h' m ∧ News hb env.locals h' ((D, listOf us'.toArray c') :: oes') := by
    intro h' hk
    refine ⟨⟨F'.ns.at' fun o e => hk _ o hIL e, fun b o e => hk b o (fun q => by rw [List.mem_singleton.mp q, hIb] at e; cases e) (F'.keep b o e), F'.above⟩, fun p hp => ?_⟩
    have q := N' p (List.mem_cons_of_mem _ hp)
    refine ⟨hk _ _ (fun r => ?_) q.1, q.2⟩
    rcases List.mem_cons.mp hp with rfl | hp
    · exact hID (List.mem_singleton.mp r).symm
    · exact hI' p hp (List.mem_singleton.mp r)
  by_cases hlt : i < n
  · refine W.item i _ _ _ hlt hitem fun v h₁ tk₁ hv hst hk => ?_
    obtain ⟨_, t, rfl⟩ := hv
    obtain ⟨F₁, N₁⟩ := step h₁ hk
    rw [show (0 : Int) + (i : Int) * 1 = (i : Int) by omega]
    have N₁' : News hb env.locals h₁ ((Ii, rIt (i + 1) n) :: (D, listOf us'.toArray c') :: oes') := by
      intro p hp
      rcases List.mem_cons.mp hp with rfl | hp
      · exact ⟨hst, (N' _ (List.mem_cons_self ..)).2⟩
      · exact N₁ p hp
    refine wpAny_assign_Name (wpAny_storeName_local hi F₁.ns (fun h₂ hn₂ hs₂ => ?_) hp)
    have F₂ := F₁.set hn₂ hs₂
    have N₂ := N₁'.set hs₂
    refine wpAny_mono (helt i t h₂ _ m _ E' hlt hPm' F₂ N₂) (fun y s₃ q => ?_) fun _ _ e => e
    obtain ⟨r, vs, n', h₃, tk₃, rfl, rfl, F₃, N₃, hr, hI₃⟩ := q
    have hrD : r ≠ D := fun e => hr _ (.tail _ (.head _)) e.symm
    have hrI : r ≠ Ii := fun e => hr _ (.head _) e.symm
    refine append_K (hsz := by rw [List.size_toArray, sizeLine_eq]; omega) F₃ N₃ (.tail hrD (.tail hID (.head hD'))) fun h₄ F₄ N₄ => ?_
    refine ⟨n - (i + 1), by omega, i + 1, h₄, _, _, us' ++ [Value.ref r], c' + 1, (r, listOf vs.toArray n') :: oes', rfl, by omega, rfl, F₄, hP _ _ _ hPm', ?_, ?_, ?_, by simp; omega, fun p hp => List.mem_cons_of_mem _ (hsub p hp), ?_⟩
    · simp only [List.push_toArray] at N₄
      intro p hp
      refine N₄ p ?_
      rcases List.mem_cons.mp hp with rfl | hp
      · exact .tail _ (.head _)
      · rcases List.mem_cons.mp hp with rfl | hp
        · exact .tail _ (.tail _ (.head _))
        · rcases List.mem_cons.mp hp with rfl | hp
          · exact .head _
          · exact .tail _ (.tail _ (.tail _ hp))
    · exact off2 hrI hI'
    · exact off2 hrD hD'
    · rw [List.range_succ, List.map_append, ← List.append_assoc]
      exact made_snoc hM' hI₃
  · have hin' : i = n := by omega
    subst hin'
    refine W.done _ _ _ hitem fun h₁ tk₁ hk => ?_
    obtain ⟨F₁, N₁⟩ := step h₁ hk
    exact done m us' c' oes' h₁ tk₁ F₁ hPm' N₁ hD' hl' hsub hM'
end
end

/- Cmp3 -/
section
open PySem PySem.W PyProof.Rows PySem.Spec
set_option maxRecDepth 100000
noncomputable def ListsAre (h : Heap) (us : List Value) (es : List (List Int)) : Prop :=
  us.length = es.length ∧ ∀ (j : Nat) (e : List Int), es[j]? = some e → ∃ r vs, us[j]? = some (Value.ref r) ∧ h.IsList r vs.toArray ∧ IntsAre vs e
theorem MadeAre.sub {oes oes' : List (Addr × Obj)} {us : List Value} {es : List (List Int)} (h : MadeAre oes us es) (hs : ∀ (r : Addr) (vs : List Value) (n : Nat), (r, listOf vs.toArray n) ∈ oes → (r, listOf vs.toArray n) ∈ oes') : MadeAre oes' us es :=
  ⟨h.1, fun j e hj => let ⟨r, vs, n, h1, h2, h3⟩ := h.2 j e hj; ⟨r, vs, n, h1, hs _ _ _ h2, h3⟩⟩
section
variable {prog : Program} {w : World} {A : Around} {R : Result → Shared → Prop} {s : Shared} {elt i0 i1 : PySem.Expr} {xi xo : Str} {pxi pxo : Pos} {scope : Scope} {pos : Pos} {env : Env} {hb : Heap}
theorem comp_outer (kk : Nat) {Io D lo : Addr} {us0 : List Value} {es : List (List Int)} (el : List Int → Nat → List Int) (hh : A.handled = none) (hi : env.kindOf xi = some .local) (ho : env.kindOf xo = some .local) (hx : xo ≠ xi)
    (hp : (env.scope.kind == .class || (env.scope.kind == .module && env.locals != env.globals)) = false)
    (hfs : ∀ x, foldedSetIterable i1 env x = pure x) (hkk : kk < 1000)
    (hlo : hb.IsList lo us0.toArray) (hL : ListsAre hb us0 es)
    (hi1 : ∀ h tk m nx (E' : Value → Shared → Prop), Fr hb env.locals h m → News hb env.locals h nx →
      wpAny (model prog w) A (eval i1 env) (fun y s₃ => ∃ r h' tk' t u v, y = .ref r ∧ s₃ = { s with heap := h', toks := tk' } ∧ Fr hb env.locals h' m ∧ News hb env.locals h' nx ∧ IsRange h' r 0 (kk : Int) 1 t u v) E' { s with heap := h, toks := tk })
    (helt : ∀ (i : Nat) t ro vo eo h tk (m : Str → Option Value) nx (E' : Value → Shared → Prop), i < kk → eo ∈ es → hb.IsList ro vo.toArray → IntsAre vo eo → m xo = some (Value.ref ro) → Fr hb env.locals h (fun y => if y = xi then some (.int (i : Int) t) else m y) → News hb env.locals h nx →
      wpAny (model prog w) A (eval elt env) (fun y s₃ => ∃ r vs n' h' tk', y = .ref r ∧ s₃ = { s with heap := h', toks := tk' } ∧ Fr hb env.locals h' (fun y => if y = xi then some (.int (i : Int) t) else m y) ∧ News hb env.locals h' ((r, listOf vs.toArray n') :: nx) ∧ (∀ p ∈ nx, p.1 ≠ r) ∧ IntsAre vs (el eo i)) E' { s with heap := h, toks := tk })
    {m₀ : Str → Option Value} (F : Fr hb env.locals s.heap m₀) (hit : s.heap.IsListIter Io lo 0) (hIL : Io ≠ env.locals) (hIb : hb.get? Io = none)
    (N : News hb env.locals s.heap [(D, listOf #[] 0)]) (hID : Io ≠ D) (hsz : es.length * kk ≤ 1000)
    (done : ∀ m us' c' oes' h tk, Fr hb env.locals h m → News hb env.locals h ((D, listOf us'.toArray c') :: oes') → (∀ p ∈ oes', p.1 ≠ D) → MadeAre oes' us' (es.flatMap fun e => (List.range kk).map (el e)) → R (.ok .next) { s with heap := h, toks := tk }) :
    codeAny (model prog w) A (.compStart (e2 elt (.Name xo pxo) i0 (.Name xi pxi) i1 scope pos) 0 (.ref Io) (.ref D) env) R s := by
  have hloI : lo ≠ Io := fun q => by obtain ⟨o, e, _⟩ := hlo; rw [q, hIb] at e; cases e
  have W := Walks.list (prog := prog) (w := w) (A := A) hh Io lo hloI us0.toArray
  have main : codeAny (model prog w) A (.compLoop (e2 elt (.Name xo pxo) i0 (.Name xi pxi) i1 scope pos) 0 (.ref Io) (.ref D) env) R s := by
    refine loop_out (fun k s' => ∃ j h tk m us' c' oes', s' = { s with heap := h, toks := tk } ∧ j ≤ es.length ∧ k = es.length - j ∧ Fr hb env.locals h m ∧ h.IsListIter Io lo j ∧ News hb env.locals h ((D, listOf us'.toArray c') :: oes') ∧ (∀ p ∈ oes', p.1 ≠ Io) ∧ (∀ p ∈ oes', p.1 ≠ D) ∧ us'.length = j * kk ∧ MadeAre oes' us' ((es.take j).flatMap fun e => (List.range kk).map (el e))) ?_ es.length
      ⟨0, s.heap, s.toks, m₀, [], 0, [], rfl, Nat.zero_le _, rfl, F, hit, N, by simp, by simp, by simp, made_nil _⟩ (fun _ => rfl) hfs
    rintro k s' E' ⟨j, h, tk, m, us', c', oes', rfl, hjn, rfl, F', hit', N', hI', hD', hl', hM'⟩
    have step : ∀ h' : Heap, (∀ b o, b ∉ [Io] → h.get? b = some o → h'.get? b = some o) → Fr hb env.locals h' m ∧ News hb env.locals h' ((D, listOf us'.toArray c') :: oes') := by
      intro h' hk
      refine ⟨⟨F'.ns.at' fun o e => hk _ o (fun q => hIL (List.mem_singleton.mp q).symm) e, fun b o e => hk b o (fun q => by rw [List.mem_singleton.mp q, hIb] at e; cases e) (F'.keep b o e), F'.above⟩, fun p hp => ?_⟩
      have q := N' p hp
      refine ⟨hk _ _ (fun r => ?_) q.1, q.2⟩
      rcases List.mem_cons.mp hp with rfl | hp
      · exact hID (List.mem_singleton.mp r).symm
      · exact hI' p hp (List.mem_singleton.mp r)
    have hloh : h.IsList lo us0.toArray := hlo.at fun o e => F'.keep lo o e
    have hsize : us0.toArray.size = es.length := by rw [List.size_toArray]; exact hL.1
    by_cases hlt : j < es.length
    · refine W.item j _ _ _ (by rw [hsize]; exact hlt) ⟨hit', hloh⟩ fun v h₁ tk₁ hv hst hk => ?_
      obtain ⟨ro, vo, e1, e2', e3⟩ := hL.2 j _ (List.getElem?_eq_getElem hlt)
      rw [List.getElem?_toArray, e1] at hv
      cases hv
      obtain ⟨F₁, N₁⟩ := step h₁ hk
      obtain ⟨oI, hoI, hoc, hod⟩ := id hst.1
      refine wpAny_assign_Name (wpAny_storeName_local ho F₁.ns (fun h₂ hn₂ hs₂ => ?_) hp)
      have F₂ := F₁.set hn₂ hs₂
      have N₂ : News hb env.locals h₂ ((D, listOf us'.toArray c') :: (Io, oI) :: oes') := by
        have N₂' := N₁.set hs₂
        intro p hp
        rcases List.mem_cons.mp hp with rfl | hp
        · exact N₂' _ (.head _)
        · rcases List.mem_cons.mp hp with rfl | hp
          · exact ⟨(hs₂.2 _ hIL).trans hoI, hIL, hIb⟩
          · exact N₂' _ (.tail _ hp)
      refine wpAny_mono (hi1 h₂ _ _ _ E' F₂ N₂) (fun y s₃ q => ?_) fun _ _ e => e
      obtain ⟨r, h₃, tk₃, t, u, v, rfl, rfl, F₃, N₃, hr⟩ := q
      refine wpAny_pyIter_range hr (small_one (by decide) (by decide) (by omega) (by omega)) ?_
      have hs : Builtin.Range.rangeSize 0 (kk : Int) 1 = (kk : Int) := by rw [rangeSize_nat]; omega
      rw [hs]
      have F₄ := F₃.push { cls := .type "range_iterator", data := .fields #[rawInt 0, rawInt (kk : Int), rawInt 1] }
      have N₄ : News hb env.locals (h₃.push { cls := .type "range_iterator", data := .fields #[rawInt 0, rawInt (kk : Int), rawInt 1] }) ((h₃.objs.size, rIt 0 kk) :: (D, listOf us'.toArray c') :: (Io, oI) :: oes') := by
        intro p hp
        rcases List.mem_cons.mp hp with rfl | hp
        · exact ⟨by simpa [rIt] using Heap.get?_push_size h₃ rfl, (Nat.ne_of_lt F₃.ns.lt).symm, next_is_new F₃⟩
        · exact ⟨Heap.get?_push_of_some _ (N₃ p hp).1, (N₃ p hp).2⟩
      have fresh : ∀ p ∈ (D, listOf us'.toArray c') :: (Io, oI) :: oes', h₃.objs.size ≠ p.1 := fun p hp => (Nat.ne_of_lt (Heap.lt_size (N₃ p hp).1)).symm
      have inner : codeAny (model prog w) A (.compLoop (e2 elt (.Name xo pxo) i0 (.Name xi pxi) i1 scope pos) 1 (.ref h₃.objs.size) (.ref D) env) (fun r s₅ => match r with | .ok .next => ∃ m, m < es.length - j ∧ ∃ j h tk mm us' c' oes', s₅ = { s with heap := h, toks := tk } ∧ j ≤ es.length ∧ m = es.length - j ∧ Fr hb env.locals h mm ∧ h.IsListIter Io lo j ∧ News hb env.locals h ((D, listOf us'.toArray c') :: oes') ∧ (∀ p ∈ oes', p.1 ≠ Io) ∧ (∀ p ∈ oes', p.1 ≠ D) ∧ us'.length = j * kk ∧ MadeAre oes' us' ((es.take j).flatMap fun e => (List.range kk).map (el e)) | _ => False)
          { s with heap := h₃.push { cls := .type "range_iterator", data := .fields #[rawInt 0, rawInt (kk : Int), rawInt 1] }, toks := tk₃ } := by
        have hmul : (j + 1) * kk ≤ es.length * kk := Nat.mul_le_mul_right kk hlt
        have hj1 : (j + 1) * kk = j * kk + kk := Nat.succ_mul j kk
        refine comp_inner (es := (es.take j).flatMap fun e => (List.range kk).map (el e)) kk (el (es[j])) (fun m => m xo = some (.ref ro)) hh hi hp (fun m i t hm => by simp only [if_neg hx]; exact hm) ?_ F₄ (by simp) N₄ (fresh _ (.head _)) (fun p hp => (fresh p (.tail _ hp)).symm) ?_ ?_ (by omega) ?_
        · intro i t h tk m nx E'' hik hm Fx Nx
          exact helt i t ro vo _ h tk m nx E'' hik (List.getElem_mem hlt) e2' e3 hm Fx Nx
        · intro p hp
          rcases List.mem_cons.mp hp with rfl | hp
          · exact hID
          · exact hD' p hp
        · exact hM'.sub fun _ _ _ q => .tail _ q
        · intro m₅ us₅ c₅ oes₅ h₅ tk₅ F₅ _ N₅ hD₅ hl₅ hsub₅ hM₅
          have hIo := (N₅ _ (.tail _ (hsub₅ _ (.head _)))).1
          refine ⟨es.length - (j + 1), by omega, j + 1, h₅, tk₅, m₅, us₅, c₅, oes₅.filter (fun p => decide (p.1 ≠ Io)), rfl, hlt, rfl, F₅, ⟨oI, hIo, hoc, hod⟩, ?_, ?_, ?_, by omega, ?_⟩
          · intro p hp
            rcases List.mem_cons.mp hp with rfl | hp
            · exact N₅ _ (.head _)
            · exact N₅ _ (.tail _ ((List.mem_filter.mp hp).1))
          · intro p hp
            simpa using (List.mem_filter.mp hp).2
          · intro p hp
            exact hD₅ p ((List.mem_filter.mp hp).1)
          · rw [List.take_add_one, List.getElem?_eq_getElem hlt, List.flatMap_append]
            simp only [Option.toList_some, List.flatMap_cons, List.flatMap_nil, List.append_nil]
            refine hM₅.sub fun r vs n q => List.mem_filter.mpr ⟨q, ?_⟩
            simp only [ne_eq, decide_not, Bool.not_eq_true', decide_eq_false_iff_not]
            intro e
            have hq := (N₅ _ (.tail _ q)).1
            dsimp only at hq
            rw [e] at hq
            have := hq.symm.trans hIo
            cases this
            exact absurd (Value.type.inj hoc) (by decide)
      refine start_in (fun E'' => ?_) inner
      have W' : Walks prog w A h₃.objs.size [h₃.objs.size] [h₃.objs.size] kk (fun i v => i < kk ∧ ∃ t, v = .int (0 + i * 1) t) (fun i h => IsRangeIter h h₃.objs.size (0 + (i : Nat) * 1) ((kk : Int) - (i : Nat)) 1) := (Walks.range hh _ 0 1 kk).bound
      exact W'.self 0 _ _ _ (N₄ _ (.head _)).1 inner
    · have hj : j = es.length := by omega
      subst hj
      refine W.done _ _ _ (by rw [hsize]; exact ⟨hit', hloh⟩) fun h₁ tk₁ hk => ?_
      obtain ⟨F₁, N₁⟩ := step h₁ hk
      rw [List.take_length] at hM'
      exact done m us' c' oes' h₁ tk₁ F₁ N₁ hD' hM'
  refine codeAny_compStart_list main ?_
  exact W.self 0 _ _ _ ⟨hit, hlo.at fun o e => F.keep lo o e⟩ main
end
end

/- ForC -/
section
open PySem PySem.W PyProof.Rows PySem.Spec
set_option maxRecDepth 100000
section
variable {prog : Program} {w : World} {A : Around} {E : Value → Shared → Prop} {Q : Flow → Shared → Prop} {s : Shared} {env : Env} {h₀ : Heap}
theorem for_cell {x : Str} {px : Pos} {cx : Addr} {body : List Stmt} {r : Addr} {b₀ : Int} {t₀ u₀ v₀ : Tok} {n : Nat} {oc : Obj} {c0 : Option Value} {m₀ : Str → Option Value} {nx₀ : List (Addr × Obj)} (J : Nat → (Str → Option Value) → List (Addr × Obj) → Prop)
    (hh : A.handled = none) (hr : IsRange s.heap r 0 b₀ 1 t₀ u₀ v₀) (hb : b₀ = (n : Int)) (hn : n < 1000)
    (hk : env.scope.kind = .function) (hl : env.kindOf x = some .cell) (hc : env.cells.lookup x = some cx)
    (F : Fr h₀ env.locals s.heap m₀) (N : News h₀ env.locals s.heap ((cx, oc) :: nx₀)) (hd : oc.data = .cell c0) (hoff : ∀ p ∈ nx₀, p.1 ≠ cx) (hj : J 0 m₀ nx₀)
    (turn : ∀ (i : Nat) t oc' m nx h tk (E' : Value → Shared → Prop), i < n → J i m nx → oc'.data = .cell (some (.int (i : Int) t)) → Fr h₀ env.locals h m → News h₀ env.locals h ((cx, oc') :: nx) → (∀ p ∈ nx, p.1 ≠ cx) →
      wpAny (model prog w) A (execs body env) (fun f s₃ => f = .next ∧ ∃ h' tk' m' nx', s₃ = { s with heap := h', toks := tk' } ∧ Fr h₀ env.locals h' m' ∧ News h₀ env.locals h' ((cx, oc') :: nx') ∧ (∀ p ∈ nx', p.1 ≠ cx) ∧ (∀ p ∈ nx', p ∈ nx ∨ h.get? p.1 = none) ∧ J (i + 1) m' nx' ∧ (∀ b o, b ≠ env.locals → h.get? b = some o → h'.get? b = some o)) E' { s with heap := h, toks := tk })
    (done : ∀ m nx h tk, J n m nx → Fr h₀ env.locals h m → News h₀ env.locals h nx → Q .next { s with heap := h, toks := tk }) :
    wpAny (model prog w) A (pyIter (.ref r)) (fun it s₂ => codeAny (model prog w) A (.forLoop (.Name x px) it body [] env) (fun r s' => match r with | .ok f => Q f s' | .error e => cameBackBy (model prog w) A env E e s') s₂) E s := by
  subst hb
  refine wpAny_pyIter_range hr (small_one (by decide) (by decide) (by omega) (by omega)) ?_
  have hs : Builtin.Range.rangeSize 0 (n : Int) 1 = (n : Int) := by rw [rangeSize_nat]; omega
  rw [hs]
  have W : Walks prog w A s.heap.objs.size [s.heap.objs.size] [s.heap.objs.size] n (fun i v => i < n ∧ ∃ t, v = .int (0 + i * 1) t)
      (fun i h => IsRangeIter h s.heap.objs.size (0 + (i : Nat) * 1) ((n : Int) - (i : Nat)) 1) := (Walks.range hh _ 0 1 n).bound
  have hIL : s.heap.objs.size ≠ env.locals := (Nat.ne_of_lt F.ns.lt).symm
  have hIb : h₀.get? s.heap.objs.size = none := next_is_new F
  have hcI : cx ≠ s.heap.objs.size := Nat.ne_of_lt (Heap.lt_size (N _ (.head _)).1)
  have hIn : ∀ p ∈ (cx, oc) :: nx₀, p.1 ≠ s.heap.objs.size := fun p hp => Nat.ne_of_lt (Heap.lt_size (N p hp).1)
  refine codeAny_forLoop (fun k s' => ∃ i h tk m nx oc' c, s' = { s with heap := h, toks := tk } ∧ i ≤ n ∧ k = n - i ∧ IsRangeIter h s.heap.objs.size (0 + (i : Nat) * 1) ((n : Int) - (i : Nat)) 1 ∧ J i m nx ∧ oc'.data = .cell c ∧ Fr h₀ env.locals h m ∧ News h₀ env.locals h ((cx, oc') :: nx) ∧ (∀ p ∈ nx, p.1 ≠ cx) ∧ (∀ p ∈ nx, p.1 ≠ s.heap.objs.size)) ?_ n
    ⟨0, _, s.toks, m₀, nx₀, oc, c0, rfl, Nat.zero_le _, rfl, by show IsRangeIter _ _ _ _ _; simpa using Heap.get?_push_size s.heap rfl, hj, hd, F.push _, fun p hp => ⟨Heap.get?_push_of_some _ (N p hp).1, (N p hp).2⟩, hoff, fun p hp => hIn p (.tail _ hp)⟩
  rintro k s' ⟨i, h, tk, m, nx, oc', c, rfl, hin, rfl, hit, hJ, hd', F', N', hoff', hnI⟩
  have hItO := hit
  have step : ∀ h' : Heap, (∀ b o, b ∉ [s.heap.objs.size] → h.get? b = some o → h'.get? b = some o) → Fr h₀ env.locals h' m ∧ News h₀ env.locals h' ((cx, oc') :: nx) := by
    intro h' hk
    refine ⟨⟨F'.ns.at' fun o e => hk _ o (fun q => hIL (List.mem_singleton.mp q).symm) e, fun b o e => hk b o (fun q => by rw [List.mem_singleton.mp q, hIb] at e; cases e) (F'.keep b o e), F'.above⟩, fun p hp => ?_⟩
    have q := N' p hp
    refine ⟨hk _ _ (fun r => ?_) q.1, q.2⟩
    have e := List.mem_singleton.mp r
    rcases List.mem_cons.mp hp with rfl | hp
    · exact hcI e
    · exact hnI p hp e
  by_cases hlt : i < n
  · refine W.item i _ _ _ hlt hit fun v h₁ tk₁ hv hst hk' => ?_
    obtain ⟨_, t, rfl⟩ := hv
    obtain ⟨F₁, N₁⟩ := step h₁ hk'
    rw [show (0 : Int) + (i : Int) * 1 = (i : Int) by omega]
    have hcx := N₁ _ (.head _)
    refine wpAny_assign_Name (wpAny_storeName_cell hk hl hc ⟨oc', hcx.1, hd'⟩ fun h₂ hcell hs₂ => ?_)
    obtain ⟨oc₂, hoc₂, hd₂⟩ := hcell
    have F₂ := F₁.change hs₂ hcx.2.1 hcx.2.2
    have N₂ : News h₀ env.locals h₂ ((cx, oc₂) :: nx) := by
      intro p hp
      rcases List.mem_cons.mp hp with rfl | hp
      · exact ⟨hoc₂, hcx.2⟩
      · exact ⟨(hs₂.2 _ (hoff' p hp)).trans (N₁ p (.tail _ hp)).1, (N₁ p (.tail _ hp)).2⟩
    refine wpAny_mono (turn i t oc₂ m nx h₂ _ _ hlt hJ hd₂ F₂ N₂ hoff') (fun f s₃ q => ?_) fun _ _ e => e
    obtain ⟨rfl, h₃, tk₃, m₃, nx₃, rfl, F₃, N₃, ho₃, hn₃, hJ₃, hk₃⟩ := q
    have hI₂ : IsRangeIter h₂ s.heap.objs.size (0 + ((i + 1 : Nat) : Int) * 1) ((n : Int) - ((i + 1 : Nat) : Int)) 1 := (hs₂.2 _ (fun e => hcI e.symm)).trans hst
    refine ⟨n - (i + 1), by omega, i + 1, h₃, tk₃, m₃, nx₃, oc₂, _, rfl, by omega, rfl, hk₃ _ _ hIL hI₂, hJ₃, hd₂, F₃, N₃, ho₃, fun p hp => ?_⟩
    rcases hn₃ p hp with q | q
    · exact hnI p q
    · intro e
      have hI₂' : h₂.get? s.heap.objs.size = some _ := hI₂
      rw [e, hI₂'] at q
      cases q
  · have hin' : i = n := by omega
    subst hin'
    refine W.done _ _ _ hit fun h₁ tk₁ hk' => ?_
    obtain ⟨F₁, N₁⟩ := step h₁ hk'
    exact wpAny_execs_nil (done m nx h₁ tk₁ hJ F₁ fun p hp => N₁ p (.tail _ hp))
end
end

/- C12g -/
section
open PySem PySem.W PyProof.Rows PySem.Spec
set_option maxRecDepth 100000
set_option maxHeartbeats 4000000

local macro_rules | `(tactic| walk_at "eval Name") => `(tactic| (k_here; (with_reducible show wpAny _ _ (eval (Expr.Name _ _) (compEnvC _ _ _ _)) _ _ _); k_dflt (first
  | refine wpAny_Name (wpAny_loadName_local (by rfl) (by rfl) (Fr.ns (by assumption)) (by assumption) ?_) (by decide)
  | refine wpAny_Name (wpAny_loadName_cell (by rfl) (by rfl) (by rfl) (Heap.IsCell.keeps (by assumption) (Fr.keep (by assumption))) ?_) (by decide)
  | refine LCgL.ld_built (by assumption) (by assumption) (by assumption) (by k_is) (by boot_by_name) (by decide) ?_)))

noncomputable def ordersN : Nat → List (List Int)
  | 0 => [[]]
  | k + 1 => (ordersN k).flatMap fun e => (List.range (k + 1)).map fun j => (e.take j ++ [(k : Int)]) ++ e.drop j
theorem ordersN_len : ∀ k, ∀ e ∈ ordersN k, e.length = k
  | 0, e, h => by simp [ordersN] at h; simp [h]
  | k + 1, e, h => by
    simp only [ordersN, List.mem_flatMap, List.mem_map, List.mem_range] at h
    obtain ⟨a, ha, j, hj, rfl⟩ := h
    have := ordersN_len k a ha
    simp; omega
theorem ordersN_sz : ∀ k < 4, (ordersN k).length * (k + 1) ≤ 1000 := by decide
theorem rg_cast {h : Heap} {r : Addr} {i : Nat} {t u v : Tok} (x : IsRange h r 0 ((i : Int) + 1) 1 t u v) : IsRange h r 0 ((i + 1 : Nat) : Int) 1 t u v := by
  rw [show ((i + 1 : Nat) : Int) = (i : Int) + 1 from by omega]; exact x
section
variable {h₀ h : Heap} {L : Addr} {x a b c d : Addr × Obj} {r : List (Addr × Obj)}
theorem pk2 (N : News h₀ L h (x :: a :: b :: r)) : News h₀ L h (x :: r) := fun p hp => N p (by simp only [List.mem_cons] at hp ⊢; rcases hp with h | h <;> simp [h])
theorem pk3 (N : News h₀ L h (x :: a :: b :: c :: r)) : News h₀ L h (x :: r) := fun p hp => N p (by simp only [List.mem_cons] at hp ⊢; rcases hp with h | h <;> simp [h])
theorem pk4 (N : News h₀ L h (x :: a :: b :: c :: d :: r)) : News h₀ L h (x :: r) := fun p hp => N p (by simp only [List.mem_cons] at hp ⊢; rcases hp with h | h <;> simp [h])
end
theorem allLt_mem {d : Addr} : ∀ {l : List (Addr × Obj)}, AllLt d l → ∀ p ∈ l, p.1 < d
  | [], _, p, h => nomatch h
  | a :: r, h, p, hp => by
    rcases List.mem_cons.mp hp with rfl | hp
    · exact h.1
    · exact allLt_mem h.2 p hp
theorem ord3 {h₀ h : Heap} {L : Addr} {a b c : Addr × Obj} {r : List (Addr × Obj)} (N : News h₀ L h (a :: b :: c :: r)) : News h₀ L h (c :: a :: (r ++ [b])) := by
  intro p hp
  refine N p ?_
  simp only [List.mem_cons, List.mem_append, List.not_mem_nil, or_false] at hp ⊢
  rcases hp with h | h | h | h <;> simp [h]

theorem c_orders (n : Nat) (hn : n = 3 ∨ n = 4) {w : World} {mean : ExcName → Option Value} {mg mb : Str → Option Value} {news : List (Addr × Obj)} {t : Tok} :
    Cl w mean mg mb 130 2 16 news [.int (n : Int) t] (fun v news' => ∃ lo c us oes, v = .ref lo ∧ news' = (lo, listOf us.toArray c) :: (news ++ oes) ∧ (∀ p ∈ news ++ oes, p.1 ≠ lo) ∧ (∀ p ∈ oes, ∀ q ∈ news, p.1 ≠ q.1) ∧ MadeAre oes us (ordersN n)) := by
  w_top off
  unfold Cl
  k_fill
  intro dp un gd cn cs a' ccd cl outer A₀ base h₀ Lc m s Q E B F X N T hk hdp hu hret
  obtain ⟨loo, T⟩ := T
  have kMark : KstMark := kstMark
  refine wpAny_call ?_
  k_dflt ((refine' code_defC ?k1 ?k2 ?k3 ?k4 ?k5 ?kA ?kF ?kK ?k6 ?k7 ?k8 ?k9 ?kB ?kD ?_ ?c2 ?c3 ?c4; (case kA => exact rfl); (case kF => exact rfl); (case kK => first | exact rfl | assumption); (case k1 => k_asm); (case k2 => k_asm); (case k3 => k_asm); (case k4 => k_asm); (case k5 => k_asm); (case k6 => k_is); (case k7 => k_is); (case k8 => ktr_room); (case k9 => exact BindsTo.of_eq rfl); (case kB => exact rfl); (case kD => decide +kernel); (case c2 => exact rfl); (case c3 => exact rfl); (case c4 => exact rfl); k_whole; intro gx Lx h4 tk' cells' FG F' N' Y' BB XX TT ln; (try k_lt ln); k_cells Y'; (try simp only [List.cons_append, List.nil_append] at N'); (try dsimp only); (try k_lift BB); (try k_fold)))
  repeat' ((fail_if_success (with_reducible show wpAny _ _ (PySem.exec (PySem.Stmt.For _ _ _ _ _) _) _ _ _)); (fail_if_success (with_reducible show wpAny _ _ (PySem.exec (PySem.Stmt.While _ _ _ _) _) _ _ _)); (fail_if_success (with_reducible show wpAny _ _ (PySem.pyIter _) _ _ _)); first | (k_unfold; (try dsimp only)) | (k_end; wrow_close) | walk1 | (dsimp only; walk1) | (leave1; walk_say "STEP leave1"; try dsimp only))
  refine wpAny_For ?_
  repeat' ((fail_if_success (with_reducible show wpAny _ _ (PySem.exec (PySem.Stmt.For _ _ _ _ _) _) _ _ _)); (fail_if_success (with_reducible show wpAny _ _ (PySem.exec (PySem.Stmt.While _ _ _ _) _) _ _ _)); (fail_if_success (with_reducible show wpAny _ _ (PySem.pyIter _) _ _ _)); first | (k_unfold; (try dsimp only)) | (k_end; wrow_close) | walk1 | (dsimp only; walk1) | (leave1; walk_say "STEP leave1"; try dsimp only))
  (rename IsRange _ _ _ _ _ _ _ _ => rg)
  (rename Fr _ _ _ _ => F1)
  (rename News _ _ _ _ => N1)
  rename_i ox dx li h3 lli lo0 h2 llo h1 Fq Nq hz tk1 t1 u1 v1 a1
  refine for_cell (n := n) (nx₀ := (lo0, listOf #[Value.ref li] 0) :: (news ++ [(li, listOf #[] 0)])) (fun i m nx => ∃ lo c us oes, nx = (lo, listOf us.toArray c) :: (news ++ oes) ∧ (∀ p ∈ news ++ oes, p.1 ≠ lo) ∧ (∀ p ∈ oes, ∀ q ∈ news, p.1 ≠ q.1) ∧ MadeAre oes us (ordersN i) ∧ m (Str.ofString "orders") = some (.ref lo)) rfl rg rfl (by omega) rfl rfl rfl F1 (ord3 N1) dx ?o0 ?j0 ?_ ?_
  case o0 =>
    intro p hp
    rcases List.mem_cons.mp hp with rfl | hp
    · exact Nat.ne_of_gt llo.2.1
    · rcases List.mem_append.mp hp with hp | hp
      · exact Nat.ne_of_lt (Nat.lt_succ_of_lt (ln p hp))
      · rw [List.mem_singleton.mp hp]; exact Nat.ne_of_gt lli.1
  case j0 =>
    refine ⟨lo0, 0, [.ref li], [(li, listOf #[] 0)], rfl, fun p hp => ?_, fun p hp q hq => ?_, ?_, rfl⟩
    · rcases List.mem_append.mp hp with hp | hp
      · exact Nat.ne_of_lt (allLt_mem llo.2.2 p hp)
      · rw [List.mem_singleton.mp hp]; exact Nat.ne_of_lt llo.1
    · rw [List.mem_singleton.mp hp]
      exact (Nat.ne_of_lt (allLt_mem lli.2 q hq)).symm
    · exact made_snoc (n := 0) (vs := []) (made_nil []) .nil
  · rintro i ti oc' m1 nx h5 tk5 E' hin ⟨lo, c, us, oes, rfl, hlo, happ, hM, ho⟩ hd5 F5 N5 hoff5
    have hlo5 := (N5 _ (.tail _ (.head _)))
    have hlol : h5.IsList lo us.toArray := ⟨_, hlo5.1, rfl, _, rfl⟩
    have hLs : ListsAre h5 us (ordersN i) := ⟨hM.1, fun j e hj => let ⟨r, vs, n, q1, q2, q3⟩ := hM.2 j e hj; ⟨r, vs, q1, ⟨_, (N5 _ (.tail _ (.tail _ (List.mem_append_right _ q2)))).1, rfl, _, rfl⟩, q3⟩⟩
    refine wpAny_execs_cons ?_
    refine assign_comp2 (cl := [(Str.ofString "k", Lx + 1)]) (by rfl) (by with_unfolding_all rfl) (by decide) rfl (by decide) ?_ (fun _ => rfl)
    refine wpAny_Name (wpAny_loadName_local rfl rfl F5.ns ho ?_) (by decide)
    refine wpAny_pyIter_list hlol ?_
    intro h6 hns6 hk6
    dsimp only at hns6 hk6 ⊢
    have hsz6 : ∀ o : Obj, (h5.push o).objs.size = h5.objs.size + 1 := fun o => Heap.size_push ..
    rw [hsz6] at hns6 hk6 ⊢
    have keep6 : ∀ b o, h5.get? b = some o → h6.get? b = some o := fun b o e => hk6 b o (Nat.ne_of_lt (Nat.lt_trans (Heap.lt_size e) (Nat.lt_succ_of_lt (Nat.lt_succ_self _)))) (Heap.get?_push_of_some _ (Heap.get?_push_of_some _ e))
    have F6 : Fr h5 (h5.objs.size + 1 + 1) h6 (fun _ => none) := ⟨hns6, keep6, Nat.le_succ_of_le (Nat.le_succ _)⟩
    have hit6 : h6.IsListIter h5.objs.size lo 0 := ⟨_, hk6 _ _ (Nat.ne_of_lt (Nat.lt_succ_of_lt (Nat.lt_succ_self _))) (Heap.get?_push_of_some _ (Heap.get?_push_size h5 rfl)), rfl, rfl⟩
    have N6 : News h5 (h5.objs.size + 1 + 1) h6 [(h5.objs.size + 1, listOf #[] 0)] := by
      intro p hp
      rw [List.mem_singleton.mp hp]
      refine ⟨hk6 _ _ (Nat.ne_of_lt (Nat.lt_succ_self _)) (by rw [← hsz6]; exact Heap.get?_push_size _ rfl), Nat.ne_of_lt (Nat.lt_succ_self _), Heap.get?_none_of_le (Nat.le_succ _)⟩
    refine comp_outer (hb := h5) (es := ordersN i) (i + 1) (fun e j => (e.take j ++ [(i : Int)]) ++ e.drop j) rfl rfl rfl (by decide) rfl (fun _ => rfl) (by omega) hlol hLs ?hi1 ?helt F6 hit6 (Nat.ne_of_lt (Nat.lt_succ_of_lt (Nat.lt_succ_self _))) (Heap.get?_none_of_le (Nat.le_refl _)) N6 (Nat.ne_of_lt (Nat.lt_succ_self _)) (ordersN_sz i (by omega)) ?hdone
    case hdone =>
      intro m8 us8 c8 oes8 h8 tk8 F8 N8 ho8 hM8
      have hL5 : Lx < h5.objs.size := F5.ns.lt
      have hCL : h5.objs.size + 1 + 1 ≠ Lx := Nat.ne_of_gt (Nat.lt_succ_of_lt (Nat.lt_succ_of_lt hL5))
      have hb5 : ∀ b, h5.get? b = none → gx.get? b = none := fun b e => by
        cases q : gx.get? b with
        | none => rfl
        | some o => rw [F5.keep b o q] at e; cases e
      have F9 : Fr gx Lx h8 m1 := ⟨F5.ns.at' fun o e => F8.keep _ o e, fun b o e => F8.keep b o (F5.keep b o e), F5.above⟩
      refine wpAny_assign_Name (wpAny_storeName_local rfl F9.ns (fun h9 hn9 hs9 => ?_) rfl)
      refine ⟨m8, F8.ns.at' fun o e => (hs9.2 _ hCL).trans e, fun h10 hs10 => ?_⟩
      have F10 := (F9.set hn9 hs9).change hs10 hCL (hb5 _ (Heap.get?_none_of_le (Nat.le_succ_of_le (Nat.le_succ _))))
      have up : ∀ b o, b ≠ Lx → h5.get? b = some o → h10.get? b = some o := fun b o hb e =>
        (hs10.2 b (Nat.ne_of_lt (Nat.lt_succ_of_lt (Nat.lt_succ_of_lt (Heap.lt_size e))))).trans ((hs9.2 b hb).trans (F8.keep b o e))
      have hLs5 : ∃ o, h5.get? Lx = some o := let ⟨o, _, _, e, _⟩ := F5.ns; ⟨o, e⟩
      have nL : ∀ b, h5.get? b = none → b ≠ Lx := fun b e q => by obtain ⟨o, e'⟩ := hLs5; rw [q, e'] at e; cases e
      have up8 : ∀ p ∈ (h5.objs.size + 1, listOf us8.toArray c8) :: oes8, h10.get? p.1 = some p.2 ∧ p.1 ≠ Lx ∧ gx.get? p.1 = none := fun p hp =>
        have q := N8 p hp
        ⟨(hs10.2 _ q.2.1).trans ((hs9.2 _ (nL _ q.2.2)).trans q.1), nL _ q.2.2, hb5 _ q.2.2⟩
      refine wpAny_execs_nil ⟨rfl, h10, _, _, (h5.objs.size + 1, listOf us8.toArray c8) :: (news ++ oes8), rfl, F10, ?_, ?_, ?_, ?_, up⟩
      · intro p hp
        rcases List.mem_cons.mp hp with rfl | hp
        · have q := N5 _ (.head _)
          exact ⟨up _ _ q.2.1 q.1, q.2⟩
        · rcases List.mem_cons.mp hp with rfl | hp
          · exact up8 _ (.head _)
          · rcases List.mem_append.mp hp with hp | hp
            · have q := N5 p (.tail _ (.tail _ (List.mem_append_left _ hp)))
              exact ⟨up _ _ q.2.1 q.1, q.2⟩
            · exact up8 _ (.tail _ hp)
      · have hcx := (N5 _ (.head _)).1
        have nc : ∀ b, h5.get? b = none → b ≠ Lx + 1 := fun b e q => by rw [q, hcx] at e; cases e
        intro p hp
        rcases List.mem_cons.mp hp with rfl | hp
        · exact nc _ (N8 _ (.head _)).2.2
        · rcases List.mem_append.mp hp with hp | hp
          · exact hoff5 p (.tail _ (List.mem_append_left _ hp))
          · exact nc _ (N8 _ (.tail _ hp)).2.2
      · intro p hp
        rcases List.mem_cons.mp hp with rfl | hp
        · exact .inr (N8 _ (.head _)).2.2
        · rcases List.mem_append.mp hp with hp | hp
          · exact .inl (.tail _ (List.mem_append_left _ hp))
          · exact .inr (N8 _ (.tail _ hp)).2.2
      · have sep : ∀ b, h5.get? b = none → ∀ q ∈ news, b ≠ q.1 := fun b e q hq r => by
          rw [r, (N5 q (.tail _ (.tail _ (List.mem_append_left _ hq)))).1] at e; cases e
        refine ⟨h5.objs.size + 1, c8, us8, oes8, rfl, fun p hp => ?_, fun p hp q hq => sep _ (N8 _ (.tail _ hp)).2.2 q hq, hM8, if_pos rfl⟩
        rcases List.mem_append.mp hp with hp | hp
        · exact (sep _ (N8 _ (.head _)).2.2 p hp).symm
        · exact ho8 p hp
    case hi1 =>
      intro h7 tk7 m7 nx7 E7 F7 N7
      have XX7 := XX.keeps F5.keep
      have TT7 := TT.keeps F5.keep
      have hcell : h5.IsCell (Lx + 1) (some (.int (i : Int) ti)) := ⟨oc', (N5 _ (.head _)).1, hd5⟩
      clear FG BB XX TT N5 F5 Fq F1 N1 Nq X T N F B
      repeat' ((fail_if_success (with_reducible show wpAny _ _ (PySem.exec (PySem.Stmt.For _ _ _ _ _) _) _ _ _)); (fail_if_success (with_reducible show wpAny _ _ (PySem.exec (PySem.Stmt.While _ _ _ _) _) _ _ _)); (fail_if_success (with_reducible show Exists _)); first | (k_unfold; (try dsimp only)) | (k_end; wrow_close) | walk1 | (dsimp only; walk1) | (leave1; walk_say "STEP leave1"; try dsimp only))
      (rename IsRange _ _ _ _ _ _ _ _ => rg7)
      (rename Fr _ _ _ _ => F8)
      (rename News _ _ _ _ => N8)
      exact ⟨_, _, _, _, _, _, rfl, rfl, F8, N8, rg_cast rg7⟩
    case helt =>
      intro j tj ro vo eo h7 tk7 m7 nx7 E7 hj he hro hIo hmo F7 N7
      have XX7 := XX.keeps F5.keep
      have TT7 := TT.keeps F5.keep
      have hcell : h5.IsCell (Lx + 1) (some (.int (i : Int) ti)) := ⟨oc', (N5 _ (.head _)).1, hd5⟩
      have hel := ordersN_len i eo he
      clear FG BB XX TT N5 F5 Fq F1 N1 Nq X T N F B
      have hm1 : (fun y => if y = Str.ofString "i" then some (Value.int (j : Int) tj) else m7 y) (Str.ofString "i") = some (.int (j : Int) tj) := if_pos rfl
      have hm2 : (fun y => if y = Str.ofString "i" then some (Value.int (j : Int) tj) else m7 y) (Str.ofString "one") = some (.ref ro) := (if_neg (by decide)).trans hmo
      generalize (fun y => if y = Str.ofString "i" then some (Value.int (j : Int) tj) else m7 y) = mm at hm1 hm2 F7 ⊢
      repeat' ((fail_if_success (with_reducible show wpAny _ _ (PySem.exec (PySem.Stmt.For _ _ _ _ _) _) _ _ _)); (fail_if_success (with_reducible show wpAny _ _ (PySem.exec (PySem.Stmt.While _ _ _ _) _) _ _ _)); (fail_if_success (with_reducible show Exists _)); first | (k_unfold; (try dsimp only)) | (k_end; wrow_close) | walk1 | (dsimp only; walk1) | (leave1; walk_say "STEP leave1"; try dsimp only))
      (rename Fr _ _ _ _ => F8)
      (rename News _ _ _ _ => N8)
      (rename IntsAre _ (List.take j eo ++ [(i : Int)] ++ List.drop j eo) => hI8)
      first
        | (refine ⟨_, _, _, _, _, rfl, rfl, F8, pk4 N8, ?_, hI8⟩; intro p hp; (rename And _ (And _ (And _ (And _ (AllLt _ nx7)))) => hq); exact Nat.ne_of_lt (allLt_mem hq.2.2.2.2 p hp))
        | (refine ⟨_, _, _, _, _, rfl, rfl, F8, pk3 N8, ?_, hI8⟩; intro p hp; (rename And _ (And _ (And _ (AllLt _ nx7))) => hq); exact Nat.ne_of_lt (allLt_mem hq.2.2.2 p hp))
        | (refine ⟨_, _, _, _, _, rfl, rfl, F8, pk2 N8, ?_, hI8⟩; intro p hp; (rename And _ (And _ (AllLt _ nx7)) => hq); exact Nat.ne_of_lt (allLt_mem hq.2.2 p hp))
        | (refine ⟨_, _, _, _, _, rfl, rfl, F8, N8, ?_, hI8⟩; intro p hp; (rename AllLt _ nx7 => hq); exact Nat.ne_of_lt (allLt_mem hq p hp))
  · rintro m1 nx h5 tk5 ⟨lo, c, us, oes, rfl, hlo, happ, hM, ho⟩ F5 N5
    have F6 := fr_known [(Str.ofString "orders", .ref lo)] F5 (fm1 ho fm0)
    clear F5
    dsimp only [kstB] at F6
    dsimp only at F6 N5 ⊢
    repeat' ((fail_if_success (with_reducible show wpAny _ _ (PySem.exec (PySem.Stmt.For _ _ _ _ _) _) _ _ _)); (fail_if_success (with_reducible show wpAny _ _ (PySem.exec (PySem.Stmt.While _ _ _ _) _) _ _ _)); (fail_if_success (with_reducible show wpAny _ _ (PySem.pyIter _) _ _ _)); first | (k_unfold; (try dsimp only)) | (k_end; wrow_close) | walk1 | (dsimp only; walk1) | (leave1; walk_say "STEP leave1"; try dsimp only))
    exact ret_end hret _ (by assumption) (by assumption) ⟨lo, c, us, oes, rfl, rfl, hlo, happ, hM⟩
end

/- Law -/
section
open PySem PySem.W PyProof.Rows PySem.Spec
set_option maxRecDepth 100000
noncomputable def upN (y x : Nat) : Bool := Nat.beq (Nat.lor y x) x
noncomputable def anyUp (f : List Nat) (x : Nat) : Bool := f.any fun y => upN y x
noncomputable def stopN (f : List Nat) (g : List Nat) : Nat := (g.find? fun x => anyUp f x).getD 0
noncomputable def comN (f : List Nat) (x : Nat) : Nat := f.foldl (fun c o => cond (upN o x) (Nat.land c o) c) x
noncomputable def bitN (x : Nat) : Nat := [0, 1, 1, 2, 1, 2, 2, 3, 1, 2, 2, 3, 2, 3, 3, 4].getD x 0
noncomputable def facN (k : Nat) : Nat := [1, 1, 2, 6].getD k 0
noncomputable def dueN (L : Nat) (f : List Nat) (x : Nat) : Nat := cond (anyUp f x) (bitN (comN f x) * facN (bitN x - 1) * facN (L - bitN x)) 0
noncomputable def X3 : List (Nat × List (List Nat)) := [(1, [[0, 1, 5, 7], [0, 1, 3, 7]]), (2, [[0, 2, 6, 7], [0, 2, 3, 7]]), (3, [[0, 2, 3, 7], [0, 1, 3, 7]]), (4, [[0, 4, 6, 7], [0, 4, 5, 7]]), (5, [[0, 4, 5, 7], [0, 1, 5, 7]]), (6, [[0, 4, 6, 7], [0, 2, 6, 7]]), (7, [[0, 4, 6, 7], [0, 2, 6, 7], [0, 2, 3, 7], [0, 4, 5, 7], [0, 1, 5, 7], [0, 1, 3, 7]])]
noncomputable def X4 : List (Nat × List (List Nat)) := [(1, [[0, 1, 9, 13, 15], [0, 1, 5, 13, 15], [0, 1, 5, 7, 15], [0, 1, 9, 11, 15], [0, 1, 3, 11, 15], [0, 1, 3, 7, 15]]), (2, [[0, 2, 10, 14, 15], [0, 2, 6, 14, 15], [0, 2, 6, 7, 15], [0, 2, 10, 11, 15], [0, 2, 3, 11, 15], [0, 2, 3, 7, 15]]), (3, [[0, 2, 3, 11, 15], [0, 2, 3, 7, 15], [0, 1, 3, 11, 15], [0, 1, 3, 7, 15]]), (4, [[0, 4, 12, 14, 15], [0, 4, 6, 14, 15], [0, 4, 6, 7, 15], [0, 4, 12, 13, 15], [0, 4, 5, 13, 15], [0, 4, 5, 7, 15]]), (5, [[0, 4, 5, 13, 15], [0, 4, 5, 7, 15], [0, 1, 5, 13, 15], [0, 1, 5, 7, 15]]), (6, [[0, 4, 6, 14, 15], [0, 4, 6, 7, 15], [0, 2, 6, 14, 15], [0, 2, 6, 7, 15]]), (7, [[0, 4, 6, 7, 15], [0, 2, 6, 7, 15], [0, 2, 3, 7, 15], [0, 4, 5, 7, 15], [0, 1, 5, 7, 15], [0, 1, 3, 7, 15]]), (8, [[0, 8, 12, 14, 15], [0, 8, 10, 14, 15], [0, 8, 10, 11, 15], [0, 8, 12, 13, 15], [0, 8, 9, 13, 15], [0, 8, 9, 11, 15]]), (9, [[0, 8, 9, 13, 15], [0, 1, 9, 13, 15], [0, 8, 9, 11, 15], [0, 1, 9, 11, 15]]), (10, [[0, 8, 10, 14, 15], [0, 2, 10, 14, 15], [0, 8, 10, 11, 15], [0, 2, 10, 11, 15]]), (11, [[0, 8, 10, 11, 15], [0, 2, 10, 11, 15], [0, 2, 3, 11, 15], [0, 8, 9, 11, 15], [0, 1, 9, 11, 15], [0, 1, 3, 11, 15]]), (12, [[0, 8, 12, 14, 15], [0, 4, 12, 14, 15], [0, 8, 12, 13, 15], [0, 4, 12, 13, 15]]), (13, [[0, 8, 12, 13, 15], [0, 4, 12, 13, 15], [0, 4, 5, 13, 15], [0, 8, 9, 13, 15], [0, 1, 9, 13, 15], [0, 1, 5, 13, 15]]), (14, [[0, 8, 12, 14, 15], [0, 4, 12, 14, 15], [0, 4, 6, 14, 15], [0, 8, 10, 14, 15], [0, 2, 10, 14, 15], [0, 2, 6, 14, 15]]), (15, [[0, 8, 12, 14, 15], [0, 4, 12, 14, 15], [0, 4, 6, 14, 15], [0, 4, 6, 7, 15], [0, 8, 10, 14, 15], [0, 2, 10, 14, 15], [0, 2, 6, 14, 15], [0, 2, 6, 7, 15], [0, 8, 10, 11, 15], [0, 2, 10, 11, 15], [0, 2, 3, 11, 15], [0, 2, 3, 7, 15], [0, 8, 12, 13, 15], [0, 4, 12, 13, 15], [0, 4, 5, 13, 15], [0, 4, 5, 7, 15], [0, 8, 9, 13, 15], [0, 1, 9, 13, 15], [0, 1, 5, 13, 15], [0, 1, 5, 7, 15], [0, 8, 9, 11, 15], [0, 1, 9, 11, 15], [0, 1, 3, 11, 15], [0, 1, 3, 7, 15]])]
noncomputable def T3 : List (List Nat) := [[0, 4, 6, 7], [0, 2, 6, 7], [0, 2, 3, 7], [0, 4, 5, 7], [0, 1, 5, 7], [0, 1, 3, 7]]
noncomputable def T4 : List (List Nat) := [[0, 8, 12, 14, 15], [0, 4, 12, 14, 15], [0, 4, 6, 14, 15], [0, 4, 6, 7, 15], [0, 8, 10, 14, 15], [0, 2, 10, 14, 15],
  [0, 2, 6, 14, 15], [0, 2, 6, 7, 15], [0, 8, 10, 11, 15], [0, 2, 10, 11, 15], [0, 2, 3, 11, 15], [0, 2, 3, 7, 15],
  [0, 8, 12, 13, 15], [0, 4, 12, 13, 15], [0, 4, 5, 13, 15], [0, 4, 5, 7, 15], [0, 8, 9, 13, 15], [0, 1, 9, 13, 15],
  [0, 1, 5, 13, 15], [0, 1, 5, 7, 15], [0, 8, 9, 11, 15], [0, 1, 9, 11, 15], [0, 1, 3, 11, 15], [0, 1, 3, 7, 15]]
noncomputable def chk (L : Nat) (X : List (Nat × List (List Nat))) (f : List Nat) : Bool := X.all fun p => Nat.beq (p.2.countP fun g => Nat.beq (stopN f g) p.1) (dueN L f p.1)
noncomputable def lits (L : Nat) : List Nat := match L with | 3 => [1, 2, 3, 4, 5, 6, 7] | _ => [1, 2, 3, 4, 5, 6, 7, 8, 9, 10, 11, 12, 13, 14, 15]
noncomputable def chkA (L : Nat) (X : List (Nat × List (List Nat))) (a : Nat) : Bool := (lits L).all fun b => !(Nat.ble a b) || (lits L).all fun c => !(Nat.ble b c) || chk L X [a,b,c]
theorem chk3 : ((lits 3).all fun a => chkA 3 X3 a) = true := by decide +kernel
theorem chk4_1 : chkA 4 X4 1 = true := by decide +kernel
theorem chk4_2 : chkA 4 X4 2 = true := by decide +kernel
theorem chk4_3 : chkA 4 X4 3 = true := by decide +kernel
theorem chk4_4 : chkA 4 X4 4 = true := by decide +kernel
theorem chk4_5 : chkA 4 X4 5 = true := by decide +kernel
theorem chk4_6 : chkA 4 X4 6 = true := by decide +kernel
theorem chk4_7 : chkA 4 X4 7 = true := by decide +kernel
theorem chk4_8 : chkA 4 X4 8 = true := by decide +kernel
theorem chk4_9 : chkA 4 X4 9 = true := by decide +kernel
theorem chk4_10 : chkA 4 X4 10 = true := by decide +kernel
theorem chk4_11 : chkA 4 X4 11 = true := by decide +kernel
theorem chk4_12 : chkA 4 X4 12 = true := by decide +kernel
theorem chk4_13 : chkA 4 X4 13 = true := by decide +kernel
theorem chk4_14 : chkA 4 X4 14 = true := by decide +kernel
theorem chk4_15 : chkA 4 X4 15 = true := by decide +kernel
theorem chk4 : ((lits 4).all fun a => chkA 4 X4 a) = true := by
  simp only [lits, List.all_cons, List.all_nil, chk4_1, chk4_2, chk4_3, chk4_4, chk4_5, chk4_6, chk4_7, chk4_8, chk4_9, chk4_10, chk4_11, chk4_12, chk4_13, chk4_14, chk4_15, Bool.and_self]
/- the chains -/
noncomputable def gathI (o : List Int) : List Int := o.foldl (fun g k => g ++ [Builtin.bitOr (g.getLastD 0) (1 * 2 ^ k.toNat)]) [0]
theorem gath3 : (ordersN 3).map gathI = T3.map (fun g => g.map Int.ofNat) := by decide +kernel
theorem gath4 : (ordersN 4).map gathI = T4.map (fun g => g.map Int.ofNat) := by decide +kernel
abbrev isUp (g : List Nat) : Prop := g.Pairwise fun a b => upN a b = true
noncomputable def TL (L : Nat) : List (List Nat) := if L = 3 then T3 else T4
noncomputable def XL (L : Nat) : List (Nat × List (List Nat)) := if L = 3 then X3 else X4
theorem gathL {L M : Nat} (h : Lm L M) : (ordersN L).map gathI = (TL L).map (fun g => g.map Int.ofNat) := by
  rcases h with ⟨rfl, rfl⟩ | ⟨rfl, rfl⟩
  · exact gath3
  · exact gath4
theorem lits_tab : (∀ n : Fin 8, n.val = 0 ∨ n.val ∈ lits 3) ∧ (∀ n : Fin 16, n.val = 0 ∨ n.val ∈ lits 4) := by constructor <;> decide +kernel
theorem chkL {L M : Nat} (h : Lm L M) {a b c : Nat} (ha : 1 ≤ a) (hab : a ≤ b) (hbc : b ≤ c) (hc : c < M) : chk L (XL L) [a, b, c] = true := by
  have key : ((lits L).all fun a => chkA L (XL L) a) = true := by
    rcases h with ⟨rfl, rfl⟩ | ⟨rfl, rfl⟩
    · exact chk3
    · exact chk4
  have hl : ∀ n, 1 ≤ n → n < M → n ∈ lits L := by
    rcases h with ⟨rfl, rfl⟩ | ⟨rfl, rfl⟩
    · exact fun n h1 h2 => (lits_tab.1 ⟨n, h2⟩).resolve_left (by show ¬ n = 0; omega)
    · exact fun n h1 h2 => (lits_tab.2 ⟨n, h2⟩).resolve_left (by show ¬ n = 0; omega)
  have k1 := List.all_eq_true.mp key a (hl a ha (by omega))
  have k2 := List.all_eq_true.mp k1 b (hl b (by omega) (by omega))
  rw [show Nat.ble a b = true from Nat.ble_eq.mpr hab] at k2
  have k2' : ((lits L).all fun c => !(Nat.ble b c) || chk L (XL L) [a,b,c]) = true := k2
  have k3 := List.all_eq_true.mp k2' c (hl c (by omega) (by omega))
  rw [show Nat.ble b c = true from Nat.ble_eq.mpr hbc] at k3
  exact k3
theorem upT : (∀ g ∈ T3, isUp g) ∧ (∀ g ∈ T4, isUp g) := by constructor <;> decide +kernel
theorem upL (L : Nat) : ∀ g ∈ TL L, isUp g := by
  unfold TL; split
  · exact upT.1
  · exact upT.2
theorem ltT : (∀ g ∈ T3, g.length = 4 ∧ ∀ x ∈ g, x < 8) ∧ (∀ g ∈ T4, g.length = 5 ∧ ∀ x ∈ g, x < 16) := by constructor <;> decide +kernel
theorem ltL {L M : Nat} (h : Lm L M) : ∀ g ∈ TL L, g.length = L + 1 ∧ ∀ x ∈ g, x < M := by
  rcases h with ⟨rfl, rfl⟩ | ⟨rfl, rfl⟩
  · exact ltT.1
  · exact ltT.2
theorem xT : (∀ x : Fin 8, x.val = 0 ∨ (x.val, T3.filter fun g => g.any fun y => Nat.beq y x.val) ∈ X3) ∧ (∀ x : Fin 16, x.val = 0 ∨ (x.val, T4.filter fun g => g.any fun y => Nat.beq y x.val) ∈ X4) := by constructor <;> decide +kernel
theorem xL {L M : Nat} (h : Lm L M) {x : Nat} (h0 : 1 ≤ x) (h1 : x < M) : (x, (TL L).filter fun g => g.any fun y => Nat.beq y x) ∈ XL L := by
  rcases h with ⟨rfl, rfl⟩ | ⟨rfl, rfl⟩
  · rcases xT.1 ⟨x, h1⟩ with e | e
    · exact absurd e (by show ¬ x = 0; omega)
    · exact e
  · rcases xT.2 ⟨x, h1⟩ with e | e
    · exact absurd e (by show ¬ x = 0; omega)
    · exact e
/- upwards -/
theorem upN_iff {y x : Nat} : upN y x = true ↔ y ||| x = x := by unfold upN; rw [Nat.beq_eq]; exact Iff.rfl
theorem upN_trans {y a b : Nat} (h1 : upN y a = true) (h2 : upN a b = true) : upN y b = true := by
  rw [upN_iff] at *
  rw [← h2, ← Nat.or_assoc, h1]
theorem anyUp_mono {f : List Nat} {a b : Nat} (h : upN a b = true) (ha : anyUp f a = true) : anyUp f b = true := by
  unfold anyUp at *
  obtain ⟨y, hy, hu⟩ := List.any_eq_true.mp ha
  exact List.any_eq_true.mpr ⟨y, hy, upN_trans hu h⟩
theorem anyUp_same {f g : List Nat} (h : ∀ y, y ∈ f ↔ y ∈ g) (x : Nat) : anyUp f x = anyUp g x := by
  unfold anyUp
  rw [Bool.eq_iff_iff, List.any_eq_true, List.any_eq_true]
  constructor
  · rintro ⟨y, hy, hu⟩; exact ⟨y, (h y).mp hy, hu⟩
  · rintro ⟨y, hy, hu⟩; exact ⟨y, (h y).mpr hy, hu⟩
theorem com_bit (x i : Nat) : ∀ (f : List Nat) (c : Nat), (f.foldl (fun c o => cond (upN o x) (Nat.land c o) c) c).testBit i = (c.testBit i && f.all fun o => !(upN o x) || o.testBit i)
  | [], c => by simp
  | o :: r, c => by
    rw [List.foldl_cons, com_bit x i r, List.all_cons]
    cases e : upN o x with
    | true =>
      have : (Nat.land c o).testBit i = (c.testBit i && o.testBit i) := Nat.testBit_and c o i
      simp only [cond_true, this, Bool.not_true, Bool.false_or, Bool.and_assoc]
    | false => simp
theorem comN_same {f g : List Nat} (h : ∀ y, y ∈ f ↔ y ∈ g) (x : Nat) : comN f x = comN g x := by
  apply Nat.eq_of_testBit_eq
  intro i
  unfold comN
  rw [com_bit, com_bit]
  congr 1
  rw [Bool.eq_iff_iff, List.all_eq_true, List.all_eq_true]
  constructor
  · intro k y hy; exact k y ((h y).mpr hy)
  · intro k y hy; exact k y ((h y).mp hy)
theorem dueN_same {f g : List Nat} (h : ∀ y, y ∈ f ↔ y ∈ g) (L x : Nat) : dueN L f x = dueN L g x := by
  unfold dueN
  rw [anyUp_same h, comN_same h]
theorem stopN_same {f g : List Nat} (h : ∀ y, y ∈ f ↔ y ∈ g) (c : List Nat) : stopN f c = stopN g c := by
  unfold stopN
  have : (fun x => anyUp f x) = fun x => anyUp g x := funext fun x => anyUp_same h x
  rw [this]
theorem three {M : Nat} {f : List Nat} (h3 : f.length ≤ 3) (hne : f ≠ []) (hb : ∀ y ∈ f, 1 ≤ y ∧ y < M) : ∃ a b c, 1 ≤ a ∧ a ≤ b ∧ b ≤ c ∧ c < M ∧ ∀ y, y ∈ f ↔ y ∈ [a, b, c] := by
  match f, h3, hne, hb with
  | [a], _, _, hb => 
    have h := hb a (by simp)
    exact ⟨a, a, a, h.1, by omega, by omega, h.2, by simp⟩
  | [a, b], _, _, hb =>
    have h1 := hb a (by simp)
    have h2 := hb b (by simp)
    rcases Nat.le_total a b with q | q
    · exact ⟨a, b, b, h1.1, q, by omega, h2.2, by simp⟩
    · exact ⟨b, a, a, h2.1, q, by omega, h1.2, by intro y; simp; exact Or.comm⟩
  | [a, b, c], _, _, hb =>
    have h1 := hb a (by simp)
    have h2 := hb b (by simp)
    have h3 := hb c (by simp)
    have mk : ∀ p q r, p ≤ q → q ≤ r → (1 ≤ p ∧ r < M) → (∀ y, y ∈ [a, b, c] ↔ y ∈ [p, q, r]) → ∃ a' b' c', 1 ≤ a' ∧ a' ≤ b' ∧ b' ≤ c' ∧ c' < M ∧ ∀ y, y ∈ [a, b, c] ↔ y ∈ [a', b', c'] := fun p q r h1 h2 h3 h4 => ⟨p, q, r, h3.1, h1, h2, h3.2, h4⟩
    rcases Nat.le_total a b with q1 | q1 <;> rcases Nat.le_total b c with q2 | q2 <;> rcases Nat.le_total a c with q3 | q3
    · exact mk a b c q1 q2 ⟨h1.1, h3.2⟩ (by intro y; simp only [List.mem_cons, List.not_mem_nil, or_false])
    · exact mk a b c q1 q2 ⟨h1.1, h3.2⟩ (by intro y; simp only [List.mem_cons, List.not_mem_nil, or_false])
    · exact mk a c b q3 q2 ⟨h1.1, h2.2⟩ (by intro y; simp only [List.mem_cons, List.not_mem_nil, or_false]; grind)
    · exact mk c a b q3 q1 ⟨h3.1, h2.2⟩ (by intro y; simp only [List.mem_cons, List.not_mem_nil, or_false]; grind)
    · exact mk b a c q1 q3 ⟨h2.1, h3.2⟩ (by intro y; simp only [List.mem_cons, List.not_mem_nil, or_false]; grind)
    · exact mk b c a q2 q3 ⟨h2.1, h1.2⟩ (by intro y; simp only [List.mem_cons, List.not_mem_nil, or_false]; grind)
    · exact mk c b a q2 q1 ⟨h3.1, h1.2⟩ (by intro y; simp only [List.mem_cons, List.not_mem_nil, or_false]; grind)
    · exact mk c b a q2 q1 ⟨h3.1, h1.2⟩ (by intro y; simp only [List.mem_cons, List.not_mem_nil, or_false]; grind)
  | _ :: _ :: _ :: _ :: _, h, _, _ => exact absurd h (by simp)
/-- the law for nat sets -/
theorem law_nat {L M : Nat} (h : Lm L M) {f : List Nat} (h3 : f.length ≤ 3) (hne : f ≠ []) (hb : ∀ y ∈ f, 1 ≤ y ∧ y < M) {x : Nat} (h0 : 1 ≤ x) (h1 : x < M) : (TL L).countP (fun g => Nat.beq (stopN f g) x) = dueN L f x := by
  obtain ⟨a, b, c, ha, hab, hbc, hc, hm⟩ := three h3 hne hb
  have k := List.all_eq_true.mp (chkL h ha hab hbc hc) _ (xL h h0 h1)
  dsimp only at k
  have k := Nat.eq_of_beq_eq_true k
  rw [dueN_same hm, ← k, List.countP_filter]
  congr 1
  funext g
  rw [stopN_same hm]
  rw [Bool.eq_iff_iff]
  constructor
  · intro e
    refine Bool.and_eq_true_iff.mpr ⟨e, ?_⟩
    have e := Nat.eq_of_beq_eq_true e
    unfold stopN at e
    cases q : g.find? (fun x => anyUp [a, b, c] x) with
    | none => rw [q] at e; exact absurd e (by show ¬ 0 = x; omega)
    | some z =>
      rw [q] at e
      have e : z = x := e
      subst e
      exact List.any_eq_true.mpr ⟨z, List.mem_of_find?_eq_some q, Nat.beq_refl z⟩
  · intro e; exact (Bool.and_eq_true_iff.mp e).1
end

/- Law2 -/
section
open PySem PySem.W PyProof.Rows PySem.Spec
set_option maxRecDepth 100000
theorem wi_tab3 : ∀ y x : Fin 8, within 3 y.val x.val = upN y.val x.val := by decide +kernel
theorem wi_tab4 : ∀ y x : Fin 16, within 4 y.val x.val = upN y.val x.val := by decide +kernel
theorem wi_at {L M : Nat} (h : Lm L M) {y x : Nat} (hy : y < M) (hx : x < M) : within L y x = upN y x := by
  rcases h with ⟨rfl, rfl⟩ | ⟨rfl, rfl⟩
  · exact wi_tab3 ⟨y, hy⟩ ⟨x, hx⟩
  · exact wi_tab4 ⟨y, hy⟩ ⟨x, hx⟩
theorem or_tab : ∀ y x : Fin 16, decide (Builtin.bitOr (y.val : Int) (x.val : Int) = (x.val : Int)) = upN y.val x.val := by decide +kernel
theorem an_tab : ∀ y x : Fin 16, Builtin.bitAnd (y.val : Int) (x.val : Int) = ((Nat.land y.val x.val : Nat) : Int) ∧ Nat.land y.val x.val < 16 := by decide +kernel
abbrev famN (fam : List Int) : List Nat := fam.map Int.toNat
theorem holdI_up {L M : Nat} (h : Lm L M) {fam : List Int} (hf : ∀ y ∈ fam, 1 ≤ y ∧ y < (M : Int)) {x : Nat} (hx : x < M) : holdI L fam (x : Int) = if anyUp (famN fam) x = true then 1 else 0 := by
  unfold holdI anyUp
  have e : (fam.any fun y => withinI L y (x : Int)) = ((famN fam).any fun y => upN y x) := by
    rw [List.any_map]
    rw [Bool.eq_iff_iff, List.any_eq_true, List.any_eq_true]
    constructor
    · rintro ⟨y, hy, hu⟩
      refine ⟨y, hy, ?_⟩
      have := hf y hy
      show upN y.toNat x = true
      rw [← wi_at h (by omega) hx]; exact hu
    · rintro ⟨y, hy, hu⟩
      refine ⟨y, hy, ?_⟩
      have := hf y hy
      have hu : upN y.toNat x = true := hu
      rw [← wi_at h (by omega) hx] at hu; exact hu
  rw [e]
theorem up_int {y : Int} (h0 : 0 ≤ y) (h1 : y < 16) {x : Nat} (hx : x < 16) : (Builtin.bitOr y (x : Int) = (x : Int)) ↔ upN y.toNat x = true := by
  have k := or_tab ⟨y.toNat, by omega⟩ ⟨x, hx⟩
  simp only [Int.toNat_of_nonneg h0] at k
  rw [← k, decide_eq_true_iff]
theorem comF_N {x : Nat} (hx : x < 16) : ∀ (l : List Int), (∀ y ∈ l, 0 ≤ y ∧ y < 16) → ∀ c : Nat, c < 16 → l.foldl (fun c o => if Builtin.bitOr o (x : Int) = (x : Int) then Builtin.bitAnd c o else c) (c : Int) = (((famN l).foldl (fun c o => cond (upN o x) (Nat.land c o) c) c : Nat) : Int) ∧ (famN l).foldl (fun c o => cond (upN o x) (Nat.land c o) c) c < 16
  | [], _, c, hc => ⟨rfl, hc⟩
  | o :: r, h, c, hc => by
    have ho := h o (List.mem_cons_self ..)
    have hr : ∀ y ∈ r, 0 ≤ y ∧ y < 16 := fun y hy => h y (List.mem_cons_of_mem _ hy)
    rw [show famN (o :: r) = o.toNat :: famN r from rfl, List.foldl_cons, List.foldl_cons]
    by_cases e : Builtin.bitOr o (x : Int) = (x : Int)
    · rw [if_pos e, (up_int ho.1 ho.2 hx).mp e]
      have k := an_tab ⟨c, hc⟩ ⟨o.toNat, by omega⟩
      simp only [Int.toNat_of_nonneg ho.1] at k
      rw [k.1]
      exact comF_N hx r hr _ k.2
    · rw [if_neg e, show upN o.toNat x = false from Bool.eq_false_iff.mpr fun q => e ((up_int ho.1 ho.2 hx).mpr q)]
      exact comF_N hx r hr c hc
theorem bit_tab : ∀ x : Fin 16, cntI (x.val : Int) = (bitN x.val : Int) ∧ bitN x.val ≤ 4 ∧ (1 ≤ x.val → 1 ≤ bitN x.val) ∧ (x.val < 8 → bitN x.val ≤ 3) := by decide +kernel
theorem fac_at (k : Nat) : ordN (k : Int) = (facN k : Int) := by
  unfold ordN facN
  rw [Int.toNat_natCast]
  match k with
  | 0 => rfl
  | 1 => rfl
  | 2 => rfl
  | 3 => rfl
  | k + 4 => rfl
theorem dueI_N {L M : Nat} (h : Lm L M) {fam : List Int} (hf : ∀ y ∈ fam, 1 ≤ y ∧ y < (M : Int)) {x : Nat} (h0 : 1 ≤ x) (hx : x < M) : dueI L fam (x : Int) = (dueN L (famN fam) x : Int) := by
  have hM : M ≤ 16 := by rcases h with ⟨_, rfl⟩ | ⟨_, rfl⟩ <;> omega
  have hx16 : x < 16 := by omega
  have hf16 : ∀ y ∈ fam, 0 ≤ y ∧ y < 16 := fun y hy => by have := hf y hy; omega
  unfold dueI dueN
  have e : someF (x : Int) fam = anyUp (famN fam) x := by
    unfold someF anyUp
    rw [List.any_map, Bool.eq_iff_iff, List.any_eq_true, List.any_eq_true]
    constructor
    · rintro ⟨y, hy, hu⟩; exact ⟨y, hy, (up_int (hf16 y hy).1 (hf16 y hy).2 hx16).mp (of_decide_eq_true hu)⟩
    · rintro ⟨y, hy, hu⟩; exact ⟨y, hy, decide_eq_true ((up_int (hf16 y hy).1 (hf16 y hy).2 hx16).mpr hu)⟩
  rw [e]
  cases anyUp (famN fam) x with
  | false => rfl
  | true =>
    rw [if_pos rfl, cond_true]
    have kc := comF_N hx16 fam hf16 x hx16
    have b := bit_tab ⟨x, hx16⟩
    dsimp only at b
    have kb := bit_tab ⟨_, kc.2⟩
    dsimp only at kb
    have hbL : bitN x ≤ L := by
      rcases h with ⟨rfl, rfl⟩ | ⟨rfl, rfl⟩
      · exact b.2.2.2 hx
      · exact b.2.1
    have hb1 := b.2.2.1 h0
    unfold comF comN
    rw [kc.1, kb.1, b.1, show ((bitN x : Int) - 1) = ((bitN x - 1 : Nat) : Int) by omega, show ((L : Int) - (bitN x : Int)) = ((L - bitN x : Nat) : Int) by omega, fac_at, fac_at]
    push_cast
    rfl
/- the stop of a chain -/
noncomputable def stopI (L : Nat) (fam : List Int) (o : List Int) : Int := (gathI o).getD (cL ((gathI o).map (holdI L fam)) 1).toNat 0
theorem find_count {p : Nat → Bool} : ∀ g : List Nat, (g.Pairwise fun a b => p a = true → p b = true) → g.getD (g.countP fun y => !p y) 0 = (g.find? p).getD 0
  | [], _ => rfl
  | a :: r, h => by
    have hr := List.pairwise_cons.mp h
    cases e : p a with
    | true =>
      have : (a :: r).countP (fun y => !p y) = 0 := by
        rw [List.countP_eq_zero]
        intro y hy
        rcases List.mem_cons.mp hy with rfl | hy
        · simp [e]
        · simp [hr.1 y hy e]
      rw [this, List.find?_cons_of_pos e]
      rfl
    | false =>
      rw [List.countP_cons, List.find?_cons_of_neg (by simp [e])]
      simp only [e, Bool.not_false, if_true]
      rw [List.getD_cons_succ]
      exact find_count r hr.2
theorem pw_any {f g : List Nat} (h : isUp g) : g.Pairwise fun a b => anyUp f a = true → anyUp f b = true := h.imp fun hu ha => anyUp_mono hu ha
theorem map_hold {L M : Nat} (h : Lm L M) {fam : List Int} (hf : ∀ y ∈ fam, 1 ≤ y ∧ y < (M : Int)) {g : List Nat} (hg : ∀ x ∈ g, x < M) : (g.map Int.ofNat).map (holdI L fam) = g.map fun x => if anyUp (famN fam) x = true then (1 : Int) else 0 := by
  rw [List.map_map]
  exact List.map_congr_left fun x hx => holdI_up h hf (hg x hx)
theorem sorted_hold {L M : Nat} (h : Lm L M) {fam : List Int} (hf : ∀ y ∈ fam, 1 ≤ y ∧ y < (M : Int)) {g : List Nat} (hg : ∀ x ∈ g, x < M) (hu : isUp g) : Sorted ((g.map Int.ofNat).map (holdI L fam)) := by
  rw [map_hold h hf hg]
  refine List.pairwise_map.mpr ((pw_any (f := famN fam) hu).imp fun {a b} k => ?_)
  by_cases e : anyUp (famN fam) a = true
  · rw [if_pos e, if_pos (k e)]; exact Int.le_refl _
  · rw [if_neg e]; split <;> decide
theorem getD_ofNat (g : List Nat) (i : Nat) : (g.map Int.ofNat).getD i 0 = ((g.getD i 0 : Nat) : Int) := by
  rw [List.getD_eq_getElem?_getD, List.getD_eq_getElem?_getD, List.getElem?_map]
  cases g[i]? <;> rfl
theorem stop_chain {L M : Nat} (h : Lm L M) {fam : List Int} (hf : ∀ y ∈ fam, 1 ≤ y ∧ y < (M : Int)) {g : List Nat} (hg : ∀ x ∈ g, x < M) (hu : isUp g) : (g.map Int.ofNat).getD (cL ((g.map Int.ofNat).map (holdI L fam)) 1).toNat 0 = (stopN (famN fam) g : Int) := by
  rw [map_hold h hf hg, getD_ofNat]
  unfold stopN cL
  rw [Int.toNat_natCast, List.countP_map, ← find_count g (pw_any hu)]
  congr 3
  funext y
  show decide ((if anyUp (famN fam) y = true then (1 : Int) else 0) < 1) = !anyUp (famN fam) y
  cases anyUp (famN fam) y <;> decide
theorem cL_cR (ns : List Int) (x : Int) : cR ns x - cL ns x = (ns.countP fun y => decide (y = x) : Nat) := by
  unfold cR cL
  have : ∀ ns : List Int, (ns.countP fun y => decide (y ≤ x)) = (ns.countP fun y => decide (y < x)) + ns.countP fun y => decide (y = x) := by
    intro ns
    induction ns with
    | nil => rfl
    | cons a r ih =>
      rw [List.countP_cons, List.countP_cons, List.countP_cons, ih]
      by_cases h1 : a < x
      · simp [h1, Int.le_of_lt h1, Int.ne_of_lt h1]; omega
      · by_cases h2 : a = x
        · subst h2; simp; omega
        · have : ¬ a ≤ x := by omega
          simp [h1, h2, this]
  rw [this ns]; omega
/-- the law's own answer: the stops' count -/
theorem law_due {L M : Nat} (h : Lm L M) {fam : List Int} (h3 : fam.length ≤ 3) (hne : fam ≠ []) (hf : ∀ y ∈ fam, 1 ≤ y ∧ y < (M : Int)) {stops : List Int} (hp : stops.Perm ((ordersN L).map (stopI L fam))) {x : Nat} (h0 : 1 ≤ x) (hx : x < M) :
    cR stops (x : Int) - cL stops (x : Int) = dueI L fam (x : Int) := by
  rw [cL_cR, hp.countP_eq, dueI_N h hf h0 hx, ← law_nat h (f := famN fam) (by simpa using h3) (by simpa using hne) (fun y hy => by
    obtain ⟨z, hz, rfl⟩ := List.mem_map.mp hy
    have := hf z hz
    constructor <;> omega) h0 hx]
  have e : (ordersN L).map (stopI L fam) = (TL L).map fun g => (stopN (famN fam) g : Int) := by
    have e1 : (ordersN L).map (stopI L fam) = ((ordersN L).map gathI).map fun g => g.getD (cL (g.map (holdI L fam)) 1).toNat 0 := by rw [List.map_map]; rfl
    rw [e1, gathL h, List.map_map]
    exact List.map_congr_left fun g hg => stop_chain h hf (ltL h g hg).2 (upL L g hg)
  rw [e, List.countP_map]
  congr 2
  funext g
  show decide ((stopN (famN fam) g : Int) = (x : Int)) = Nat.beq (stopN (famN fam) g) x
  rw [Bool.eq_iff_iff, decide_eq_true_iff, Nat.beq_eq]
  omega
theorem law_zero {L M : Nat} (h : Lm L M) {fam : List Int} (hne : fam ≠ []) (hf : ∀ y ∈ fam, 1 ≤ y ∧ y < (M : Int)) {stops : List Int} (hp : stops.Perm ((ordersN L).map (stopI L fam))) : cR stops 0 - cL stops 0 = 0 := by
  have hz : ∀ g ∈ TL L, ¬ stopN (famN fam) g = 0 := by
    intro g hg
    have hp0 : anyUp (famN fam) 0 = false := by
      unfold anyUp
      rw [List.any_eq_false]
      intro y hy
      obtain ⟨z, hz, rfl⟩ := List.mem_map.mp hy
      have := hf z hz
      rw [upN_iff, Nat.or_zero]; omega
    have hlast : ∃ x ∈ g, anyUp (famN fam) x = true := by
      obtain ⟨y, hy⟩ := List.exists_mem_of_ne_nil fam hne
      have hyb := hf y hy
      have top : (M - 1) ∈ g ∧ upN y.toNat (M - 1) = true := by
        rcases h with ⟨rfl, rfl⟩ | ⟨rfl, rfl⟩
        · exact ⟨(by decide : ∀ g ∈ T3, 8 - 1 ∈ g) g hg, (by decide : ∀ y : Fin 8, upN y.val (8 - 1) = true) ⟨y.toNat, by omega⟩⟩
        · exact ⟨(by decide : ∀ g ∈ T4, 16 - 1 ∈ g) g hg, (by decide : ∀ y : Fin 16, upN y.val (16 - 1) = true) ⟨y.toNat, by omega⟩⟩
      exact ⟨M - 1, top.1, List.any_eq_true.mpr ⟨y.toNat, List.mem_map.mpr ⟨y, hy, rfl⟩, top.2⟩⟩
    unfold stopN
    cases q : g.find? (fun x => anyUp (famN fam) x) with
    | none =>
      obtain ⟨x, hx, hu⟩ := hlast
      exact absurd hu (List.find?_eq_none.mp q x hx)
    | some z =>
      intro e
      have e : z = 0 := e
      subst e
      have := List.find?_some q
      rw [hp0] at this
      cases this
  rw [cL_cR, hp.countP_eq]
  have e1 : (ordersN L).map (stopI L fam) = ((ordersN L).map gathI).map fun g => g.getD (cL (g.map (holdI L fam)) 1).toNat 0 := by rw [List.map_map]; rfl
  have e : (ordersN L).map (stopI L fam) = (TL L).map fun g => (stopN (famN fam) g : Int) := by
    rw [e1, gathL h, List.map_map]
    exact List.map_congr_left fun g hg => stop_chain h hf (ltL h g hg).2 (upL L g hg)
  rw [e, List.countP_map]
  show ((List.countP _ _ : Nat) : Int) = ((0 : Nat) : Int)
  congr 1
  rw [List.countP_eq_zero]
  intro g hg k
  exact hz g hg (by have k := of_decide_eq_true k; have k : (stopN (famN fam) g : Int) = 0 := k; omega)
end

/- C13 -/
section
open PySem PySem.W PyProof.Rows PySem.Spec
set_option maxRecDepth 100000
set_option maxHeartbeats 4000000

/-- a call with key= -/
abbrev ClK (w : World) (mean : ExcName → Option Value) (mg mb : Str → Option Value) (f : Addr) (dd du : Nat) (news : List (Addr × Obj)) (vs : List Value) (kw : List (Str × Value)) (Post : Value → List (Addr × Obj) → Prop) : Prop :=
  ∀ (dp un : Nat) (gd : Option (List Code)) (cn : Str) (cs : Scope) (a : Addr) (ccd : Value) (cl : List (Str × Addr)) (outer : List Env) (A₀ : Around) (base h₀ : Heap) (L : Addr) (m : Str → Option Value) (s : Shared) (Q E : Value → Shared → Prop),
    Below A₀ base outer h₀ → Fr h₀ L s.heap m → (hd.heap_39 w.params).In h₀ → News h₀ L s.heap news → (∃ lo, Top topProg lo mean mg mb h₀) → cs.kind = .function → dp + dd < recursionLimit → un + du < cLine → Ret h₀ L m s Q Post →
    wpAny (model PySem.Challenge.rw_sw0045_01.row.prog w) (ktrTop dp un gd cn cs L a ccd cl outer) (PySem.call (.ref f) vs kw) Q E s
theorem clk_use {w : World} {mean : ExcName → Option Value} {mg mb : Str → Option Value} {f : Addr} {dd du : Nat} {news : List (Addr × Obj)} {vs : List Value} {kw : List (Str × Value)} {Post : Value → List (Addr × Obj) → Prop}
    {dp un : Nat} {gd : Option (List Code)} {cn : Str} {cs : Scope} {a : Addr} {ccd : Value} {cl : List (Str × Addr)} {outer : List Env} {A₀ : Around} {base h₀ : Heap} {L : Addr} {m : Str → Option Value} {s : Shared} {Q E : Value → Shared → Prop}
    (C : ClK w mean mg mb f dd du news vs kw Post) (B : Below A₀ base outer h₀) (F : Fr h₀ L s.heap m) (X : (hd.heap_39 w.params).In h₀) (N : News h₀ L s.heap news) {loo : List Str} (T : Top topProg loo mean mg mb h₀) (hk : cs.kind = .function) (hdp : dp + dd < recursionLimit) (hu : un + du < cLine)
    (ret : ∀ (v : Value) (news' : List (Addr × Obj)) (h' : Heap) (tk' : Nat), Fr h₀ L h' m → News h₀ L h' news' → Post v news' → Q v { s with heap := h', toks := tk' }) :
    wpAny (model PySem.Challenge.rw_sw0045_01.row.prog w) (ktrTop dp un gd cn cs L a ccd cl outer) (PySem.call (.ref f) vs kw) Q E s := C _ _ _ _ _ _ _ _ _ _ _ _ _ _ _ _ _ B F X N ⟨loo, T⟩ hk hdp hu ret

/-- what a call of holds leaves -/
noncomputable def HoldsPost (w : World) (L : Nat) (fam : List Int) (ld : Addr) (rest : List (Addr × Obj)) (k : Nat) (v : Value) (r : Int) (news' : List (Addr × Obj)) : Prop :=
  (∃ t', v = .int r t') ∧ ∃ od' kvs', news' = (ld, od') :: rest ∧ Obj.IsDictOf (PySem.intKind PySem.Challenge.rw_sw0045_01.row.prog w) od' kvs' ∧ ToldOK L fam kvs' ∧ kvs'.length ≤ k

noncomputable def BlkJ (w : World) (L : Nat) (fam g : List Int) (lg ld f : Addr) (rest : List (Addr × Obj)) (k : Nat) (n : Nat) (m : Str → Option Value) (nx : List (Addr × Obj)) : Prop :=
  ∃ lo hi tl th tx od' kvs', nx = (ld, od') :: rest ∧ Obj.IsDictOf (PySem.intKind PySem.Challenge.rw_sw0045_01.row.prog w) od' kvs' ∧ ToldOK L fam kvs' ∧ kvs'.length + n ≤ k ∧ n = (hi - lo).toNat ∧ 0 ≤ lo ∧ lo ≤ hi ∧ hi ≤ (g.length : Int) ∧
    BInv (beyondL (g.map (holdI L fam)) 1) (g.map (holdI L fam)).length lo hi ∧ m (Str.ofString "a") = some (.ref lg) ∧ m (Str.ofString "x") = some (.int 1 tx) ∧ m (Str.ofString "key") = some (.ref f) ∧ m (Str.ofString "lo") = some (.int lo tl) ∧ m (Str.ofString "hi") = some (.int hi th)
section
theorem mid_ok {M : Nat} {g : List Int} {lo hi : Int} (hgb : ∀ x ∈ g, 0 ≤ x ∧ x < (M : Int)) (h0 : 0 ≤ lo) (hh : hi ≤ (g.length : Int)) (h : lo < hi) : 0 ≤ g.getD (Int.fdiv (lo + hi) 2).toNat 0 ∧ g.getD (Int.fdiv (lo + hi) 2).toNat 0 < (M : Int) := by
  have f := mid_facts h0 h
  have hi : (Int.fdiv (lo + hi) 2).toNat < g.length := by omega
  rw [List.getD_eq_getElem?_getD, List.getElem?_eq_getElem hi]
  exact hgb _ (List.getElem_mem hi)
theorem map_at {L : Nat} {fam g : List Int} {lo hi : Int} (h0 : 0 ≤ lo) (hh : hi ≤ (g.length : Int)) (h : lo < hi) : (g.map (holdI L fam)).getD (Int.fdiv (lo + hi) 2).toNat 0 = holdI L fam (g.getD (Int.fdiv (lo + hi) 2).toNat 0) := by
  have f := mid_facts h0 h
  have hi : (Int.fdiv (lo + hi) 2).toNat < g.length := by omega
  rw [List.getD_eq_getElem?_getD, List.getD_eq_getElem?_getD, List.getElem?_map, List.getElem?_eq_getElem hi]
  rfl
theorem c_blk {w : World} {mean : ExcName → Option Value} {mg mb : Str → Option Value} {L M : Nat} {lg ld f : Addr} {gs : List Value} {g fam : List Int} {ng : Nat} {rest : List (Addr × Obj)} {od : Obj} {foc : Value} {fod : Option Addr} {fd : FuncData} {fsl : Array (Option Value)} {kvs : List (Int × Value)} {t : Tok} (hg : IntsAre gs g) (hgb : ∀ x ∈ g, 0 ≤ x ∧ x < (M : Int)) (hfit : g.length < 20) (hs : Sorted (g.map (holdI L fam)))
    (hkey : ∀ od kvs x t, Obj.IsDictOf (PySem.intKind PySem.Challenge.rw_sw0045_01.row.prog w) od kvs → ToldOK L fam kvs → kvs.length ≤ 900 → 0 ≤ x → x < (M : Int) → Cl w mean mg mb f 4 32 ((ld, od) :: (lg, listOf gs.toArray ng) :: (f, (⟨foc, fod, .func fd, fsl⟩ : Obj)) :: rest) [.int x t] (fun v news' => HoldsPost w L fam ld ((lg, listOf gs.toArray ng) :: (f, (⟨foc, fod, .func fd, fsl⟩ : Obj)) :: rest) (kvs.length + 1) v (holdI L fam x) news'))
    (hd : Obj.IsDictOf (PySem.intKind PySem.Challenge.rw_sw0045_01.row.prog w) od kvs) (hT : ToldOK L fam kvs) (hl : kvs.length ≤ 800) :
    ClK w mean mg mb 55 5 40 ((ld, od) :: (lg, listOf gs.toArray ng) :: (f, (⟨foc, fod, .func fd, fsl⟩ : Obj)) :: rest) [.ref lg, .int 1 t] [(Str.ofString "key", .ref f)] (fun v news' => HoldsPost w L fam ld ((lg, listOf gs.toArray ng) :: (f, (⟨foc, fod, .func fd, fsl⟩ : Obj)) :: rest) (kvs.length + g.length) v (cL (g.map (holdI L fam)) 1) news') := by
  w_top off
  unfold ClK
  k_fill
  intro dp un gd cn cs a' ccd cl outer A₀ base h₀ Lc m s Q E B F X N T hk hdp hu hret
  obtain ⟨loo, T⟩ := T
  have kMark : KstMark := kstMark
  refine wpAny_call ?_
  k_dflt ((refine' code_def ?k1 ?k2 ?k3 ?k4 ?k5 ?kA ?kF ?kK ?k6 ?k7 ?k8 ?k9 ?kB ?_ ?c2 ?c3 ?c4 ?c5; (case kA => exact rfl); (case kF => exact rfl); (case kK => first | exact rfl | assumption); (case k1 => k_asm); (case k2 => k_asm); (case k3 => k_asm); (case k4 => k_asm); (case k5 => k_asm); (case k6 => k_is); (case k7 => k_is); (case k8 => ktr_room); (case k9 => (first | exact BindsTo.of_eq rfl | (refine' kp_binds ?kx ?ke; (case kx => k_in); (case ke => exact fun _ => rfl)))); (case c5 => decide); (case kB => exact locs rfl); (case c2 => exact rfl); (case c3 => exact rfl); (case c4 => exact rfl); k_whole; intro g' L' h' FG' F' N' B' X' T'; (try dsimp only); (try k_lift B'); (try k_fold)))
  repeat' ((fail_if_success (with_reducible show wpAny _ _ (PySem.exec (PySem.Stmt.For _ _ _ _ _) _) _ _ _)); (fail_if_success (with_reducible show wpAny _ _ (PySem.exec (PySem.Stmt.While _ _ _ _) _) _ _ _)); (fail_if_success (with_reducible show wpAny _ _ (PySem.pyIter _) _ _ _)); first | (k_here; (with_reducible show wpAny _ _ (PySem.call (Value.ref f) [_]) _ _ _); k_dflt (refine' cl_use (hkey _ _ _ _ ?ha ?hb ?hc ?hx ?hy) ?k1 ?k2 ?k3 ?k4 ?k5 ?kK ?kd ?ku ?_; (case k1 => k_asm); (case k2 => k_asm); (case k3 => k_asm); (case k4 => k_asm); (case k5 => k_asm); (case kK => first | exact rfl | assumption); (case kd => ktr_room); (case ku => ktr_units); (case ha => assumption); (case hb => assumption); (case hc => omega); (case hx => exact (mid_ok hgb (by assumption) (by omega) (by assumption)).1); (case hy => exact (mid_ok hgb (by assumption) (by omega) (by assumption)).2); k_whole); intro v9 nw9 h9 tk9 F9 N9 P9; (obtain ⟨⟨t8, e9⟩, od9, kvs9, e8, hd9, hT9, hl9⟩ := P9); subst e8; subst e9; (try dsimp only); (try k_fold)) | ((with_reducible show FnAt _ _ ∧ _); refine ⟨FnAt.of (by k_asm) (by k_mem), ?_⟩; try dsimp only [List.nil_append, List.cons_append]) | (k_here; (with_reducible show wpAny _ _ (PySem.callWith _ (Value.ref f) _ _ _) _ _ _); k_dflt (refine' callWith_F ?k1 ?_; (case k1 => exact FnAt.of (by k_asm) (by k_mem)); k_whole)) | (k_unfold; (try dsimp only)) | (k_end; wrow_close) | walk1 | (dsimp only; walk1) | (leave1; walk_say "STEP leave1"; try dsimp only))
  refine While_inv2 (BlkJ w L fam g lg ld f ((lg, listOf gs.toArray ng) :: (f, (⟨foc, fod, .func fd, fsl⟩ : Obj)) :: rest) (kvs.length + g.length)) (n₀ := g.length) (by assumption) (by assumption) ?start ?turn
  case start =>
    have hml : (g.map (holdI L fam)).length = g.length := List.length_map ..
    refine ⟨0, g.length, _, _, _, od, kvs, rfl, hd, hT, Nat.le_refl _, by omega, Int.le_refl _, by omega, Int.le_refl _, ?_, rfl, rfl, rfl, rfl, rfl⟩
    rw [hml]; exact bInv_start _ _
  case turn =>
    rintro n m₁ nx h₁ tk₁ F₁ N₁ ⟨lo, hi, tl, th, tx, od1, kvs1, rfl, hd1, hT1, hk1, hn, h0, hlh, hh, hB, e1, e2, e3, e4, e5⟩
    have F6 := fr_known [(Str.ofString "a", .ref lg), (Str.ofString "x", .int 1 tx), (Str.ofString "key", .ref f), (Str.ofString "lo", .int lo tl), (Str.ofString "hi", .int hi th)] F₁ (fm1 e1 (fm1 e2 (fm1 e3 (fm1 e4 (fm1 e5 fm0)))))
    clear F₁
    dsimp only [kstB] at F6
    dsimp only at F6 N₁ ⊢
    repeat' ((fail_if_success (with_reducible show wpAny _ _ (PySem.exec (PySem.Stmt.For _ _ _ _ _) _) _ _ _)); (fail_if_success (with_reducible show wpAny _ _ (PySem.exec (PySem.Stmt.While _ _ _ _) _) _ _ _)); (fail_if_success (with_reducible show wpAny _ _ (PySem.pyIter _) _ _ _)); first | (k_here; (with_reducible show wpAny _ _ (PySem.call (Value.ref f) [_]) _ _ _); k_dflt (refine' cl_use (hkey _ _ _ _ ?ha ?hb ?hc ?hx ?hy) ?k1 ?k2 ?k3 ?k4 ?k5 ?kK ?kd ?ku ?_; (case k1 => k_asm); (case k2 => k_asm); (case k3 => k_asm); (case k4 => k_asm); (case k5 => k_asm); (case kK => first | exact rfl | assumption); (case kd => ktr_room); (case ku => ktr_units); (case ha => assumption); (case hb => assumption); (case hc => omega); (case hx => exact (mid_ok hgb (by assumption) (by omega) (by assumption)).1); (case hy => exact (mid_ok hgb (by assumption) (by omega) (by assumption)).2); k_whole); intro v9 nw9 h9 tk9 F9 N9 P9; (obtain ⟨⟨t8, e9⟩, od9, kvs9, e8, hd9, hT9, hl9⟩ := P9); subst e8; subst e9; (try dsimp only); (try k_fold)) | ((with_reducible show FnAt _ _ ∧ _); refine ⟨FnAt.of (by k_asm) (by k_mem), ?_⟩; try dsimp only [List.nil_append, List.cons_append]) | (k_here; (with_reducible show wpAny _ _ (PySem.callWith _ (Value.ref f) _ _ _) _ _ _); k_dflt (refine' callWith_F ?k1 ?_; (case k1 => exact FnAt.of (by k_asm) (by k_mem)); k_whole)) | (k_unfold; (try dsimp only)) | (k_end; wrow_close) | walk1 | (dsimp only; walk1) | (leave1; walk_say "STEP leave1"; try dsimp only))
    · have hlt := (by assumption : lo < hi)
      have hx := (by assumption : holdI L fam (g.getD (Int.fdiv (lo + hi) 2).toNat 0) < 1)
      rw [← map_at (L := L) (fam := fam) h0 hh hlt] at hx
      have u := bl_up hs h0 (by rw [List.length_map]; exact hh) hB hlt hx
      have q := br_lessU h0 hlt
      have uh := u.2.2.1
      rw [List.length_map] at uh
      refine ⟨_, _, _, _, (hi - (Int.fdiv (lo + hi) 2 + 1)).toNat, rfl, by assumption, by assumption, ?qa, Int.fdiv (lo + hi) 2 + 1, hi, _, _, _, _, _, rfl, by assumption, by assumption, ?qb, rfl, u.1, u.2.1, uh, u.2.2.2, rfl, rfl, rfl, rfl, rfl⟩
      case qa => omega
      case qb => omega
    · have hlt := (by assumption : lo < hi)
      have hx := (by assumption : ¬ holdI L fam (g.getD (Int.fdiv (lo + hi) 2).toNat 0) < 1)
      rw [← map_at (L := L) (fam := fam) h0 hh hlt] at hx
      have u := bl_down hs h0 (by rw [List.length_map]; exact hh) hB hlt hx
      have q := br_lessD h0 hlt
      have uh := u.2.2.1
      rw [List.length_map] at uh
      refine ⟨_, _, _, _, (Int.fdiv (lo + hi) 2 - lo).toNat, rfl, by assumption, by assumption, ?qa, lo, Int.fdiv (lo + hi) 2, _, _, _, _, _, rfl, by assumption, by assumption, ?qb, rfl, u.1, u.2.1, uh, u.2.2.2, rfl, rfl, rfl, rfl, rfl⟩
      case qa => omega
      case qb => omega
    · have e := cL_of h0 hlh (by rw [List.length_map]; exact hh) hB (by assumption)
      refine ret_end hret _ (by assumption) (by assumption) ⟨⟨_, by rw [e]⟩, od1, kvs1, rfl, hd1, hT1, by omega⟩
end
end

/- Ord -/
section
open PySem PySem.W PyProof.Rows PySem.Spec PySem.Calls PyProof.V
set_option maxRecDepth 100000
section
variable {prog : Program} {w : World} {A : Around} {E : Value → Shared → Prop} {s : Shared} {env : Env} {h₀ : Heap} {x : Str} {body : List Stmt} {Q : Flow → Shared → Prop}
/-- a for over a list of any values that stands in the ledger -/
theorem iter_refs {l : Addr} {vs : List Value} {nn : Nat} {m₀ : Str → Option Value} {news : List (Addr × Obj)} (J : Nat → (Str → Option Value) → List (Addr × Obj) → Prop)
    (hh : A.handled = none) (hl : (l, listOf vs.toArray nn) ∈ news) (F : Fr h₀ env.locals s.heap m₀) (N : News h₀ env.locals s.heap news) (hj : J 0 m₀ news)
    (turn : ∀ i v m₁ news₁ h tk own, vs[i]? = some v → news₁.map (·.1) = news.map (·.1) → OwnOff own (news.map (·.1)) → (l, listOf vs.toArray nn) ∈ news₁ → J i m₁ news₁ → Fr h₀ env.locals h (fun y => if y = x then some v else m₁ y) → News h₀ env.locals h (news₁ ++ own) →
      wpAny (model prog w) A (execs body env) (InvPostN h₀ env.locals (fun m' nx => (l, listOf vs.toArray nn) ∈ nx ∧ J (i + 1) m' nx) own (news.map (·.1)) { s with heap := h, toks := tk } Q) E { s with heap := h, toks := tk })
    (done : ∀ m₁ news₁ h tk, (l, listOf vs.toArray nn) ∈ news₁ → J vs.length m₁ news₁ → Fr h₀ env.locals h m₁ → News h₀ env.locals h news₁ → Q .next { s with heap := h, toks := tk }) :
    wpAny (model prog w) A (pyIter (.ref l)) (fun it s₂ => LoopAtV prog w A h₀ env x body Q E it s₂) E s := by
  have hol : s.heap.get? l = some (listOf vs.toArray nn) := (N _ hl).1
  have hls : s.heap.IsList l vs.toArray := ⟨_, hol, rfl, nn, rfl⟩
  have hne : l ≠ s.heap.objs.size := Nat.ne_of_lt (Heap.lt_size hol)
  refine wpAny_pyIter_list hls ?_
  have W := Walks.list (prog := prog) (w := w) hh s.heap.objs.size l hne vs.toArray
  have hlen : vs.toArray.size = vs.length := by simp
  rw [hlen] at W
  refine ⟨_, _, _, vs.length, _, _, m₀, news, (fun i m nx => nx.map (·.1) = news.map (·.1) ∧ (l, listOf vs.toArray nn) ∈ nx ∧ J i m nx), rfl, W, ?_, ?_, ?_, ⟨⟨_, Heap.get?_push_size _ rfl, rfl, rfl⟩, hls.at fun o e => Heap.get?_push_of_some _ e⟩, F.push _, (fun p hp => ⟨Heap.get?_push_of_some _ (N p hp).1, (N p hp).2⟩), ⟨rfl, hl, hj⟩, ?_, ?_⟩
  · intro hm
    rcases List.mem_cons.mp hm with e | hm
    · exact absurd F.ns.lt (e ▸ Nat.lt_irrefl _)
    · exact (N _ hl).2.1 ((List.mem_singleton.mp hm).symm)
  · intro b hb
    rw [List.mem_singleton.mp hb]
    exact next_is_new F
  · intro p hp hI
    exact absurd (Heap.lt_size (N p hp).1) ((List.mem_singleton.mp hI) ▸ Nat.lt_irrefl _)
  · rintro i v m₁ news₁ s₁ own ⟨hh', tk', rfl⟩ hin hP ⟨hadr, hl₁, hJ⟩ hoff hown hget hfp _ F₁ N₁
    have hsep : OwnOff (own.filter fun p => decide (p.1 = s.heap.objs.size)) (news.map (·.1)) := by
      intro p hp b hb e
      obtain ⟨q, hq, rfl⟩ := List.mem_map.mp hb
      have h1 : p.1 = s.heap.objs.size := by simpa using (List.mem_filter.mp hp).2
      exact absurd (Heap.lt_size (N q hq).1) (by rw [← e, h1]; exact Nat.lt_irrefl _)
    have hlt' : i < vs.length := hin
    have hv : vs[i]? = some v := by simpa using hP
    have N₂ : News h₀ env.locals hh' (news₁ ++ own.filter fun p => decide (p.1 = s.heap.objs.size)) := fun p hp => N₁ p ((List.mem_append.mp hp).elim (fun h => List.mem_append.mpr (.inr h)) fun h => List.mem_append.mpr (.inl ((List.mem_filter.mp h).1)))
    have hlo : hh'.get? l = some (listOf vs.toArray nn) := (N₁ _ (List.mem_append.mpr (.inr hl₁))).1
    refine wpAny_mono (turn i v m₁ news₁ hh' tk' _ hv hadr hsep hl₁ hJ F₁ N₂) (fun f s₂ p => ?_) fun _ _ e => e
    have fin : InvEndN h₀ env.locals (fun m' nx => (l, listOf vs.toArray nn) ∈ nx ∧ J (i + 1) m' nx) (own.filter fun p => decide (p.1 = s.heap.objs.size)) (news.map (·.1)) { s with heap := hh', toks := tk' } s₂ →
        LoopStepU h₀ env.locals [s.heap.objs.size] own (fun m nx => nx.map (·.1) = news.map (·.1) ∧ (l, listOf vs.toArray nn) ∈ nx ∧ J (i + 1) m nx) { s with heap := hh', toks := tk' } .next s₂ := by
      rintro ⟨h', tk, m', news', nx, e, F', N', hn, ho, ha, hm⟩
      refine ⟨rfl, h', tk, m', nx, e, F', fun p hp => ?_, fun p hp => ?_, ha, hm⟩
      · rcases List.mem_append.mp hp with h | h
        · by_cases hI : p.1 = s.heap.objs.size
          · exact N' p (ho p (List.mem_filter.mpr ⟨h, by simpa using hI⟩))
          · have h1 : p.1 = l := by
              rcases List.mem_cons.mp (hown p h) with h2 | h2
              · exact absurd h2 hI
              · exact List.mem_singleton.mp h2
            have h2 : hh'.get? p.1 = some p.2 := hget p h
            rw [h1, hlo] at h2
            have h3 : p = (l, listOf vs.toArray nn) := Prod.ext h1 (Option.some.inj h2).symm
            rw [h3]
            exact N' _ (hn _ hm.1)
        · exact N' p (hn p h)
      · have h1 : p.1 ∈ nx.map (·.1) := List.mem_map.mpr ⟨p, hp, rfl⟩
        rw [ha] at h1
        obtain ⟨q, hq, e⟩ := List.mem_map.mp h1
        intro hI
        exact absurd (Heap.lt_size (N q hq).1) (by rw [e, List.mem_singleton.mp hI]; exact Nat.lt_irrefl _)
    cases f with
    | ret v => exact .ret p
    | brk => exact .brk p
    | next => exact .next (fin p)
    | cont => exact .cont (fin p)
  · rintro h' tk m' news' F' N' _ ⟨_, hl', hJ⟩
    exact done m' news' h' tk hl' hJ F' N'
theorem my_last {value slice : PySem.Expr} {L D : Addr} {news : List (Addr × Obj)} {vs : List Value} {ns : List Int} {n : Nat} {u : Tok} {Q : Value → Shared → Prop} (N : News h₀ L s.heap news) (hm : (D, listOf vs.toArray n) ∈ news) (hi : IntsAre vs ns) (h1 : 0 < ns.length)
    (h : ∀ t, Q (.int (ns.getLastD 0) t) s)
    (hs : subscripted slice false (.ref D) (.int (-1) u) = operate [.ref D, .int (-1) u] (getItem (.ref D) (.int (-1) u)) := by with_unfolding_all rfl) :
    wpAny (model prog w) A (subscriptTail value slice (.ref D) (.int (-1) u)) Q E s := by
  have hl : s.heap.IsList D vs.toArray := PySem.IsL.isList (n := n) (N _ hm).1
  have hlen := hi.length
  have hsz : vs.toArray.size = ns.length := by simp [hlen]
  have hg : ns[ns.length - 1]? = some (ns.getLastD 0) := by
    rw [List.getLastD_eq_getLast?, List.getLast?_eq_getElem?]
    rw [List.getElem?_eq_getElem (by omega)]
    rfl
  obtain ⟨t, hx⟩ := hi.get (ns.length - 1) _ hg
  refine tail_any hl.typeIs slot_list_getitem.lookup (wpAny_getItem_list_neg hl (by decide) (by rw [hsz]; omega) (by decide) (by rw [hsz, show ((-1 : Int) + (ns.length : Int)).toNat = ns.length - 1 by omega]; simpa using hx) (h t)) hs
end
/- the gathering, a step -/
theorem gath_snoc (o : List Int) (k : Int) : gathI (o ++ [k]) = gathI o ++ [Builtin.bitOr ((gathI o).getLastD 0) (1 * 2 ^ k.toNat)] := by
  unfold gathI; rw [List.foldl_append]; rfl
theorem gath_len : ∀ o : List Int, (gathI o).length = o.length + 1 := by
  have : ∀ (o g : List Int), (o.foldl (fun g k => g ++ [Builtin.bitOr (g.getLastD 0) (1 * 2 ^ k.toNat)]) g).length = g.length + o.length := by
    intro o
    induction o with
    | nil => intro g; rfl
    | cons a r ih => intro g; rw [List.foldl_cons, ih]; simp; omega
  intro o; unfold gathI; rw [this]; simp; omega
theorem gath_take {e : List Int} {i : Nat} {n : Int} (h : e[i]? = some n) : gathI (e.take (i + 1)) = gathI (e.take i) ++ [Builtin.bitOr ((gathI (e.take i)).getLastD 0) (1 * 2 ^ n.toNat)] := by
  rw [take_one h, gath_snoc]
theorem ord_tab3 : ∀ o ∈ ordersN 3, ∀ k ∈ o, 0 ≤ k ∧ k < 4 := by decide +kernel
theorem ord_tab4 : ∀ o ∈ ordersN 4, ∀ k ∈ o, 0 ≤ k ∧ k < 4 := by decide +kernel
theorem ord_in {L M : Nat} (h : Lm L M) {o : List Int} (ho : o ∈ ordersN L) : ∀ k ∈ o, 0 ≤ k ∧ k < 4 := by
  rcases h with ⟨rfl, rfl⟩ | ⟨rfl, rfl⟩
  · exact ord_tab3 o ho
  · exact ord_tab4 o ho
theorem gath_in {L M : Nat} (h : Lm L M) {o : List Int} (ho : o ∈ ordersN L) : ∃ g, g ∈ TL L ∧ gathI o = g.map Int.ofNat := by
  have : gathI o ∈ (ordersN L).map gathI := List.mem_map.mpr ⟨o, ho, rfl⟩
  rw [gathL h] at this
  obtain ⟨g, hg, e⟩ := List.mem_map.mp this
  exact ⟨g, hg, e.symm⟩
theorem gath_bounds {L M : Nat} (h : Lm L M) {o : List Int} (ho : o ∈ ordersN L) : ∀ x ∈ gathI o, 0 ≤ x ∧ x < (M : Int) := by
  obtain ⟨g, hg, e⟩ := gath_in h ho
  intro x hx
  rw [e] at hx
  obtain ⟨y, hy, rfl⟩ := List.mem_map.mp hx
  have := (ltL h g hg).2 y hy
  show 0 ≤ (y : Int) ∧ (y : Int) < M
  omega
theorem gath_sorted {L M : Nat} (h : Lm L M) {fam : List Int} (hf : ∀ y ∈ fam, 1 ≤ y ∧ y < (M : Int)) {o : List Int} (ho : o ∈ ordersN L) : Sorted ((gathI o).map (holdI L fam)) := by
  obtain ⟨g, hg, e⟩ := gath_in h ho
  rw [e]
  exact sorted_hold h hf (ltL h g hg).2 (upL L g hg)
theorem gath_l5 {L M : Nat} (h : Lm L M) {o : List Int} (ho : o ∈ ordersN L) : (gathI o).length = L + 1 := by
  obtain ⟨g, hg, e⟩ := gath_in h ho
  rw [e, List.length_map]; exact (ltL h g hg).1
theorem top_in {L M : Nat} (h : Lm L M) {fam : List Int} (hne : fam ≠ []) (hf : ∀ y ∈ fam, 1 ≤ y ∧ y < (M : Int)) {g : List Nat} (hg : g ∈ TL L) : ∃ x ∈ g, anyUp (famN fam) x = true := by
  obtain ⟨y, hy⟩ := List.exists_mem_of_ne_nil fam hne
  have hyb := hf y hy
  have top : (M - 1) ∈ g ∧ upN y.toNat (M - 1) = true := by
    rcases h with ⟨rfl, rfl⟩ | ⟨rfl, rfl⟩
    · exact ⟨(by decide : ∀ g ∈ T3, 8 - 1 ∈ g) g hg, (by decide : ∀ y : Fin 8, upN y.val (8 - 1) = true) ⟨y.toNat, by omega⟩⟩
    · exact ⟨(by decide : ∀ g ∈ T4, 16 - 1 ∈ g) g hg, (by decide : ∀ y : Fin 16, upN y.val (16 - 1) = true) ⟨y.toNat, by omega⟩⟩
  exact ⟨M - 1, top.1, List.any_eq_true.mpr ⟨y.toNat, List.mem_map.mpr ⟨y, hy, rfl⟩, top.2⟩⟩
theorem cut_lt {L M : Nat} (h : Lm L M) {fam : List Int} (hne : fam ≠ []) (hf : ∀ y ∈ fam, 1 ≤ y ∧ y < (M : Int)) {o : List Int} (ho : o ∈ ordersN L) : 0 ≤ cL ((gathI o).map (holdI L fam)) 1 ∧ cL ((gathI o).map (holdI L fam)) 1 < ((gathI o).length : Int) := by
  obtain ⟨g, hg, e⟩ := gath_in h ho
  obtain ⟨x, hx, hu⟩ := top_in h hne hf hg
  rw [e, map_hold h hf (ltL h g hg).2]
  refine ⟨by unfold cL; omega, ?_⟩
  unfold cL
  rw [List.countP_map, List.length_map]
  have hlt : g.countP ((fun y : Int => decide (y < 1)) ∘ fun x => if anyUp (famN fam) x = true then (1 : Int) else 0) < g.length := by
    rcases Nat.lt_or_ge (g.countP ((fun y : Int => decide (y < 1)) ∘ fun x => if anyUp (famN fam) x = true then (1 : Int) else 0)) g.length with q | q
    · exact q
    · exfalso
      have q2 := Nat.le_antisymm List.countP_le_length q
      have := List.countP_eq_length.mp q2 x hx
      simp [hu] at this
  omega
/- the stops so far -/
theorem stops_step {L : Nat} {fam sts : List Int} {i : Nat} {e : List Int} (he : (ordersN L)[i]? = some e) (hp : sts.Perm (((ordersN L).take i).map (stopI L fam))) :
    (insR sts (stopI L fam e)).Perm (((ordersN L).take (i + 1)).map (stopI L fam)) := by
  refine (insR_perm sts _).trans ?_
  rw [List.take_add_one, he, List.map_append]
  refine ((hp.cons _).trans ?_)
  exact (List.perm_append_singleton _ _).symm
theorem ord_cnt {L M : Nat} (h : Lm L M) : (ordersN L).length ≤ 24 := by
  rcases h with ⟨rfl, rfl⟩ | ⟨rfl, rfl⟩ <;> decide
/- apartness -/
theorem split_led {h₀ h : Heap} {L lo lst f c ld : Addr} {OL S0 fo co od : Obj} {r oes : List (Addr × Obj)} (N : News h₀ L h ((lo, OL) :: (((lst, S0) :: (f, fo) :: (c, co) :: (ld, od) :: r) ++ oes))) :
    ∃ (lo' lst' f' ld' : Addr) (fo' od' : Obj) (R1 : List (Addr × Obj)), lo' = lo ∧ lst' = lst ∧ f' = f ∧ ld' = ld ∧ fo' = fo ∧ od' = od ∧ R1 = (c, co) :: r ∧ News h₀ L h ((ld', od') :: (lst', S0) :: (f', fo') :: (R1 ++ (lo', OL) :: oes)) := by
  refine ⟨lo, lst, f, ld, fo, od, _, rfl, rfl, rfl, rfl, rfl, rfl, rfl, fun p hp => N p ?_⟩
  simp only [List.mem_cons, List.mem_append, List.cons_append] at hp ⊢
  rcases hp with h | h | h | h | h | h | h <;> simp [h]
end

/- Ord2 -/
section
open PySem PySem.W PyProof.Rows PySem.Spec PySem.Calls PyProof.V
set_option maxRecDepth 100000
section
variable {h₀ h : Heap} {L lg ld lst f : Addr} {G od S fo : Obj} {R1 T1 RR own : List (Addr × Obj)}
theorem perm_blk (hRR : RR = R1 ++ T1) (N : News h₀ L h ((lg, G) :: (ld, od) :: (lst, S) :: (f, fo) :: (RR ++ own))) : News h₀ L h ((ld, od) :: (lg, G) :: (f, fo) :: (R1 ++ ((lst, S) :: (T1 ++ own)))) := by
  subst hRR
  intro p hp
  refine N p ?_
  simp only [List.mem_cons, List.mem_append] at hp ⊢
  rcases hp with h | h | h | h | h | h | h <;> simp [h]
theorem perm_ins (hRR : RR = R1 ++ T1) (N : News h₀ L h ((ld, od) :: (lg, G) :: (f, fo) :: (R1 ++ ((lst, S) :: (T1 ++ own))))) : News h₀ L h ((lst, S) :: (lg, G) :: (ld, od) :: (f, fo) :: (RR ++ own)) := by
  subst hRR
  intro p hp
  refine N p ?_
  simp only [List.mem_cons, List.mem_append] at hp ⊢
  rcases hp with h | h | h | h | (h | h) | h <;> simp [h]
theorem end_in {p : Addr × Obj} (hp : p ∈ (ld, od) :: (lst, S) :: (f, fo) :: RR) : p ∈ (lst, S) :: (lg, G) :: (ld, od) :: (f, fo) :: (RR ++ own) := by
  simp only [List.mem_cons, List.mem_append] at hp ⊢
  rcases hp with h | h | h | h <;> simp [h]
theorem end_own {p : Addr × Obj} (hp : p ∈ own) : p ∈ (lst, S) :: (lg, G) :: (ld, od) :: (f, fo) :: (RR ++ own) := by
  simp only [List.mem_cons, List.mem_append]
  simp [hp]
theorem head_led (N : News h₀ L h ((lg, G) :: R1)) : ∃ lg', lg' = lg ∧ News h₀ L h ((lg', G) :: R1) := ⟨lg, rfl, N⟩
theorem off_cons {a : Addr × Obj} {r : List (Addr × Obj)} {D : Addr} (h : a.1 ≠ D) (g : ∀ p ∈ r, p.1 ≠ D) : ∀ p ∈ a :: r, p.1 ≠ D := List.forall_mem_cons.mpr ⟨h, g⟩
theorem last_neg {g : List Int} (h : 0 < g.length) : g.getD (-1 + (g.length : Int)).toNat 0 = g.getLastD 0 := by
  rw [show (-1 + (g.length : Int)).toNat = g.length - 1 by omega, List.getLastD_eq_getLast?, List.getLast?_eq_getElem?, List.getD_eq_getElem?_getD]
theorem fix_led {news : List (Addr × Obj)} (N : News h₀ L h news) : ∃ nw, nw = news ∧ News h₀ L h nw := ⟨news, rfl, N⟩
theorem swap_led {a b : Addr × Obj} {r : List (Addr × Obj)} (N : News h₀ L h (a :: b :: r)) : News h₀ L h (b :: a :: r) := by
  intro p hp
  refine N p ?_
  simp only [List.mem_cons] at hp ⊢
  rcases hp with h | h | h <;> simp [h]
theorem last_l {p : Addr × Obj} {nx own : List (Addr × Obj)} (hp : p ∈ nx) : p ∈ nx ++ own := List.mem_append_left _ hp
theorem last_r {p : Addr × Obj} {nx own : List (Addr × Obj)} (hp : p ∈ own) : p ∈ nx ++ own := List.mem_append_right _ hp
theorem told_nil (L : Nat) (fam : List Int) : ToldOK L fam [] := fun k v h => by cases h
theorem perm_len {sts : List Int} {L M i : Nat} {fam : List Int} (hLM : Lm L M) (hp : sts.Perm (((ordersN L).take i).map (stopI L fam))) : sts.length ≤ 24 := by
  rw [hp.length_eq, List.length_map, List.length_take]
  have := ord_cnt hLM
  omega
end
theorem if_letters {c : Prop} [Decidable c] {M : Model} {A : Around} {env : Env} {k3 k4 : Nat} {p3 p4 : Pos} {Q : Value → Shared → Prop} {E : Value → Shared → Prop} {s : Shared} (h : ∀ n : Nat, (n = 3 ∨ n = 4) → Q (.int (n : Int) s.toks) { s with toks := s.toks + 1 }) :
    if c then wpAny M A (eval (.Constant (.int 3) k3 p3) env) Q E s else wpAny M A (eval (.Constant (.int 4) k4 p4) env) Q E s := by
  split
  · exact wpAny_Constant_int (h 3 (.inl rfl))
  · exact wpAny_Constant_int (h 4 (.inr rfl))
end

end Mine

namespace Mine
/- CD -/
section
open PySem PySem.W PyProof.Rows PySem.Spec
set_option maxRecDepth 100000
set_option maxHeartbeats 8000000

noncomputable def OrdJ (w : World) (L : Nat) (fam : List Int) (ld lst f : Addr) (fo : Obj) (R : List (Addr × Obj)) (i : Nat) (m : Str → Option Value) (nx : List (Addr × Obj)) : Prop :=
  ∃ od' kvs' vsS nS sts tl, nx = (ld, od') :: (lst, listOf vsS.toArray nS) :: (f, fo) :: R ∧ IntsAre vsS sts ∧ Sorted sts ∧ sts.Perm (((ordersN L).take i).map (stopI L fam)) ∧ Obj.IsDictOf (PySem.intKind PySem.Challenge.rw_sw0045_01.row.prog w) od' kvs' ∧ ToldOK L fam kvs' ∧ kvs'.length ≤ 10 * i ∧
    m (Str.ofString "letters") = some (.int (L : Int) tl) ∧ m (Str.ofString "holds") = some (.ref f) ∧ m (Str.ofString "stops") = some (.ref lst)
noncomputable def GatJ (L : Nat) (e : List Int) (lg lst f : Addr) (rest : List (Addr × Obj)) (i : Nat) (m : Str → Option Value) (nx : List (Addr × Obj)) : Prop :=
  ∃ gs ng tl, nx = (lg, listOf gs.toArray ng) :: rest ∧ IntsAre gs (gathI (e.take i)) ∧ m (Str.ofString "gathered") = some (.ref lg) ∧
    m (Str.ofString "letters") = some (.int (L : Int) tl) ∧ m (Str.ofString "holds") = some (.ref f) ∧ m (Str.ofString "stops") = some (.ref lst)
section

theorem law_holds : PySem.Challenge.rw_sw0045_01.Holds := hd (by
  w_top off
  k_go0
  all_goals try k_fold
  have kMark : KstMark := kstMark
  repeat' ((fail_if_success (with_reducible show wpAny _ _ (PySem.exec (PySem.Stmt.For _ _ _ _ _) _) _ _ _)); (fail_if_success (with_reducible show wpAny _ _ (PySem.exec (PySem.Stmt.While _ _ _ _) _) _ _ _)); (fail_if_success (with_reducible show wpAny _ _ (PySem.pyIter _) _ _ _)); first | ((with_reducible show wpAny _ _ (binaryOp Operator.Pow (Value.int 2 _) (Value.int _ _)) _ _ _); (with_reducible refine pow_letters hLM ?_); (try dsimp only)) | ((with_reducible refine if_letters ?_); intro nL hnL; (obtain ⟨nM, hLM, hL4, hM16, hFM⟩ := lm_of hnL); (try dsimp only)) | (k_here; (with_reducible show wpAny _ _ (PySem.call (Value.ref 130) _) _ _ _); k_dflt ((first | refine' cl_use (c_orders nL hnL) ?k1 ?k2 ?k3 ?k4 ?k5 ?kK ?kd ?ku ?_); (case k1 => k_asm); (case k2 => k_asm); (case k3 => k_asm); (case k4 => k_asm); (case k5 => k_asm); (case kK => first | exact rfl | assumption); (case kd => ktr_room); (case ku => ktr_units); k_whole); intro v9 nw9 h9 tk9 F9 N9 P9; (obtain ⟨lo, co, us, oes, e8, e9, hofO, happO, hMO⟩ := P9); subst e8; subst e9; (try dsimp only); (try k_fold)) | (k_here; (with_reducible show wpAny _ _ (PySem.call (Value.ref 151) [_, _, _]) _ _ _); k_dflt ((first | refine' cl_use (c_due hLM (by omega) (by omega) ?hm hiF hbF) ?k1 ?k2 ?k3 ?k4 ?k5 ?kK ?kd ?ku ?_); (case k1 => k_asm); (case k2 => k_asm); (case k3 => k_asm); (case k4 => k_asm); (case hm => (repeat (first | exact List.mem_cons_self .. | refine List.mem_cons_of_mem _ ?_))); (case k5 => k_asm); (case kK => first | exact rfl | assumption); (case kd => ktr_room); (case ku => ktr_units); k_whole); intro v9 nw9 h9 tk9 F9 N9 P9; (obtain ⟨e8, t8, e9⟩ := P9); subst e8; subst e9; (try dsimp only); (try k_fold)) | (k_here; (with_reducible show wpAny _ _ (PySem.call (Value.ref 55) [_, _]) _ _ _); k_dflt ((first | refine' cl_use (c_bl2 hI5 hs5 (by omega)) ?k1 ?k2 ?k3 ?k4 ?k5 ?kK ?kd ?ku ?_); (case k1 => k_asm); (case k2 => k_asm); (case k3 => k_asm); (case k4 => k_asm); (case k5 => k_asm); (case kK => first | exact rfl | assumption); (case kd => ktr_room); (case ku => ktr_units); k_whole); intro v9 nw9 h9 tk9 F9 N9 P9; (obtain ⟨e8, t8, e9⟩ := P9); subst e8; subst e9; (try dsimp only); (try k_fold)) | (k_here; (with_reducible show wpAny _ _ (PySem.call (Value.ref 46) [_, _]) _ _ _); k_dflt ((first | refine' cl_use (c_br2 hI5 hs5 (by omega)) ?k1 ?k2 ?k3 ?k4 ?k5 ?kK ?kd ?ku ?_); (case k1 => k_asm); (case k2 => k_asm); (case k3 => k_asm); (case k4 => k_asm); (case k5 => k_asm); (case kK => first | exact rfl | assumption); (case kd => ktr_room); (case ku => ktr_units); k_whole); intro v9 nw9 h9 tk9 F9 N9 P9; (obtain ⟨e8, t8, e9⟩ := P9); subst e8; subst e9; (try dsimp only); (try k_fold)) | (k_here; (with_reducible show wpAny _ _ (PySem.call (Value.ref 37) [_, _]) _ _ _); k_dflt ((first | refine' cl_use (c_ins hI5 hs5 (by omega) (hinsO _ _)) ?k1 ?k2 ?k3 ?k4 ?k5 ?kK ?kd ?ku ?_); (case k1 => k_asm); (case k2 => k_asm); (case k3 => k_asm); (case k4 => k_asm); (case k5 => k_asm); (case kK => first | exact rfl | assumption); (case kd => ktr_room); (case ku => ktr_units); k_whole); intro v9 nw9 h9 tk9 F9 N9 P9; (obtain ⟨e9, vs9, n9, e8, hI9⟩ := P9); subst e8; subst e9; (try dsimp only); (try k_fold)) | (k_here; (with_reducible show wpAny _ _ (PySem.call (Value.ref 125) _) _ _ _); k_dflt ((first | refine' cl_use (c_sizes hLM) ?k1 ?k2 ?k3 ?k4 ?k5 ?kK ?kd ?ku ?_); (case k1 => k_asm); (case k2 => k_asm); (case k3 => k_asm); (case k4 => k_asm); (case k5 => k_asm); (case kK => first | exact rfl | assumption); (case kd => ktr_room); (case ku => ktr_units); k_whole); intro v9 nw9 h9 tk9 F9 N9 P9; (obtain ⟨ls, zs, ns, e8, e9, hofS, hS⟩ := P9); subst e8; subst e9; (have hofSn := allLt_of hofS; (simp only [AllLt, and_true] at hofSn)); (try dsimp only); (try k_fold)) | (k_here; (with_reducible show wpAny _ _ (PySem.call (Value.ref 118) _) _ _ _); k_dflt ((first | refine' cl_use (c_words hLM) ?k1 ?k2 ?k3 ?k4 ?k5 ?kK ?kd ?ku ?_); (case k1 => k_asm); (case k2 => k_asm); (case k3 => k_asm); (case k4 => k_asm); (case k5 => k_asm); (case kK => first | exact rfl | assumption); (case kd => ktr_room); (case ku => ktr_units); k_whole); intro v9 nw9 h9 tk9 F9 N9 P9; (obtain ⟨lw, ws, nw, e8, e9, hofW, hW⟩ := P9); subst e8; subst e9; (have hofWn := allLt_of hofW; (simp only [AllLt, and_true] at hofWn)); (try dsimp only); (try k_fold)) | (k_here; (with_reducible show wpAny _ _ (PySem.call (Value.ref 111) _) _ _ _); k_dflt ((first | refine' c_fam (M := nM) hFM ?hi ?hl _ _ _ _ _ _ _ _ _ _ _ _ _ _ _ _ _ ?hb ?k1 ?k2 ?k3 ?k4 ?k5 ?kK ?kd ?ku ?_); (case hi => assumption); (case hl => omega); (case hb => assumption); (case k1 => k_asm); (case k2 => k_asm); (case k3 => k_asm); (case k4 => k_asm); (case k5 => k_asm); (case kK => first | exact rfl | assumption); (case kd => ktr_room); (case ku => ktr_units); k_whole); intro v9 nw9 h9 tk9 F9 N9 P9; (obtain ⟨lf, vf, fam, nf, e8, e9, hofF, hiF, hflF, hneF, hbF⟩ := P9); subst e8; subst e9; (have hofFn := allLt_of hofF; (simp only [AllLt, and_true] at hofFn)); (try dsimp only); (try k_fold)) | (k_unfold; (try dsimp only)) | (k_end; wrow_close) | walk1 | (dsimp only; walk1) | (leave1; walk_say "STEP leave1"; try dsimp only))
  · k_here
    (rename Fr _ _ _ _ => lF')
    (with_unfolding_all refine' For_invVF lF' ?k1 ?k2 ?_)
    (case k1 => exact rfl)
    (case k2 => exact rfl)
    k_whole
    repeat' ((fail_if_success (with_reducible show wpAny _ _ (PySem.exec (PySem.Stmt.For _ _ _ _ _) _) _ _ _)); (fail_if_success (with_reducible show wpAny _ _ (PySem.exec (PySem.Stmt.While _ _ _ _) _) _ _ _)); (fail_if_success (with_reducible show wpAny _ _ (PySem.pyIter _) _ _ _)); first | ((with_reducible show wpAny _ _ (binaryOp Operator.Pow (Value.int 2 _) (Value.int _ _)) _ _ _); (with_reducible refine pow_letters hLM ?_); (try dsimp only)) | ((with_reducible refine if_letters ?_); intro nL hnL; (obtain ⟨nM, hLM, hL4, hM16, hFM⟩ := lm_of hnL); (try dsimp only)) | (k_here; (with_reducible show wpAny _ _ (PySem.call (Value.ref 130) _) _ _ _); k_dflt ((first | refine' cl_use (c_orders nL hnL) ?k1 ?k2 ?k3 ?k4 ?k5 ?kK ?kd ?ku ?_); (case k1 => k_asm); (case k2 => k_asm); (case k3 => k_asm); (case k4 => k_asm); (case k5 => k_asm); (case kK => first | exact rfl | assumption); (case kd => ktr_room); (case ku => ktr_units); k_whole); intro v9 nw9 h9 tk9 F9 N9 P9; (obtain ⟨lo, co, us, oes, e8, e9, hofO, happO, hMO⟩ := P9); subst e8; subst e9; (try dsimp only); (try k_fold)) | (k_here; (with_reducible show wpAny _ _ (PySem.call (Value.ref 151) [_, _, _]) _ _ _); k_dflt ((first | refine' cl_use (c_due hLM (by omega) (by omega) ?hm hiF hbF) ?k1 ?k2 ?k3 ?k4 ?k5 ?kK ?kd ?ku ?_); (case k1 => k_asm); (case k2 => k_asm); (case k3 => k_asm); (case k4 => k_asm); (case hm => (repeat (first | exact List.mem_cons_self .. | refine List.mem_cons_of_mem _ ?_))); (case k5 => k_asm); (case kK => first | exact rfl | assumption); (case kd => ktr_room); (case ku => ktr_units); k_whole); intro v9 nw9 h9 tk9 F9 N9 P9; (obtain ⟨e8, t8, e9⟩ := P9); subst e8; subst e9; (try dsimp only); (try k_fold)) | (k_here; (with_reducible show wpAny _ _ (PySem.call (Value.ref 55) [_, _]) _ _ _); k_dflt ((first | refine' cl_use (c_bl2 hI5 hs5 (by omega)) ?k1 ?k2 ?k3 ?k4 ?k5 ?kK ?kd ?ku ?_); (case k1 => k_asm); (case k2 => k_asm); (case k3 => k_asm); (case k4 => k_asm); (case k5 => k_asm); (case kK => first | exact rfl | assumption); (case kd => ktr_room); (case ku => ktr_units); k_whole); intro v9 nw9 h9 tk9 F9 N9 P9; (obtain ⟨e8, t8, e9⟩ := P9); subst e8; subst e9; (try dsimp only); (try k_fold)) | (k_here; (with_reducible show wpAny _ _ (PySem.call (Value.ref 46) [_, _]) _ _ _); k_dflt ((first | refine' cl_use (c_br2 hI5 hs5 (by omega)) ?k1 ?k2 ?k3 ?k4 ?k5 ?kK ?kd ?ku ?_); (case k1 => k_asm); (case k2 => k_asm); (case k3 => k_asm); (case k4 => k_asm); (case k5 => k_asm); (case kK => first | exact rfl | assumption); (case kd => ktr_room); (case ku => ktr_units); k_whole); intro v9 nw9 h9 tk9 F9 N9 P9; (obtain ⟨e8, t8, e9⟩ := P9); subst e8; subst e9; (try dsimp only); (try k_fold)) | (k_here; (with_reducible show wpAny _ _ (PySem.call (Value.ref 37) [_, _]) _ _ _); k_dflt ((first | refine' cl_use (c_ins hI5 hs5 (by omega) (hinsO _ _)) ?k1 ?k2 ?k3 ?k4 ?k5 ?kK ?kd ?ku ?_); (case k1 => k_asm); (case k2 => k_asm); (case k3 => k_asm); (case k4 => k_asm); (case k5 => k_asm); (case kK => first | exact rfl | assumption); (case kd => ktr_room); (case ku => ktr_units); k_whole); intro v9 nw9 h9 tk9 F9 N9 P9; (obtain ⟨e9, vs9, n9, e8, hI9⟩ := P9); subst e8; subst e9; (try dsimp only); (try k_fold)) | (k_here; (with_reducible show wpAny _ _ (PySem.call (Value.ref 125) _) _ _ _); k_dflt ((first | refine' cl_use (c_sizes hLM) ?k1 ?k2 ?k3 ?k4 ?k5 ?kK ?kd ?ku ?_); (case k1 => k_asm); (case k2 => k_asm); (case k3 => k_asm); (case k4 => k_asm); (case k5 => k_asm); (case kK => first | exact rfl | assumption); (case kd => ktr_room); (case ku => ktr_units); k_whole); intro v9 nw9 h9 tk9 F9 N9 P9; (obtain ⟨ls, zs, ns, e8, e9, hofS, hS⟩ := P9); subst e8; subst e9; (have hofSn := allLt_of hofS; (simp only [AllLt, and_true] at hofSn)); (try dsimp only); (try k_fold)) | (k_here; (with_reducible show wpAny _ _ (PySem.call (Value.ref 118) _) _ _ _); k_dflt ((first | refine' cl_use (c_words hLM) ?k1 ?k2 ?k3 ?k4 ?k5 ?kK ?kd ?ku ?_); (case k1 => k_asm); (case k2 => k_asm); (case k3 => k_asm); (case k4 => k_asm); (case k5 => k_asm); (case kK => first | exact rfl | assumption); (case kd => ktr_room); (case ku => ktr_units); k_whole); intro v9 nw9 h9 tk9 F9 N9 P9; (obtain ⟨lw, ws, nw, e8, e9, hofW, hW⟩ := P9); subst e8; subst e9; (have hofWn := allLt_of hofW; (simp only [AllLt, and_true] at hofWn)); (try dsimp only); (try k_fold)) | (k_here; (with_reducible show wpAny _ _ (PySem.call (Value.ref 111) _) _ _ _); k_dflt ((first | refine' c_fam (M := nM) hFM ?hi ?hl _ _ _ _ _ _ _ _ _ _ _ _ _ _ _ _ _ ?hb ?k1 ?k2 ?k3 ?k4 ?k5 ?kK ?kd ?ku ?_); (case hi => assumption); (case hl => omega); (case hb => assumption); (case k1 => k_asm); (case k2 => k_asm); (case k3 => k_asm); (case k4 => k_asm); (case k5 => k_asm); (case kK => first | exact rfl | assumption); (case kd => ktr_room); (case ku => ktr_units); k_whole); intro v9 nw9 h9 tk9 F9 N9 P9; (obtain ⟨lf, vf, fam, nf, e8, e9, hofF, hiF, hflF, hneF, hbF⟩ := P9); subst e8; subst e9; (have hofFn := allLt_of hofF; (simp only [AllLt, and_true] at hofFn)); (try dsimp only); (try k_fold)) | (k_unfold; (try dsimp only)) | (k_end; wrow_close) | walk1 | (dsimp only; walk1) | (leave1; walk_say "STEP leave1"; try dsimp only))
    (rename World => w)
    (rename News _ _ _ _ => N1)
    (rename Fr _ _ _ _ => F1)
    obtain ⟨lo1, lst1, f1, ld1, fo1, od1, R1, q1, q2, q3, q4, q5, q6, hR1, N2⟩ := split_led N1
    subst q1 q2 q3 q4 q6
    clear lF' N1 hnL hFM
    clear hofFn hofWn hofSn
    have apf : f1 ≠ ld1 := by k_ne
    have apR : ∀ p ∈ R1, p.1 ≠ ld1 := by
      rw [hR1]
      repeat (first | exact List.forall_mem_nil _ | refine List.forall_mem_cons.mpr ⟨by k_ne, ?_⟩)
    have hF1 : ∀ (mean : ExcName → Option Value) (mg mb : Str → Option Value) (rr : List (Addr × Obj)) (lg : Addr) (G : Obj), (∀ p ∈ rr, p.1 ≠ ld1) → lg ≠ ld1 → ∀ od kvs x t, Obj.IsDictOf (PySem.intKind PySem.Challenge.rw_sw0045_01.row.prog w) od kvs → ToldOK nL fam kvs → kvs.length ≤ 900 → 0 ≤ x → x < (nM : Int) →
        Cl w mean mg mb f1 4 32 ((ld1, od) :: (lg, G) :: (f1, fo1) :: (R1 ++ rr)) [.int x t] (fun v news' => HoldsPost w nL fam ld1 ((lg, G) :: (f1, fo1) :: (R1 ++ rr)) (kvs.length + 1) v (holdI nL fam x) news') := by
      clear F1 N2
      subst hR1 q5
      intro mean mg mb rr lg G hrr hlg od kvs x t hd hT hl hx0 hx1
      unfold Cl
      k_fill
      intro dp un gd cn cs a' ccd cl outer A₀ base h₀ Lc m s Q E B F X N T hk hdp hu hret
      obtain ⟨loo, T⟩ := T
      simp only [List.cons_append, List.nil_append] at N
      k_dflt (refine wpAny_call ?_; (refine' kla_code ?k1 ?k2 ?k3 ?k4 ?k5 ?kA ?kF ?kK ?k6 ?k7 ?k8 ?k9 ?kB ?_ ?c2 ?c3 ?c4 ?c5; (case kA => exact rfl); (case kF => exact rfl); (case kK => first | exact rfl | assumption); (case k1 => k_asm); (case k2 => k_asm); (case k3 => k_asm); (case k4 => k_asm); (case k5 => k_asm); (case k6 => k_mem); (case k7 => exact codeRec_news (by k_asm) (by k_mem) (by assumption) (by assumption)); (case k8 => ktr_room); (case k9 => exact rfl); (case c5 => decide); (case kB => exact locs rfl); (case c2 => exact rfl); (case c3 => exact rfl); (case c4 => exact rfl); k_whole; intro g' L' h' FG' F' N' B' X' T'; (try dsimp only); (try k_lift B'); (try k_fold)))
      repeat' ((fail_if_success (with_reducible show wpAny _ _ (PySem.exec (PySem.Stmt.For _ _ _ _ _) _) _ _ _)); (fail_if_success (with_reducible show wpAny _ _ (PySem.exec (PySem.Stmt.While _ _ _ _) _) _ _ _)); (fail_if_success (with_reducible show wpAny _ _ (PySem.pyIter _) _ _ _)); first | ((with_reducible show wpAny _ _ (binaryOp Operator.Pow (Value.int 2 _) (Value.int _ _)) _ _ _); (with_reducible refine pow_letters hLM ?_); (try dsimp only)) | ((with_reducible refine if_letters ?_); intro nL hnL; (obtain ⟨nM, hLM, hL4, hM16, hFM⟩ := lm_of hnL); (try dsimp only)) | (k_here; (with_reducible show wpAny _ _ (PySem.call (Value.ref 130) _) _ _ _); k_dflt ((first | refine' cl_use (c_orders nL hnL) ?k1 ?k2 ?k3 ?k4 ?k5 ?kK ?kd ?ku ?_); (case k1 => k_asm); (case k2 => k_asm); (case k3 => k_asm); (case k4 => k_asm); (case k5 => k_asm); (case kK => first | exact rfl | assumption); (case kd => ktr_room); (case ku => ktr_units); k_whole); intro v9 nw9 h9 tk9 F9 N9 P9; (obtain ⟨lo, co, us, oes, e8, e9, hofO, happO, hMO⟩ := P9); subst e8; subst e9; (try dsimp only); (try k_fold)) | (k_here; (with_reducible show wpAny _ _ (PySem.call (Value.ref 151) [_, _, _]) _ _ _); k_dflt ((first | refine' cl_use (c_due hLM (by omega) (by omega) ?hm hiF hbF) ?k1 ?k2 ?k3 ?k4 ?k5 ?kK ?kd ?ku ?_); (case k1 => k_asm); (case k2 => k_asm); (case k3 => k_asm); (case k4 => k_asm); (case hm => (repeat (first | exact List.mem_cons_self .. | refine List.mem_cons_of_mem _ ?_))); (case k5 => k_asm); (case kK => first | exact rfl | assumption); (case kd => ktr_room); (case ku => ktr_units); k_whole); intro v9 nw9 h9 tk9 F9 N9 P9; (obtain ⟨e8, t8, e9⟩ := P9); subst e8; subst e9; (try dsimp only); (try k_fold)) | (k_here; (with_reducible show wpAny _ _ (PySem.call (Value.ref 55) [_, _]) _ _ _); k_dflt ((first | refine' cl_use (c_bl2 hI5 hs5 (by omega)) ?k1 ?k2 ?k3 ?k4 ?k5 ?kK ?kd ?ku ?_); (case k1 => k_asm); (case k2 => k_asm); (case k3 => k_asm); (case k4 => k_asm); (case k5 => k_asm); (case kK => first | exact rfl | assumption); (case kd => ktr_room); (case ku => ktr_units); k_whole); intro v9 nw9 h9 tk9 F9 N9 P9; (obtain ⟨e8, t8, e9⟩ := P9); subst e8; subst e9; (try dsimp only); (try k_fold)) | (k_here; (with_reducible show wpAny _ _ (PySem.call (Value.ref 46) [_, _]) _ _ _); k_dflt ((first | refine' cl_use (c_br2 hI5 hs5 (by omega)) ?k1 ?k2 ?k3 ?k4 ?k5 ?kK ?kd ?ku ?_); (case k1 => k_asm); (case k2 => k_asm); (case k3 => k_asm); (case k4 => k_asm); (case k5 => k_asm); (case kK => first | exact rfl | assumption); (case kd => ktr_room); (case ku => ktr_units); k_whole); intro v9 nw9 h9 tk9 F9 N9 P9; (obtain ⟨e8, t8, e9⟩ := P9); subst e8; subst e9; (try dsimp only); (try k_fold)) | (k_here; (with_reducible show wpAny _ _ (PySem.call (Value.ref 37) [_, _]) _ _ _); k_dflt ((first | refine' cl_use (c_ins hI5 hs5 (by omega) (hinsO _ _)) ?k1 ?k2 ?k3 ?k4 ?k5 ?kK ?kd ?ku ?_); (case k1 => k_asm); (case k2 => k_asm); (case k3 => k_asm); (case k4 => k_asm); (case k5 => k_asm); (case kK => first | exact rfl | assumption); (case kd => ktr_room); (case ku => ktr_units); k_whole); intro v9 nw9 h9 tk9 F9 N9 P9; (obtain ⟨e9, vs9, n9, e8, hI9⟩ := P9); subst e8; subst e9; (try dsimp only); (try k_fold)) | (k_here; (with_reducible show wpAny _ _ (PySem.call (Value.ref 125) _) _ _ _); k_dflt ((first | refine' cl_use (c_sizes hLM) ?k1 ?k2 ?k3 ?k4 ?k5 ?kK ?kd ?ku ?_); (case k1 => k_asm); (case k2 => k_asm); (case k3 => k_asm); (case k4 => k_asm); (case k5 => k_asm); (case kK => first | exact rfl | assumption); (case kd => ktr_room); (case ku => ktr_units); k_whole); intro v9 nw9 h9 tk9 F9 N9 P9; (obtain ⟨ls, zs, ns, e8, e9, hofS, hS⟩ := P9); subst e8; subst e9; (have hofSn := allLt_of hofS; (simp only [AllLt, and_true] at hofSn)); (try dsimp only); (try k_fold)) | (k_here; (with_reducible show wpAny _ _ (PySem.call (Value.ref 118) _) _ _ _); k_dflt ((first | refine' cl_use (c_words hLM) ?k1 ?k2 ?k3 ?k4 ?k5 ?kK ?kd ?ku ?_); (case k1 => k_asm); (case k2 => k_asm); (case k3 => k_asm); (case k4 => k_asm); (case k5 => k_asm); (case kK => first | exact rfl | assumption); (case kd => ktr_room); (case ku => ktr_units); k_whole); intro v9 nw9 h9 tk9 F9 N9 P9; (obtain ⟨lw, ws, nw, e8, e9, hofW, hW⟩ := P9); subst e8; subst e9; (have hofWn := allLt_of hofW; (simp only [AllLt, and_true] at hofWn)); (try dsimp only); (try k_fold)) | (k_here; (with_reducible show wpAny _ _ (PySem.call (Value.ref 111) _) _ _ _); k_dflt ((first | refine' c_fam (M := nM) hFM ?hi ?hl _ _ _ _ _ _ _ _ _ _ _ _ _ _ _ _ _ ?hb ?k1 ?k2 ?k3 ?k4 ?k5 ?kK ?kd ?ku ?_); (case hi => assumption); (case hl => omega); (case hb => assumption); (case k1 => k_asm); (case k2 => k_asm); (case k3 => k_asm); (case k4 => k_asm); (case k5 => k_asm); (case kK => first | exact rfl | assumption); (case kd => ktr_room); (case ku => ktr_units); k_whole); intro v9 nw9 h9 tk9 F9 N9 P9; (obtain ⟨lf, vf, fam, nf, e8, e9, hofF, hiF, hflF, hneF, hbF⟩ := P9); subst e8; subst e9; (have hofFn := allLt_of hofF; (simp only [AllLt, and_true] at hofFn)); (try dsimp only); (try k_fold)) | (k_unfold; (try dsimp only)) | (k_end; wrow_close) | walk1 | (dsimp only; walk1) | (leave1; walk_say "STEP leave1"; try dsimp only))
      k_here
      k_dflt (refine' cl_use (c_holds (M := nM) ?hLM ?ha ?hb ?mF ?mW ?mS ?hoff ?hmod ?gF ?gfam ?gfl ?gW ?gS ?gd ?gT ?gl) ?k1 ?k2 ?k3 ?k4 ?k5 ?kK ?kd ?ku ?_; (case k1 => k_asm); (case k2 => k_asm); (case k3 => k_asm); (case k4 => k_asm); (case k5 => k_asm); (case kK => first | exact rfl | assumption); (case kd => ktr_room); (case ku => ktr_units); (case hLM => exact hLM); (case ha => exact hx0); (case hb => exact hx1); (case gF => exact hiF); (case gfam => exact hbF); (case gfl => exact hflF); (case gW => exact hW); (case gS => exact hS); (case gd => exact hd); (case gT => exact hT); (case gl => omega); (case hmod => assumption); (case mF => (repeat (first | exact List.mem_cons_self .. | refine List.mem_cons_of_mem _ ?_))); (case mW => (repeat (first | exact List.mem_cons_self .. | refine List.mem_cons_of_mem _ ?_))); (case mS => (repeat (first | exact List.mem_cons_self .. | refine List.mem_cons_of_mem _ ?_))); (case hoff => exact off_cons hlg (off_cons apf (off_app apR hrr))); k_whole)
      intro v9 nw9 h9 tk9 F9 N9 P9
      (try dsimp only); (try k_fold)
      repeat' ((fail_if_success (with_reducible show wpAny _ _ (PySem.exec (PySem.Stmt.For _ _ _ _ _) _) _ _ _)); (fail_if_success (with_reducible show wpAny _ _ (PySem.exec (PySem.Stmt.While _ _ _ _) _) _ _ _)); (fail_if_success (with_reducible show wpAny _ _ (PySem.pyIter _) _ _ _)); first | ((with_reducible show wpAny _ _ (binaryOp Operator.Pow (Value.int 2 _) (Value.int _ _)) _ _ _); (with_reducible refine pow_letters hLM ?_); (try dsimp only)) | ((with_reducible refine if_letters ?_); intro nL hnL; (obtain ⟨nM, hLM, hL4, hM16, hFM⟩ := lm_of hnL); (try dsimp only)) | (k_here; (with_reducible show wpAny _ _ (PySem.call (Value.ref 130) _) _ _ _); k_dflt ((first | refine' cl_use (c_orders nL hnL) ?k1 ?k2 ?k3 ?k4 ?k5 ?kK ?kd ?ku ?_); (case k1 => k_asm); (case k2 => k_asm); (case k3 => k_asm); (case k4 => k_asm); (case k5 => k_asm); (case kK => first | exact rfl | assumption); (case kd => ktr_room); (case ku => ktr_units); k_whole); intro v9 nw9 h9 tk9 F9 N9 P9; (obtain ⟨lo, co, us, oes, e8, e9, hofO, happO, hMO⟩ := P9); subst e8; subst e9; (try dsimp only); (try k_fold)) | (k_here; (with_reducible show wpAny _ _ (PySem.call (Value.ref 151) [_, _, _]) _ _ _); k_dflt ((first | refine' cl_use (c_due hLM (by omega) (by omega) ?hm hiF hbF) ?k1 ?k2 ?k3 ?k4 ?k5 ?kK ?kd ?ku ?_); (case k1 => k_asm); (case k2 => k_asm); (case k3 => k_asm); (case k4 => k_asm); (case hm => (repeat (first | exact List.mem_cons_self .. | refine List.mem_cons_of_mem _ ?_))); (case k5 => k_asm); (case kK => first | exact rfl | assumption); (case kd => ktr_room); (case ku => ktr_units); k_whole); intro v9 nw9 h9 tk9 F9 N9 P9; (obtain ⟨e8, t8, e9⟩ := P9); subst e8; subst e9; (try dsimp only); (try k_fold)) | (k_here; (with_reducible show wpAny _ _ (PySem.call (Value.ref 55) [_, _]) _ _ _); k_dflt ((first | refine' cl_use (c_bl2 hI5 hs5 (by omega)) ?k1 ?k2 ?k3 ?k4 ?k5 ?kK ?kd ?ku ?_); (case k1 => k_asm); (case k2 => k_asm); (case k3 => k_asm); (case k4 => k_asm); (case k5 => k_asm); (case kK => first | exact rfl | assumption); (case kd => ktr_room); (case ku => ktr_units); k_whole); intro v9 nw9 h9 tk9 F9 N9 P9; (obtain ⟨e8, t8, e9⟩ := P9); subst e8; subst e9; (try dsimp only); (try k_fold)) | (k_here; (with_reducible show wpAny _ _ (PySem.call (Value.ref 46) [_, _]) _ _ _); k_dflt ((first | refine' cl_use (c_br2 hI5 hs5 (by omega)) ?k1 ?k2 ?k3 ?k4 ?k5 ?kK ?kd ?ku ?_); (case k1 => k_asm); (case k2 => k_asm); (case k3 => k_asm); (case k4 => k_asm); (case k5 => k_asm); (case kK => first | exact rfl | assumption); (case kd => ktr_room); (case ku => ktr_units); k_whole); intro v9 nw9 h9 tk9 F9 N9 P9; (obtain ⟨e8, t8, e9⟩ := P9); subst e8; subst e9; (try dsimp only); (try k_fold)) | (k_here; (with_reducible show wpAny _ _ (PySem.call (Value.ref 37) [_, _]) _ _ _); k_dflt ((first | refine' cl_use (c_ins hI5 hs5 (by omega) (hinsO _ _)) ?k1 ?k2 ?k3 ?k4 ?k5 ?kK ?kd ?ku ?_); (case k1 => k_asm); (case k2 => k_asm); (case k3 => k_asm); (case k4 => k_asm); (case k5 => k_asm); (case kK => first | exact rfl | assumption); (case kd => ktr_room); (case ku => ktr_units); k_whole); intro v9 nw9 h9 tk9 F9 N9 P9; (obtain ⟨e9, vs9, n9, e8, hI9⟩ := P9); subst e8; subst e9; (try dsimp only); (try k_fold)) | (k_here; (with_reducible show wpAny _ _ (PySem.call (Value.ref 125) _) _ _ _); k_dflt ((first | refine' cl_use (c_sizes hLM) ?k1 ?k2 ?k3 ?k4 ?k5 ?kK ?kd ?ku ?_); (case k1 => k_asm); (case k2 => k_asm); (case k3 => k_asm); (case k4 => k_asm); (case k5 => k_asm); (case kK => first | exact rfl | assumption); (case kd => ktr_room); (case ku => ktr_units); k_whole); intro v9 nw9 h9 tk9 F9 N9 P9; (obtain ⟨ls, zs, ns, e8, e9, hofS, hS⟩ := P9); subst e8; subst e9; (have hofSn := allLt_of hofS; (simp only [AllLt, and_true] at hofSn)); (try dsimp only); (try k_fold)) | (k_here; (with_reducible show wpAny _ _ (PySem.call (Value.ref 118) _) _ _ _); k_dflt ((first | refine' cl_use (c_words hLM) ?k1 ?k2 ?k3 ?k4 ?k5 ?kK ?kd ?ku ?_); (case k1 => k_asm); (case k2 => k_asm); (case k3 => k_asm); (case k4 => k_asm); (case k5 => k_asm); (case kK => first | exact rfl | assumption); (case kd => ktr_room); (case ku => ktr_units); k_whole); intro v9 nw9 h9 tk9 F9 N9 P9; (obtain ⟨lw, ws, nw, e8, e9, hofW, hW⟩ := P9); subst e8; subst e9; (have hofWn := allLt_of hofW; (simp only [AllLt, and_true] at hofWn)); (try dsimp only); (try k_fold)) | (k_here; (with_reducible show wpAny _ _ (PySem.call (Value.ref 111) _) _ _ _); k_dflt ((first | refine' c_fam (M := nM) hFM ?hi ?hl _ _ _ _ _ _ _ _ _ _ _ _ _ _ _ _ _ ?hb ?k1 ?k2 ?k3 ?k4 ?k5 ?kK ?kd ?ku ?_); (case hi => assumption); (case hl => omega); (case hb => assumption); (case k1 => k_asm); (case k2 => k_asm); (case k3 => k_asm); (case k4 => k_asm); (case k5 => k_asm); (case kK => first | exact rfl | assumption); (case kd => ktr_room); (case ku => ktr_units); k_whole); intro v9 nw9 h9 tk9 F9 N9 P9; (obtain ⟨lf, vf, fam, nf, e8, e9, hofF, hiF, hflF, hneF, hbF⟩ := P9); subst e8; subst e9; (have hofFn := allLt_of hofF; (simp only [AllLt, and_true] at hofFn)); (try dsimp only); (try k_fold)) | (k_unfold; (try dsimp only)) | (k_end; wrow_close) | walk1 | (dsimp only; walk1) | (leave1; walk_say "STEP leave1"; try dsimp only))
      exact ret_end hret _ (by assumption) (by assumption) P9
    obtain ⟨foc, fod, fd, fsl, hfo⟩ : ∃ foc fod fd fsl, fo1 = (⟨foc, fod, .func fd, fsl⟩ : Obj) := ⟨_, _, _, _, q5⟩
    have apS : ∀ p ∈ R1, p.1 ≠ lst1 := by
      rw [hR1]
      repeat (first | exact List.forall_mem_nil _ | refine List.forall_mem_cons.mpr ⟨by k_ne, ?_⟩)
    have apfS : f1 ≠ lst1 := by k_ne
    have aplS : ld1 ≠ lst1 := by k_ne
    have apTL : ∀ p ∈ (lo1, W.listOf us.toArray co) :: oes, p.1 ≠ ld1 := off_cons (fun e => hofO _ (List.mem_append_left _ (.tail _ (.tail _ (.tail _ (.head _))))) e.symm) (fun p hp => happO p hp (ld1, od1) (.tail _ (.tail _ (.tail _ (.head _)))))
    have apTS : ∀ p ∈ (lo1, W.listOf us.toArray co) :: oes, p.1 ≠ lst1 := off_cons (fun e => hofO _ (List.mem_append_left _ (.head _)) e.symm) (fun p hp => happO p hp (lst1, W.listOf #[] 0) (.head _))
    obtain ⟨RR, hRR⟩ : ∃ RR, RR = R1 ++ (lo1, W.listOf us.toArray co) :: oes := ⟨_, rfl⟩
    rw [← hRR] at N2
    have hRL : ∀ p ∈ RR, p.1 ≠ ld1 := by rw [hRR]; exact off_app apR apTL
    have hRS : ∀ p ∈ RR, p.1 ≠ lst1 := by rw [hRR]; exact off_app apS apTS
    have hOL : (lo1, W.listOf us.toArray co) ∈ RR := by rw [hRR]; exact List.mem_append_right _ (.head _)
    have hoes : ∀ p ∈ oes, p ∈ RR := fun p hp => by rw [hRR]; exact List.mem_append_right _ (.tail _ hp)
    subst hfo
    refine iter_refs (OrdJ w nL fam ld1 lst1 f1 (⟨foc, fod, .func fd, fsl⟩ : Obj) RR) rfl (.tail _ (.tail _ (.tail _ hOL))) F1 N2 ?start ?turn ?done
    case start => exact ⟨od1, [], [], 0, [], _, rfl, .nil, List.Pairwise.nil, List.Perm.refl _, by assumption, told_nil nL fam, Nat.zero_le _, rfl, rfl, rfl⟩
    case done =>
      rintro m1 nx h5 tk5 hmem ⟨od5, kvs5, vsS, nS, sts, tl, rfl, hI5, hs5, hp5, hd5, hT5, hl5, e1, e2, e3⟩ F5 N5
      have hS24 := perm_len hLM hp5
      rw [hMO.1, List.take_length] at hp5
      have F6 := fr_known [(Str.ofString "letters", .int (nL : Int) tl), (Str.ofString "stops", .ref lst1)] F5 (fm1 e1 (fm1 e3 fm0))
      clear F5
      dsimp only [kstB] at F6
      rw [hRR, hR1] at N5
      simp only [List.cons_append, List.nil_append] at N5
      replace N5 := swap_led N5
      dsimp only at F6 N5 ⊢
      repeat' ((fail_if_success (with_reducible show wpAny _ _ (PySem.exec (PySem.Stmt.For _ _ _ _ _) _) _ _ _)); (fail_if_success (with_reducible show wpAny _ _ (PySem.exec (PySem.Stmt.While _ _ _ _) _) _ _ _)); (fail_if_success (with_reducible show wpAny _ _ (PySem.pyIter _) _ _ _)); first | ((with_reducible show wpAny _ _ (binaryOp Operator.Pow (Value.int 2 _) (Value.int _ _)) _ _ _); (with_reducible refine pow_letters hLM ?_); (try dsimp only)) | ((with_reducible refine if_letters ?_); intro nL hnL; (obtain ⟨nM, hLM, hL4, hM16, hFM⟩ := lm_of hnL); (try dsimp only)) | (k_here; (with_reducible show wpAny _ _ (PySem.call (Value.ref 130) _) _ _ _); k_dflt ((first | refine' cl_use (c_orders nL hnL) ?k1 ?k2 ?k3 ?k4 ?k5 ?kK ?kd ?ku ?_); (case k1 => k_asm); (case k2 => k_asm); (case k3 => k_asm); (case k4 => k_asm); (case k5 => k_asm); (case kK => first | exact rfl | assumption); (case kd => ktr_room); (case ku => ktr_units); k_whole); intro v9 nw9 h9 tk9 F9 N9 P9; (obtain ⟨lo, co, us, oes, e8, e9, hofO, happO, hMO⟩ := P9); subst e8; subst e9; (try dsimp only); (try k_fold)) | (k_here; (with_reducible show wpAny _ _ (PySem.call (Value.ref 151) [_, _, _]) _ _ _); k_dflt ((first | refine' cl_use (c_due hLM (by omega) (by omega) ?hm hiF hbF) ?k1 ?k2 ?k3 ?k4 ?k5 ?kK ?kd ?ku ?_); (case k1 => k_asm); (case k2 => k_asm); (case k3 => k_asm); (case k4 => k_asm); (case hm => (repeat (first | exact List.mem_cons_self .. | refine List.mem_cons_of_mem _ ?_))); (case k5 => k_asm); (case kK => first | exact rfl | assumption); (case kd => ktr_room); (case ku => ktr_units); k_whole); intro v9 nw9 h9 tk9 F9 N9 P9; (obtain ⟨e8, t8, e9⟩ := P9); subst e8; subst e9; (try dsimp only); (try k_fold)) | (k_here; (with_reducible show wpAny _ _ (PySem.call (Value.ref 55) [_, _]) _ _ _); k_dflt ((first | refine' cl_use (c_bl2 hI5 hs5 (by omega)) ?k1 ?k2 ?k3 ?k4 ?k5 ?kK ?kd ?ku ?_); (case k1 => k_asm); (case k2 => k_asm); (case k3 => k_asm); (case k4 => k_asm); (case k5 => k_asm); (case kK => first | exact rfl | assumption); (case kd => ktr_room); (case ku => ktr_units); k_whole); intro v9 nw9 h9 tk9 F9 N9 P9; (obtain ⟨e8, t8, e9⟩ := P9); subst e8; subst e9; (try dsimp only); (try k_fold)) | (k_here; (with_reducible show wpAny _ _ (PySem.call (Value.ref 46) [_, _]) _ _ _); k_dflt ((first | refine' cl_use (c_br2 hI5 hs5 (by omega)) ?k1 ?k2 ?k3 ?k4 ?k5 ?kK ?kd ?ku ?_); (case k1 => k_asm); (case k2 => k_asm); (case k3 => k_asm); (case k4 => k_asm); (case k5 => k_asm); (case kK => first | exact rfl | assumption); (case kd => ktr_room); (case ku => ktr_units); k_whole); intro v9 nw9 h9 tk9 F9 N9 P9; (obtain ⟨e8, t8, e9⟩ := P9); subst e8; subst e9; (try dsimp only); (try k_fold)) | (k_here; (with_reducible show wpAny _ _ (PySem.call (Value.ref 37) [_, _]) _ _ _); k_dflt ((first | refine' cl_use (c_ins hI5 hs5 (by omega) (hinsO _ _)) ?k1 ?k2 ?k3 ?k4 ?k5 ?kK ?kd ?ku ?_); (case k1 => k_asm); (case k2 => k_asm); (case k3 => k_asm); (case k4 => k_asm); (case k5 => k_asm); (case kK => first | exact rfl | assumption); (case kd => ktr_room); (case ku => ktr_units); k_whole); intro v9 nw9 h9 tk9 F9 N9 P9; (obtain ⟨e9, vs9, n9, e8, hI9⟩ := P9); subst e8; subst e9; (try dsimp only); (try k_fold)) | (k_here; (with_reducible show wpAny _ _ (PySem.call (Value.ref 125) _) _ _ _); k_dflt ((first | refine' cl_use (c_sizes hLM) ?k1 ?k2 ?k3 ?k4 ?k5 ?kK ?kd ?ku ?_); (case k1 => k_asm); (case k2 => k_asm); (case k3 => k_asm); (case k4 => k_asm); (case k5 => k_asm); (case kK => first | exact rfl | assumption); (case kd => ktr_room); (case ku => ktr_units); k_whole); intro v9 nw9 h9 tk9 F9 N9 P9; (obtain ⟨ls, zs, ns, e8, e9, hofS, hS⟩ := P9); subst e8; subst e9; (have hofSn := allLt_of hofS; (simp only [AllLt, and_true] at hofSn)); (try dsimp only); (try k_fold)) | (k_here; (with_reducible show wpAny _ _ (PySem.call (Value.ref 118) _) _ _ _); k_dflt ((first | refine' cl_use (c_words hLM) ?k1 ?k2 ?k3 ?k4 ?k5 ?kK ?kd ?ku ?_); (case k1 => k_asm); (case k2 => k_asm); (case k3 => k_asm); (case k4 => k_asm); (case k5 => k_asm); (case kK => first | exact rfl | assumption); (case kd => ktr_room); (case ku => ktr_units); k_whole); intro v9 nw9 h9 tk9 F9 N9 P9; (obtain ⟨lw, ws, nw, e8, e9, hofW, hW⟩ := P9); subst e8; subst e9; (have hofWn := allLt_of hofW; (simp only [AllLt, and_true] at hofWn)); (try dsimp only); (try k_fold)) | (k_here; (with_reducible show wpAny _ _ (PySem.call (Value.ref 111) _) _ _ _); k_dflt ((first | refine' c_fam (M := nM) hFM ?hi ?hl _ _ _ _ _ _ _ _ _ _ _ _ _ _ _ _ _ ?hb ?k1 ?k2 ?k3 ?k4 ?k5 ?kK ?kd ?ku ?_); (case hi => assumption); (case hl => omega); (case hb => assumption); (case k1 => k_asm); (case k2 => k_asm); (case k3 => k_asm); (case k4 => k_asm); (case k5 => k_asm); (case kK => first | exact rfl | assumption); (case kd => ktr_room); (case ku => ktr_units); k_whole); intro v9 nw9 h9 tk9 F9 N9 P9; (obtain ⟨lf, vf, fam, nf, e8, e9, hofF, hiF, hflF, hneF, hbF⟩ := P9); subst e8; subst e9; (have hofFn := allLt_of hofF; (simp only [AllLt, and_true] at hofFn)); (try dsimp only); (try k_fold)) | (k_unfold; (try dsimp only)) | (k_end; wrow_close) | walk1 | (dsimp only; walk1) | (leave1; walk_say "STEP leave1"; try dsimp only))
      k_here
      (rename Fr _ _ _ _ => lF')
      (with_unfolding_all refine' For_invVF lF' ?k1 ?k2 ?_)
      (case k1 => exact rfl)
      (case k2 => exact rfl)
      k_whole
      repeat' ((fail_if_success (with_reducible show wpAny _ _ (PySem.exec (PySem.Stmt.For _ _ _ _ _) _) _ _ _)); (fail_if_success (with_reducible show wpAny _ _ (PySem.exec (PySem.Stmt.While _ _ _ _) _) _ _ _)); (fail_if_success (with_reducible show wpAny _ _ (PySem.pyIter _) _ _ _)); first | ((with_reducible show wpAny _ _ (binaryOp Operator.Pow (Value.int 2 _) (Value.int _ _)) _ _ _); (with_reducible refine pow_letters hLM ?_); (try dsimp only)) | ((with_reducible refine if_letters ?_); intro nL hnL; (obtain ⟨nM, hLM, hL4, hM16, hFM⟩ := lm_of hnL); (try dsimp only)) | (k_here; (with_reducible show wpAny _ _ (PySem.call (Value.ref 130) _) _ _ _); k_dflt ((first | refine' cl_use (c_orders nL hnL) ?k1 ?k2 ?k3 ?k4 ?k5 ?kK ?kd ?ku ?_); (case k1 => k_asm); (case k2 => k_asm); (case k3 => k_asm); (case k4 => k_asm); (case k5 => k_asm); (case kK => first | exact rfl | assumption); (case kd => ktr_room); (case ku => ktr_units); k_whole); intro v9 nw9 h9 tk9 F9 N9 P9; (obtain ⟨lo, co, us, oes, e8, e9, hofO, happO, hMO⟩ := P9); subst e8; subst e9; (try dsimp only); (try k_fold)) | (k_here; (with_reducible show wpAny _ _ (PySem.call (Value.ref 151) [_, _, _]) _ _ _); k_dflt ((first | refine' cl_use (c_due hLM (by omega) (by omega) ?hm hiF hbF) ?k1 ?k2 ?k3 ?k4 ?k5 ?kK ?kd ?ku ?_); (case k1 => k_asm); (case k2 => k_asm); (case k3 => k_asm); (case k4 => k_asm); (case hm => (repeat (first | exact List.mem_cons_self .. | refine List.mem_cons_of_mem _ ?_))); (case k5 => k_asm); (case kK => first | exact rfl | assumption); (case kd => ktr_room); (case ku => ktr_units); k_whole); intro v9 nw9 h9 tk9 F9 N9 P9; (obtain ⟨e8, t8, e9⟩ := P9); subst e8; subst e9; (try dsimp only); (try k_fold)) | (k_here; (with_reducible show wpAny _ _ (PySem.call (Value.ref 55) [_, _]) _ _ _); k_dflt ((first | refine' cl_use (c_bl2 hI5 hs5 (by omega)) ?k1 ?k2 ?k3 ?k4 ?k5 ?kK ?kd ?ku ?_); (case k1 => k_asm); (case k2 => k_asm); (case k3 => k_asm); (case k4 => k_asm); (case k5 => k_asm); (case kK => first | exact rfl | assumption); (case kd => ktr_room); (case ku => ktr_units); k_whole); intro v9 nw9 h9 tk9 F9 N9 P9; (obtain ⟨e8, t8, e9⟩ := P9); subst e8; subst e9; (try dsimp only); (try k_fold)) | (k_here; (with_reducible show wpAny _ _ (PySem.call (Value.ref 46) [_, _]) _ _ _); k_dflt ((first | refine' cl_use (c_br2 hI5 hs5 (by omega)) ?k1 ?k2 ?k3 ?k4 ?k5 ?kK ?kd ?ku ?_); (case k1 => k_asm); (case k2 => k_asm); (case k3 => k_asm); (case k4 => k_asm); (case k5 => k_asm); (case kK => first | exact rfl | assumption); (case kd => ktr_room); (case ku => ktr_units); k_whole); intro v9 nw9 h9 tk9 F9 N9 P9; (obtain ⟨e8, t8, e9⟩ := P9); subst e8; subst e9; (try dsimp only); (try k_fold)) | (k_here; (with_reducible show wpAny _ _ (PySem.call (Value.ref 37) [_, _]) _ _ _); k_dflt ((first | refine' cl_use (c_ins hI5 hs5 (by omega) (hinsO _ _)) ?k1 ?k2 ?k3 ?k4 ?k5 ?kK ?kd ?ku ?_); (case k1 => k_asm); (case k2 => k_asm); (case k3 => k_asm); (case k4 => k_asm); (case k5 => k_asm); (case kK => first | exact rfl | assumption); (case kd => ktr_room); (case ku => ktr_units); k_whole); intro v9 nw9 h9 tk9 F9 N9 P9; (obtain ⟨e9, vs9, n9, e8, hI9⟩ := P9); subst e8; subst e9; (try dsimp only); (try k_fold)) | (k_here; (with_reducible show wpAny _ _ (PySem.call (Value.ref 125) _) _ _ _); k_dflt ((first | refine' cl_use (c_sizes hLM) ?k1 ?k2 ?k3 ?k4 ?k5 ?kK ?kd ?ku ?_); (case k1 => k_asm); (case k2 => k_asm); (case k3 => k_asm); (case k4 => k_asm); (case k5 => k_asm); (case kK => first | exact rfl | assumption); (case kd => ktr_room); (case ku => ktr_units); k_whole); intro v9 nw9 h9 tk9 F9 N9 P9; (obtain ⟨ls, zs, ns, e8, e9, hofS, hS⟩ := P9); subst e8; subst e9; (have hofSn := allLt_of hofS; (simp only [AllLt, and_true] at hofSn)); (try dsimp only); (try k_fold)) | (k_here; (with_reducible show wpAny _ _ (PySem.call (Value.ref 118) _) _ _ _); k_dflt ((first | refine' cl_use (c_words hLM) ?k1 ?k2 ?k3 ?k4 ?k5 ?kK ?kd ?ku ?_); (case k1 => k_asm); (case k2 => k_asm); (case k3 => k_asm); (case k4 => k_asm); (case k5 => k_asm); (case kK => first | exact rfl | assumption); (case kd => ktr_room); (case ku => ktr_units); k_whole); intro v9 nw9 h9 tk9 F9 N9 P9; (obtain ⟨lw, ws, nw, e8, e9, hofW, hW⟩ := P9); subst e8; subst e9; (have hofWn := allLt_of hofW; (simp only [AllLt, and_true] at hofWn)); (try dsimp only); (try k_fold)) | (k_here; (with_reducible show wpAny _ _ (PySem.call (Value.ref 111) _) _ _ _); k_dflt ((first | refine' c_fam (M := nM) hFM ?hi ?hl _ _ _ _ _ _ _ _ _ _ _ _ _ _ _ _ _ ?hb ?k1 ?k2 ?k3 ?k4 ?k5 ?kK ?kd ?ku ?_); (case hi => assumption); (case hl => omega); (case hb => assumption); (case k1 => k_asm); (case k2 => k_asm); (case k3 => k_asm); (case k4 => k_asm); (case k5 => k_asm); (case kK => first | exact rfl | assumption); (case kd => ktr_room); (case ku => ktr_units); k_whole); intro v9 nw9 h9 tk9 F9 N9 P9; (obtain ⟨lf, vf, fam, nf, e8, e9, hofF, hiF, hflF, hneF, hbF⟩ := P9); subst e8; subst e9; (have hofFn := allLt_of hofF; (simp only [AllLt, and_true] at hofFn)); (try dsimp only); (try k_fold)) | (k_unfold; (try dsimp only)) | (k_end; wrow_close) | walk1 | (dsimp only; walk1) | (leave1; walk_say "STEP leave1"; try dsimp only))
      (rename IsRange _ _ _ _ _ _ _ _ => rg)
      (rename News _ _ _ _ => N6)
      (rename Fr _ _ _ _ => F7)
      obtain ⟨NW, hNW, N7⟩ := fix_led N6
      refine for_range (n := nM) (fun i m nx => nx = NW ∧ (∃ tl, m (Str.ofString "letters") = some (.int (nL : Int) tl)) ∧ m (Str.ofString "stops") = some (.ref lst1)) rfl rg rfl (by omega) F7 N7 ⟨rfl, ⟨_, rfl⟩, rfl⟩ ?tu2 ?do2
      case tu2 =>
        rintro i ti m2 nx h6 tk6 own hi8 hadr hoff ⟨rfl, ⟨tl2, g1⟩, g2⟩ F8 N8
        have F9 := fr_under [(Str.ofString "letters", .int (nL : Int) tl2), (Str.ofString "stops", .ref lst1)] F8 (fm1 g1 (fm1 g2 fm0))
        clear F8
        dsimp only [kstB] at F9
        rw [hNW] at N8
        simp only [List.cons_append] at N8
        dsimp only at F9 N8 ⊢
        repeat' ((fail_if_success (with_reducible show GoodW _ _ _ _ _ _ _)); (fail_if_success (with_reducible show wpAny _ _ (PySem.exec (PySem.Stmt.For _ _ _ _ _) _) _ _ _)); (fail_if_success (with_reducible show wpAny _ _ (PySem.exec (PySem.Stmt.While _ _ _ _) _) _ _ _)); (fail_if_success (with_reducible show wpAny _ _ (PySem.pyIter _) _ _ _)); first | ((with_reducible show wpAny _ _ (binaryOp Operator.Pow (Value.int 2 _) (Value.int _ _)) _ _ _); (with_reducible refine pow_letters hLM ?_); (try dsimp only)) | ((with_reducible refine if_letters ?_); intro nL hnL; (obtain ⟨nM, hLM, hL4, hM16, hFM⟩ := lm_of hnL); (try dsimp only)) | (k_here; (with_reducible show wpAny _ _ (PySem.call (Value.ref 130) _) _ _ _); k_dflt ((first | refine' cl_use (c_orders nL hnL) ?k1 ?k2 ?k3 ?k4 ?k5 ?kK ?kd ?ku ?_); (case k1 => k_asm); (case k2 => k_asm); (case k3 => k_asm); (case k4 => k_asm); (case k5 => k_asm); (case kK => first | exact rfl | assumption); (case kd => ktr_room); (case ku => ktr_units); k_whole); intro v9 nw9 h9 tk9 F9 N9 P9; (obtain ⟨lo, co, us, oes, e8, e9, hofO, happO, hMO⟩ := P9); subst e8; subst e9; (try dsimp only); (try k_fold)) | (k_here; (with_reducible show wpAny _ _ (PySem.call (Value.ref 151) [_, _, _]) _ _ _); k_dflt ((first | refine' cl_use (c_due hLM (by omega) (by omega) ?hm hiF hbF) ?k1 ?k2 ?k3 ?k4 ?k5 ?kK ?kd ?ku ?_); (case k1 => k_asm); (case k2 => k_asm); (case k3 => k_asm); (case k4 => k_asm); (case hm => (repeat (first | exact List.mem_cons_self .. | refine List.mem_cons_of_mem _ ?_))); (case k5 => k_asm); (case kK => first | exact rfl | assumption); (case kd => ktr_room); (case ku => ktr_units); k_whole); intro v9 nw9 h9 tk9 F9 N9 P9; (obtain ⟨e8, t8, e9⟩ := P9); subst e8; subst e9; (try dsimp only); (try k_fold)) | (k_here; (with_reducible show wpAny _ _ (PySem.call (Value.ref 55) [_, _]) _ _ _); k_dflt ((first | refine' cl_use (c_bl2 hI5 hs5 (by omega)) ?k1 ?k2 ?k3 ?k4 ?k5 ?kK ?kd ?ku ?_); (case k1 => k_asm); (case k2 => k_asm); (case k3 => k_asm); (case k4 => k_asm); (case k5 => k_asm); (case kK => first | exact rfl | assumption); (case kd => ktr_room); (case ku => ktr_units); k_whole); intro v9 nw9 h9 tk9 F9 N9 P9; (obtain ⟨e8, t8, e9⟩ := P9); subst e8; subst e9; (try dsimp only); (try k_fold)) | (k_here; (with_reducible show wpAny _ _ (PySem.call (Value.ref 46) [_, _]) _ _ _); k_dflt ((first | refine' cl_use (c_br2 hI5 hs5 (by omega)) ?k1 ?k2 ?k3 ?k4 ?k5 ?kK ?kd ?ku ?_); (case k1 => k_asm); (case k2 => k_asm); (case k3 => k_asm); (case k4 => k_asm); (case k5 => k_asm); (case kK => first | exact rfl | assumption); (case kd => ktr_room); (case ku => ktr_units); k_whole); intro v9 nw9 h9 tk9 F9 N9 P9; (obtain ⟨e8, t8, e9⟩ := P9); subst e8; subst e9; (try dsimp only); (try k_fold)) | (k_here; (with_reducible show wpAny _ _ (PySem.call (Value.ref 37) [_, _]) _ _ _); k_dflt ((first | refine' cl_use (c_ins hI5 hs5 (by omega) (hinsO _ _)) ?k1 ?k2 ?k3 ?k4 ?k5 ?kK ?kd ?ku ?_); (case k1 => k_asm); (case k2 => k_asm); (case k3 => k_asm); (case k4 => k_asm); (case k5 => k_asm); (case kK => first | exact rfl | assumption); (case kd => ktr_room); (case ku => ktr_units); k_whole); intro v9 nw9 h9 tk9 F9 N9 P9; (obtain ⟨e9, vs9, n9, e8, hI9⟩ := P9); subst e8; subst e9; (try dsimp only); (try k_fold)) | (k_here; (with_reducible show wpAny _ _ (PySem.call (Value.ref 125) _) _ _ _); k_dflt ((first | refine' cl_use (c_sizes hLM) ?k1 ?k2 ?k3 ?k4 ?k5 ?kK ?kd ?ku ?_); (case k1 => k_asm); (case k2 => k_asm); (case k3 => k_asm); (case k4 => k_asm); (case k5 => k_asm); (case kK => first | exact rfl | assumption); (case kd => ktr_room); (case ku => ktr_units); k_whole); intro v9 nw9 h9 tk9 F9 N9 P9; (obtain ⟨ls, zs, ns, e8, e9, hofS, hS⟩ := P9); subst e8; subst e9; (have hofSn := allLt_of hofS; (simp only [AllLt, and_true] at hofSn)); (try dsimp only); (try k_fold)) | (k_here; (with_reducible show wpAny _ _ (PySem.call (Value.ref 118) _) _ _ _); k_dflt ((first | refine' cl_use (c_words hLM) ?k1 ?k2 ?k3 ?k4 ?k5 ?kK ?kd ?ku ?_); (case k1 => k_asm); (case k2 => k_asm); (case k3 => k_asm); (case k4 => k_asm); (case k5 => k_asm); (case kK => first | exact rfl | assumption); (case kd => ktr_room); (case ku => ktr_units); k_whole); intro v9 nw9 h9 tk9 F9 N9 P9; (obtain ⟨lw, ws, nw, e8, e9, hofW, hW⟩ := P9); subst e8; subst e9; (have hofWn := allLt_of hofW; (simp only [AllLt, and_true] at hofWn)); (try dsimp only); (try k_fold)) | (k_here; (with_reducible show wpAny _ _ (PySem.call (Value.ref 111) _) _ _ _); k_dflt ((first | refine' c_fam (M := nM) hFM ?hi ?hl _ _ _ _ _ _ _ _ _ _ _ _ _ _ _ _ _ ?hb ?k1 ?k2 ?k3 ?k4 ?k5 ?kK ?kd ?ku ?_); (case hi => assumption); (case hl => omega); (case hb => assumption); (case k1 => k_asm); (case k2 => k_asm); (case k3 => k_asm); (case k4 => k_asm); (case k5 => k_asm); (case kK => first | exact rfl | assumption); (case kd => ktr_room); (case ku => ktr_units); k_whole); intro v9 nw9 h9 tk9 F9 N9 P9; (obtain ⟨lf, vf, fam, nf, e8, e9, hofF, hiF, hflF, hneF, hbF⟩ := P9); subst e8; subst e9; (have hofFn := allLt_of hofF; (simp only [AllLt, and_true] at hofFn)); (try dsimp only); (try k_fold)) | (k_unfold; (try dsimp only)) | (k_end; wrow_close) | walk1 | (dsimp only; walk1) | (leave1; walk_say "STEP leave1"; try dsimp only))
        · exact absurd (law_due hLM hflF hneF hbF hp5 (by omega) hi8) (by assumption)
        · refine inv_end nx (by assumption) (by assumption) (fun p hp => last_l (hNW ▸ hp)) (fun p hp => last_r hp) ?hmap ?hJ
          case hJ => exact ⟨rfl, ⟨_, rfl⟩, rfl⟩
          case hmap => rfl
        · have hi0 : i = 0 := by omega
          subst hi0
          exact absurd (law_zero hLM hneF hbF hp5) (by assumption)
        · refine inv_end nx (by assumption) (by assumption) (fun p hp => last_l (hNW ▸ hp)) (fun p hp => last_r hp) ?hmap ?hJ
          case hJ => exact ⟨rfl, ⟨_, rfl⟩, rfl⟩
          case hmap => rfl
      case do2 =>
        rintro m2 nx h6 tk6 ⟨rfl, ⟨tl2, g1⟩, g2⟩ hadr F8 N8
        rw [hNW] at N8
        dsimp only at F8 N8 ⊢
        clear hF1 hLM hRL hRS hOL hoes apTL apTS aplS apfS apS apR apf hS24 hs5 hI5 hp5 hT5 hd5 hl5 hMO hofO happO hofF hofW hofS hiF hbF hneF hflF hW hS q5 hRR hR1 e1 e2 e3 g1 g2 hmem hadr N7
        repeat' ((fail_if_success (with_reducible show GoodW _ _ _ _ _ _ _)); (fail_if_success (with_reducible show wpAny _ _ (PySem.exec (PySem.Stmt.For _ _ _ _ _) _) _ _ _)); (fail_if_success (with_reducible show wpAny _ _ (PySem.exec (PySem.Stmt.While _ _ _ _) _) _ _ _)); (fail_if_success (with_reducible show wpAny _ _ (PySem.pyIter _) _ _ _)); first | ((with_reducible show wpAny _ _ (binaryOp Operator.Pow (Value.int 2 _) (Value.int _ _)) _ _ _); (with_reducible refine pow_letters hLM ?_); (try dsimp only)) | ((with_reducible refine if_letters ?_); intro nL hnL; (obtain ⟨nM, hLM, hL4, hM16, hFM⟩ := lm_of hnL); (try dsimp only)) | (k_here; (with_reducible show wpAny _ _ (PySem.call (Value.ref 130) _) _ _ _); k_dflt ((first | refine' cl_use (c_orders nL hnL) ?k1 ?k2 ?k3 ?k4 ?k5 ?kK ?kd ?ku ?_); (case k1 => k_asm); (case k2 => k_asm); (case k3 => k_asm); (case k4 => k_asm); (case k5 => k_asm); (case kK => first | exact rfl | assumption); (case kd => ktr_room); (case ku => ktr_units); k_whole); intro v9 nw9 h9 tk9 F9 N9 P9; (obtain ⟨lo, co, us, oes, e8, e9, hofO, happO, hMO⟩ := P9); subst e8; subst e9; (try dsimp only); (try k_fold)) | (k_here; (with_reducible show wpAny _ _ (PySem.call (Value.ref 151) [_, _, _]) _ _ _); k_dflt ((first | refine' cl_use (c_due hLM (by omega) (by omega) ?hm hiF hbF) ?k1 ?k2 ?k3 ?k4 ?k5 ?kK ?kd ?ku ?_); (case k1 => k_asm); (case k2 => k_asm); (case k3 => k_asm); (case k4 => k_asm); (case hm => (repeat (first | exact List.mem_cons_self .. | refine List.mem_cons_of_mem _ ?_))); (case k5 => k_asm); (case kK => first | exact rfl | assumption); (case kd => ktr_room); (case ku => ktr_units); k_whole); intro v9 nw9 h9 tk9 F9 N9 P9; (obtain ⟨e8, t8, e9⟩ := P9); subst e8; subst e9; (try dsimp only); (try k_fold)) | (k_here; (with_reducible show wpAny _ _ (PySem.call (Value.ref 55) [_, _]) _ _ _); k_dflt ((first | refine' cl_use (c_bl2 hI5 hs5 (by omega)) ?k1 ?k2 ?k3 ?k4 ?k5 ?kK ?kd ?ku ?_); (case k1 => k_asm); (case k2 => k_asm); (case k3 => k_asm); (case k4 => k_asm); (case k5 => k_asm); (case kK => first | exact rfl | assumption); (case kd => ktr_room); (case ku => ktr_units); k_whole); intro v9 nw9 h9 tk9 F9 N9 P9; (obtain ⟨e8, t8, e9⟩ := P9); subst e8; subst e9; (try dsimp only); (try k_fold)) | (k_here; (with_reducible show wpAny _ _ (PySem.call (Value.ref 46) [_, _]) _ _ _); k_dflt ((first | refine' cl_use (c_br2 hI5 hs5 (by omega)) ?k1 ?k2 ?k3 ?k4 ?k5 ?kK ?kd ?ku ?_); (case k1 => k_asm); (case k2 => k_asm); (case k3 => k_asm); (case k4 => k_asm); (case k5 => k_asm); (case kK => first | exact rfl | assumption); (case kd => ktr_room); (case ku => ktr_units); k_whole); intro v9 nw9 h9 tk9 F9 N9 P9; (obtain ⟨e8, t8, e9⟩ := P9); subst e8; subst e9; (try dsimp only); (try k_fold)) | (k_here; (with_reducible show wpAny _ _ (PySem.call (Value.ref 37) [_, _]) _ _ _); k_dflt ((first | refine' cl_use (c_ins hI5 hs5 (by omega) (hinsO _ _)) ?k1 ?k2 ?k3 ?k4 ?k5 ?kK ?kd ?ku ?_); (case k1 => k_asm); (case k2 => k_asm); (case k3 => k_asm); (case k4 => k_asm); (case k5 => k_asm); (case kK => first | exact rfl | assumption); (case kd => ktr_room); (case ku => ktr_units); k_whole); intro v9 nw9 h9 tk9 F9 N9 P9; (obtain ⟨e9, vs9, n9, e8, hI9⟩ := P9); subst e8; subst e9; (try dsimp only); (try k_fold)) | (k_here; (with_reducible show wpAny _ _ (PySem.call (Value.ref 125) _) _ _ _); k_dflt ((first | refine' cl_use (c_sizes hLM) ?k1 ?k2 ?k3 ?k4 ?k5 ?kK ?kd ?ku ?_); (case k1 => k_asm); (case k2 => k_asm); (case k3 => k_asm); (case k4 => k_asm); (case k5 => k_asm); (case kK => first | exact rfl | assumption); (case kd => ktr_room); (case ku => ktr_units); k_whole); intro v9 nw9 h9 tk9 F9 N9 P9; (obtain ⟨ls, zs, ns, e8, e9, hofS, hS⟩ := P9); subst e8; subst e9; (have hofSn := allLt_of hofS; (simp only [AllLt, and_true] at hofSn)); (try dsimp only); (try k_fold)) | (k_here; (with_reducible show wpAny _ _ (PySem.call (Value.ref 118) _) _ _ _); k_dflt ((first | refine' cl_use (c_words hLM) ?k1 ?k2 ?k3 ?k4 ?k5 ?kK ?kd ?ku ?_); (case k1 => k_asm); (case k2 => k_asm); (case k3 => k_asm); (case k4 => k_asm); (case k5 => k_asm); (case kK => first | exact rfl | assumption); (case kd => ktr_room); (case ku => ktr_units); k_whole); intro v9 nw9 h9 tk9 F9 N9 P9; (obtain ⟨lw, ws, nw, e8, e9, hofW, hW⟩ := P9); subst e8; subst e9; (have hofWn := allLt_of hofW; (simp only [AllLt, and_true] at hofWn)); (try dsimp only); (try k_fold)) | (k_here; (with_reducible show wpAny _ _ (PySem.call (Value.ref 111) _) _ _ _); k_dflt ((first | refine' c_fam (M := nM) hFM ?hi ?hl _ _ _ _ _ _ _ _ _ _ _ _ _ _ _ _ _ ?hb ?k1 ?k2 ?k3 ?k4 ?k5 ?kK ?kd ?ku ?_); (case hi => assumption); (case hl => omega); (case hb => assumption); (case k1 => k_asm); (case k2 => k_asm); (case k3 => k_asm); (case k4 => k_asm); (case k5 => k_asm); (case kK => first | exact rfl | assumption); (case kd => ktr_room); (case ku => ktr_units); k_whole); intro v9 nw9 h9 tk9 F9 N9 P9; (obtain ⟨lf, vf, fam, nf, e8, e9, hofF, hiF, hflF, hneF, hbF⟩ := P9); subst e8; subst e9; (have hofFn := allLt_of hofF; (simp only [AllLt, and_true] at hofFn)); (try dsimp only); (try k_fold)) | (k_unfold; (try dsimp only)) | (k_end; wrow_close) | walk1 | (dsimp only; walk1) | (leave1; walk_say "STEP leave1"; try dsimp only))
        w_end
        refine goodW_bool (by assumption) (by assumption) (raisesW_false ?_) ?_
        · wrow_none_raised
        · exact postW_of (by wrow_shape) (w_eq_bool (w_res rfl) w_lit) rfl
    case turn =>
      rintro i v m1 nx h5 tk5 own hv hadr hoff5 hmem ⟨od5, kvs5, vsS, nS, sts, tl, rfl, hI5, hs5, hp5, hd5, hT5, hl5, e1, e2, e3⟩ F5 N5
      have hiL : i < (ordersN nL).length := by
        rw [← hMO.1]
        rcases Nat.lt_or_ge i us.length with q | q
        · exact q
        · rw [List.getElem?_eq_none q] at hv; cases hv
      obtain ⟨e, he⟩ : ∃ e, (ordersN nL)[i]? = some e := ⟨_, List.getElem?_eq_getElem hiL⟩
      have hin : e ∈ ordersN nL := List.mem_of_getElem? he
      obtain ⟨r, vsE, nE, hr1, hr2, hIe⟩ := hMO.2 i e he
      rw [hv] at hr1
      cases hr1
      have hl24 := ord_cnt hLM
      have hS24 := perm_len hLM hp5
      have F6 := fr_under [(Str.ofString "letters", .int (nL : Int) tl), (Str.ofString "holds", .ref f1), (Str.ofString "stops", .ref lst1)] F5 (fm1 e1 (fm1 e2 (fm1 e3 fm0)))
      clear F5
      dsimp only [kstB] at F6
      rw [List.cons_append, List.cons_append, List.cons_append] at N5
      dsimp only at F6 N5 ⊢
      repeat' ((fail_if_success (with_reducible show wpAny _ _ (PySem.exec (PySem.Stmt.For _ _ _ _ _) _) _ _ _)); (fail_if_success (with_reducible show wpAny _ _ (PySem.exec (PySem.Stmt.While _ _ _ _) _) _ _ _)); (fail_if_success (with_reducible show wpAny _ _ (PySem.pyIter _) _ _ _)); first | ((with_reducible show wpAny _ _ (binaryOp Operator.Pow (Value.int 2 _) (Value.int _ _)) _ _ _); (with_reducible refine pow_letters hLM ?_); (try dsimp only)) | ((with_reducible refine if_letters ?_); intro nL hnL; (obtain ⟨nM, hLM, hL4, hM16, hFM⟩ := lm_of hnL); (try dsimp only)) | (k_here; (with_reducible show wpAny _ _ (PySem.call (Value.ref 130) _) _ _ _); k_dflt ((first | refine' cl_use (c_orders nL hnL) ?k1 ?k2 ?k3 ?k4 ?k5 ?kK ?kd ?ku ?_); (case k1 => k_asm); (case k2 => k_asm); (case k3 => k_asm); (case k4 => k_asm); (case k5 => k_asm); (case kK => first | exact rfl | assumption); (case kd => ktr_room); (case ku => ktr_units); k_whole); intro v9 nw9 h9 tk9 F9 N9 P9; (obtain ⟨lo, co, us, oes, e8, e9, hofO, happO, hMO⟩ := P9); subst e8; subst e9; (try dsimp only); (try k_fold)) | (k_here; (with_reducible show wpAny _ _ (PySem.call (Value.ref 151) [_, _, _]) _ _ _); k_dflt ((first | refine' cl_use (c_due hLM (by omega) (by omega) ?hm hiF hbF) ?k1 ?k2 ?k3 ?k4 ?k5 ?kK ?kd ?ku ?_); (case k1 => k_asm); (case k2 => k_asm); (case k3 => k_asm); (case k4 => k_asm); (case hm => (repeat (first | exact List.mem_cons_self .. | refine List.mem_cons_of_mem _ ?_))); (case k5 => k_asm); (case kK => first | exact rfl | assumption); (case kd => ktr_room); (case ku => ktr_units); k_whole); intro v9 nw9 h9 tk9 F9 N9 P9; (obtain ⟨e8, t8, e9⟩ := P9); subst e8; subst e9; (try dsimp only); (try k_fold)) | (k_here; (with_reducible show wpAny _ _ (PySem.call (Value.ref 55) [_, _]) _ _ _); k_dflt ((first | refine' cl_use (c_bl2 hI5 hs5 (by omega)) ?k1 ?k2 ?k3 ?k4 ?k5 ?kK ?kd ?ku ?_); (case k1 => k_asm); (case k2 => k_asm); (case k3 => k_asm); (case k4 => k_asm); (case k5 => k_asm); (case kK => first | exact rfl | assumption); (case kd => ktr_room); (case ku => ktr_units); k_whole); intro v9 nw9 h9 tk9 F9 N9 P9; (obtain ⟨e8, t8, e9⟩ := P9); subst e8; subst e9; (try dsimp only); (try k_fold)) | (k_here; (with_reducible show wpAny _ _ (PySem.call (Value.ref 46) [_, _]) _ _ _); k_dflt ((first | refine' cl_use (c_br2 hI5 hs5 (by omega)) ?k1 ?k2 ?k3 ?k4 ?k5 ?kK ?kd ?ku ?_); (case k1 => k_asm); (case k2 => k_asm); (case k3 => k_asm); (case k4 => k_asm); (case k5 => k_asm); (case kK => first | exact rfl | assumption); (case kd => ktr_room); (case ku => ktr_units); k_whole); intro v9 nw9 h9 tk9 F9 N9 P9; (obtain ⟨e8, t8, e9⟩ := P9); subst e8; subst e9; (try dsimp only); (try k_fold)) | (k_here; (with_reducible show wpAny _ _ (PySem.call (Value.ref 37) [_, _]) _ _ _); k_dflt ((first | refine' cl_use (c_ins hI5 hs5 (by omega) (hinsO _ _)) ?k1 ?k2 ?k3 ?k4 ?k5 ?kK ?kd ?ku ?_); (case k1 => k_asm); (case k2 => k_asm); (case k3 => k_asm); (case k4 => k_asm); (case k5 => k_asm); (case kK => first | exact rfl | assumption); (case kd => ktr_room); (case ku => ktr_units); k_whole); intro v9 nw9 h9 tk9 F9 N9 P9; (obtain ⟨e9, vs9, n9, e8, hI9⟩ := P9); subst e8; subst e9; (try dsimp only); (try k_fold)) | (k_here; (with_reducible show wpAny _ _ (PySem.call (Value.ref 125) _) _ _ _); k_dflt ((first | refine' cl_use (c_sizes hLM) ?k1 ?k2 ?k3 ?k4 ?k5 ?kK ?kd ?ku ?_); (case k1 => k_asm); (case k2 => k_asm); (case k3 => k_asm); (case k4 => k_asm); (case k5 => k_asm); (case kK => first | exact rfl | assumption); (case kd => ktr_room); (case ku => ktr_units); k_whole); intro v9 nw9 h9 tk9 F9 N9 P9; (obtain ⟨ls, zs, ns, e8, e9, hofS, hS⟩ := P9); subst e8; subst e9; (have hofSn := allLt_of hofS; (simp only [AllLt, and_true] at hofSn)); (try dsimp only); (try k_fold)) | (k_here; (with_reducible show wpAny _ _ (PySem.call (Value.ref 118) _) _ _ _); k_dflt ((first | refine' cl_use (c_words hLM) ?k1 ?k2 ?k3 ?k4 ?k5 ?kK ?kd ?ku ?_); (case k1 => k_asm); (case k2 => k_asm); (case k3 => k_asm); (case k4 => k_asm); (case k5 => k_asm); (case kK => first | exact rfl | assumption); (case kd => ktr_room); (case ku => ktr_units); k_whole); intro v9 nw9 h9 tk9 F9 N9 P9; (obtain ⟨lw, ws, nw, e8, e9, hofW, hW⟩ := P9); subst e8; subst e9; (have hofWn := allLt_of hofW; (simp only [AllLt, and_true] at hofWn)); (try dsimp only); (try k_fold)) | (k_here; (with_reducible show wpAny _ _ (PySem.call (Value.ref 111) _) _ _ _); k_dflt ((first | refine' c_fam (M := nM) hFM ?hi ?hl _ _ _ _ _ _ _ _ _ _ _ _ _ _ _ _ _ ?hb ?k1 ?k2 ?k3 ?k4 ?k5 ?kK ?kd ?ku ?_); (case hi => assumption); (case hl => omega); (case hb => assumption); (case k1 => k_asm); (case k2 => k_asm); (case k3 => k_asm); (case k4 => k_asm); (case k5 => k_asm); (case kK => first | exact rfl | assumption); (case kd => ktr_room); (case ku => ktr_units); k_whole); intro v9 nw9 h9 tk9 F9 N9 P9; (obtain ⟨lf, vf, fam, nf, e8, e9, hofF, hiF, hflF, hneF, hbF⟩ := P9); subst e8; subst e9; (have hofFn := allLt_of hofF; (simp only [AllLt, and_true] at hofFn)); (try dsimp only); (try k_fold)) | (k_unfold; (try dsimp only)) | (k_end; wrow_close) | walk1 | (dsimp only; walk1) | (leave1; walk_say "STEP leave1"; try dsimp only))
      (rename News _ _ _ (_ :: (ld1, od5) :: _) => N6)
      obtain ⟨lg, qlg, N7⟩ := head_led N6
      subst qlg
      clear N7
      have hgL : lg ≠ ld1 := by k_ne
      have hgS : lg ≠ lst1 := by k_ne
      have hgO : ∀ p ∈ (ld1, od5) :: (lst1, W.listOf vsS.toArray nS) :: (f1, (⟨foc, fod, .func fd, fsl⟩ : Obj)) :: (RR ++ own), p.1 ≠ lg := by
        (rename _ < lg ∧ _ ∧ _ ∧ AllLt lg _ => l9)
        refine off_cons (by k_ne) (off_cons (by k_ne) (off_cons (by k_ne) (fun p hp => ?_)))
        exact Nat.ne_of_lt (allLt_mem l9.2.2.2 p hp)
      k_here
      (rename Fr _ _ _ _ => lF')
      (with_unfolding_all refine' For_invVF lF' ?k1 ?k2 ?_)
      (case k1 => exact rfl)
      (case k2 => exact rfl)
      k_whole
      repeat' ((fail_if_success (with_reducible show wpAny _ _ (PySem.exec (PySem.Stmt.For _ _ _ _ _) _) _ _ _)); (fail_if_success (with_reducible show wpAny _ _ (PySem.exec (PySem.Stmt.While _ _ _ _) _) _ _ _)); (fail_if_success (with_reducible show wpAny _ _ (PySem.pyIter _) _ _ _)); first | ((with_reducible show wpAny _ _ (binaryOp Operator.Pow (Value.int 2 _) (Value.int _ _)) _ _ _); (with_reducible refine pow_letters hLM ?_); (try dsimp only)) | ((with_reducible refine if_letters ?_); intro nL hnL; (obtain ⟨nM, hLM, hL4, hM16, hFM⟩ := lm_of hnL); (try dsimp only)) | (k_here; (with_reducible show wpAny _ _ (PySem.call (Value.ref 130) _) _ _ _); k_dflt ((first | refine' cl_use (c_orders nL hnL) ?k1 ?k2 ?k3 ?k4 ?k5 ?kK ?kd ?ku ?_); (case k1 => k_asm); (case k2 => k_asm); (case k3 => k_asm); (case k4 => k_asm); (case k5 => k_asm); (case kK => first | exact rfl | assumption); (case kd => ktr_room); (case ku => ktr_units); k_whole); intro v9 nw9 h9 tk9 F9 N9 P9; (obtain ⟨lo, co, us, oes, e8, e9, hofO, happO, hMO⟩ := P9); subst e8; subst e9; (try dsimp only); (try k_fold)) | (k_here; (with_reducible show wpAny _ _ (PySem.call (Value.ref 151) [_, _, _]) _ _ _); k_dflt ((first | refine' cl_use (c_due hLM (by omega) (by omega) ?hm hiF hbF) ?k1 ?k2 ?k3 ?k4 ?k5 ?kK ?kd ?ku ?_); (case k1 => k_asm); (case k2 => k_asm); (case k3 => k_asm); (case k4 => k_asm); (case hm => (repeat (first | exact List.mem_cons_self .. | refine List.mem_cons_of_mem _ ?_))); (case k5 => k_asm); (case kK => first | exact rfl | assumption); (case kd => ktr_room); (case ku => ktr_units); k_whole); intro v9 nw9 h9 tk9 F9 N9 P9; (obtain ⟨e8, t8, e9⟩ := P9); subst e8; subst e9; (try dsimp only); (try k_fold)) | (k_here; (with_reducible show wpAny _ _ (PySem.call (Value.ref 55) [_, _]) _ _ _); k_dflt ((first | refine' cl_use (c_bl2 hI5 hs5 (by omega)) ?k1 ?k2 ?k3 ?k4 ?k5 ?kK ?kd ?ku ?_); (case k1 => k_asm); (case k2 => k_asm); (case k3 => k_asm); (case k4 => k_asm); (case k5 => k_asm); (case kK => first | exact rfl | assumption); (case kd => ktr_room); (case ku => ktr_units); k_whole); intro v9 nw9 h9 tk9 F9 N9 P9; (obtain ⟨e8, t8, e9⟩ := P9); subst e8; subst e9; (try dsimp only); (try k_fold)) | (k_here; (with_reducible show wpAny _ _ (PySem.call (Value.ref 46) [_, _]) _ _ _); k_dflt ((first | refine' cl_use (c_br2 hI5 hs5 (by omega)) ?k1 ?k2 ?k3 ?k4 ?k5 ?kK ?kd ?ku ?_); (case k1 => k_asm); (case k2 => k_asm); (case k3 => k_asm); (case k4 => k_asm); (case k5 => k_asm); (case kK => first | exact rfl | assumption); (case kd => ktr_room); (case ku => ktr_units); k_whole); intro v9 nw9 h9 tk9 F9 N9 P9; (obtain ⟨e8, t8, e9⟩ := P9); subst e8; subst e9; (try dsimp only); (try k_fold)) | (k_here; (with_reducible show wpAny _ _ (PySem.call (Value.ref 37) [_, _]) _ _ _); k_dflt ((first | refine' cl_use (c_ins hI5 hs5 (by omega) (hinsO _ _)) ?k1 ?k2 ?k3 ?k4 ?k5 ?kK ?kd ?ku ?_); (case k1 => k_asm); (case k2 => k_asm); (case k3 => k_asm); (case k4 => k_asm); (case k5 => k_asm); (case kK => first | exact rfl | assumption); (case kd => ktr_room); (case ku => ktr_units); k_whole); intro v9 nw9 h9 tk9 F9 N9 P9; (obtain ⟨e9, vs9, n9, e8, hI9⟩ := P9); subst e8; subst e9; (try dsimp only); (try k_fold)) | (k_here; (with_reducible show wpAny _ _ (PySem.call (Value.ref 125) _) _ _ _); k_dflt ((first | refine' cl_use (c_sizes hLM) ?k1 ?k2 ?k3 ?k4 ?k5 ?kK ?kd ?ku ?_); (case k1 => k_asm); (case k2 => k_asm); (case k3 => k_asm); (case k4 => k_asm); (case k5 => k_asm); (case kK => first | exact rfl | assumption); (case kd => ktr_room); (case ku => ktr_units); k_whole); intro v9 nw9 h9 tk9 F9 N9 P9; (obtain ⟨ls, zs, ns, e8, e9, hofS, hS⟩ := P9); subst e8; subst e9; (have hofSn := allLt_of hofS; (simp only [AllLt, and_true] at hofSn)); (try dsimp only); (try k_fold)) | (k_here; (with_reducible show wpAny _ _ (PySem.call (Value.ref 118) _) _ _ _); k_dflt ((first | refine' cl_use (c_words hLM) ?k1 ?k2 ?k3 ?k4 ?k5 ?kK ?kd ?ku ?_); (case k1 => k_asm); (case k2 => k_asm); (case k3 => k_asm); (case k4 => k_asm); (case k5 => k_asm); (case kK => first | exact rfl | assumption); (case kd => ktr_room); (case ku => ktr_units); k_whole); intro v9 nw9 h9 tk9 F9 N9 P9; (obtain ⟨lw, ws, nw, e8, e9, hofW, hW⟩ := P9); subst e8; subst e9; (have hofWn := allLt_of hofW; (simp only [AllLt, and_true] at hofWn)); (try dsimp only); (try k_fold)) | (k_here; (with_reducible show wpAny _ _ (PySem.call (Value.ref 111) _) _ _ _); k_dflt ((first | refine' c_fam (M := nM) hFM ?hi ?hl _ _ _ _ _ _ _ _ _ _ _ _ _ _ _ _ _ ?hb ?k1 ?k2 ?k3 ?k4 ?k5 ?kK ?kd ?ku ?_); (case hi => assumption); (case hl => omega); (case hb => assumption); (case k1 => k_asm); (case k2 => k_asm); (case k3 => k_asm); (case k4 => k_asm); (case k5 => k_asm); (case kK => first | exact rfl | assumption); (case kd => ktr_room); (case ku => ktr_units); k_whole); intro v9 nw9 h9 tk9 F9 N9 P9; (obtain ⟨lf, vf, fam, nf, e8, e9, hofF, hiF, hflF, hneF, hbF⟩ := P9); subst e8; subst e9; (have hofFn := allLt_of hofF; (simp only [AllLt, and_true] at hofFn)); (try dsimp only); (try k_fold)) | (k_unfold; (try dsimp only)) | (k_end; wrow_close) | walk1 | (dsimp only; walk1) | (leave1; walk_say "STEP leave1"; try dsimp only))
      refine iter_invNL (GatJ nL e lg lst1 f1 ((ld1, od5) :: (lst1, W.listOf vsS.toArray nS) :: (f1, (⟨foc, fod, .func fd, fsl⟩ : Obj)) :: (RR ++ own))) rfl (.tail _ (.tail _ (.tail _ (.tail _ (List.mem_append_left _ (hoes _ hr2)))))) hIe (by assumption) (by assumption) ?start ?turn ?done
      case start => exact ⟨[_], _, _, rfl, .cons _ _ .nil, rfl, rfl, rfl, rfl⟩
      case turn =>
        rintro j kk tkk m2 nx h6 tk6 own2 hkk hadr2 hoff2 hmem2 ⟨gs, ng, tl2, rfl, hgs, g1, g2, g3, g4⟩ F8 N8
        have F9 := fr_under [(Str.ofString "gathered", .ref lg), (Str.ofString "letters", .int (nL : Int) tl2), (Str.ofString "holds", .ref f1), (Str.ofString "stops", .ref lst1)] F8 (fm1 g1 (fm1 g2 (fm1 g3 (fm1 g4 fm0))))
        clear F8
        dsimp only [kstB] at F9
        rw [List.cons_append] at N8
        have hk4 := ord_in hLM hin kk (List.mem_of_getElem? hkk)
        have hjL : j < e.length := by
          rcases Nat.lt_or_ge j e.length with q | q
          · exact q
          · rw [List.getElem?_eq_none q] at hkk; cases hkk
        have heL : e.length = nL := by have := gath_len e; have := gath_l5 hLM hin; omega
        have hglen : (gathI (e.take j)).length = j + 1 := by rw [gath_len, List.length_take]; omega
        have hgl0 : 0 < (gathI (e.take j)).length := by omega
        have hgO2 := off_app hgO (hoff2.ne (List.mem_cons_self ..))
        have hgsl := hgs.length
        dsimp only at F9 N8 ⊢
        repeat' ((fail_if_success (with_reducible show wpAny _ _ (PySem.exec (PySem.Stmt.For _ _ _ _ _) _) _ _ _)); (fail_if_success (with_reducible show wpAny _ _ (PySem.exec (PySem.Stmt.While _ _ _ _) _) _ _ _)); (fail_if_success (with_reducible show wpAny _ _ (PySem.pyIter _) _ _ _)); first | ((with_reducible show wpAny _ _ (binaryOp Operator.Pow (Value.int 2 _) (Value.int _ _)) _ _ _); (with_reducible refine pow_letters hLM ?_); (try dsimp only)) | ((with_reducible refine if_letters ?_); intro nL hnL; (obtain ⟨nM, hLM, hL4, hM16, hFM⟩ := lm_of hnL); (try dsimp only)) | (k_here; (with_reducible show wpAny _ _ (PySem.call (Value.ref 130) _) _ _ _); k_dflt ((first | refine' cl_use (c_orders nL hnL) ?k1 ?k2 ?k3 ?k4 ?k5 ?kK ?kd ?ku ?_); (case k1 => k_asm); (case k2 => k_asm); (case k3 => k_asm); (case k4 => k_asm); (case k5 => k_asm); (case kK => first | exact rfl | assumption); (case kd => ktr_room); (case ku => ktr_units); k_whole); intro v9 nw9 h9 tk9 F9 N9 P9; (obtain ⟨lo, co, us, oes, e8, e9, hofO, happO, hMO⟩ := P9); subst e8; subst e9; (try dsimp only); (try k_fold)) | (k_here; (with_reducible show wpAny _ _ (PySem.call (Value.ref 151) [_, _, _]) _ _ _); k_dflt ((first | refine' cl_use (c_due hLM (by omega) (by omega) ?hm hiF hbF) ?k1 ?k2 ?k3 ?k4 ?k5 ?kK ?kd ?ku ?_); (case k1 => k_asm); (case k2 => k_asm); (case k3 => k_asm); (case k4 => k_asm); (case hm => (repeat (first | exact List.mem_cons_self .. | refine List.mem_cons_of_mem _ ?_))); (case k5 => k_asm); (case kK => first | exact rfl | assumption); (case kd => ktr_room); (case ku => ktr_units); k_whole); intro v9 nw9 h9 tk9 F9 N9 P9; (obtain ⟨e8, t8, e9⟩ := P9); subst e8; subst e9; (try dsimp only); (try k_fold)) | (k_here; (with_reducible show wpAny _ _ (PySem.call (Value.ref 55) [_, _]) _ _ _); k_dflt ((first | refine' cl_use (c_bl2 hI5 hs5 (by omega)) ?k1 ?k2 ?k3 ?k4 ?k5 ?kK ?kd ?ku ?_); (case k1 => k_asm); (case k2 => k_asm); (case k3 => k_asm); (case k4 => k_asm); (case k5 => k_asm); (case kK => first | exact rfl | assumption); (case kd => ktr_room); (case ku => ktr_units); k_whole); intro v9 nw9 h9 tk9 F9 N9 P9; (obtain ⟨e8, t8, e9⟩ := P9); subst e8; subst e9; (try dsimp only); (try k_fold)) | (k_here; (with_reducible show wpAny _ _ (PySem.call (Value.ref 46) [_, _]) _ _ _); k_dflt ((first | refine' cl_use (c_br2 hI5 hs5 (by omega)) ?k1 ?k2 ?k3 ?k4 ?k5 ?kK ?kd ?ku ?_); (case k1 => k_asm); (case k2 => k_asm); (case k3 => k_asm); (case k4 => k_asm); (case k5 => k_asm); (case kK => first | exact rfl | assumption); (case kd => ktr_room); (case ku => ktr_units); k_whole); intro v9 nw9 h9 tk9 F9 N9 P9; (obtain ⟨e8, t8, e9⟩ := P9); subst e8; subst e9; (try dsimp only); (try k_fold)) | (k_here; (with_reducible show wpAny _ _ (PySem.call (Value.ref 37) [_, _]) _ _ _); k_dflt ((first | refine' cl_use (c_ins hI5 hs5 (by omega) (hinsO _ _)) ?k1 ?k2 ?k3 ?k4 ?k5 ?kK ?kd ?ku ?_); (case k1 => k_asm); (case k2 => k_asm); (case k3 => k_asm); (case k4 => k_asm); (case k5 => k_asm); (case kK => first | exact rfl | assumption); (case kd => ktr_room); (case ku => ktr_units); k_whole); intro v9 nw9 h9 tk9 F9 N9 P9; (obtain ⟨e9, vs9, n9, e8, hI9⟩ := P9); subst e8; subst e9; (try dsimp only); (try k_fold)) | (k_here; (with_reducible show wpAny _ _ (PySem.call (Value.ref 125) _) _ _ _); k_dflt ((first | refine' cl_use (c_sizes hLM) ?k1 ?k2 ?k3 ?k4 ?k5 ?kK ?kd ?ku ?_); (case k1 => k_asm); (case k2 => k_asm); (case k3 => k_asm); (case k4 => k_asm); (case k5 => k_asm); (case kK => first | exact rfl | assumption); (case kd => ktr_room); (case ku => ktr_units); k_whole); intro v9 nw9 h9 tk9 F9 N9 P9; (obtain ⟨ls, zs, ns, e8, e9, hofS, hS⟩ := P9); subst e8; subst e9; (have hofSn := allLt_of hofS; (simp only [AllLt, and_true] at hofSn)); (try dsimp only); (try k_fold)) | (k_here; (with_reducible show wpAny _ _ (PySem.call (Value.ref 118) _) _ _ _); k_dflt ((first | refine' cl_use (c_words hLM) ?k1 ?k2 ?k3 ?k4 ?k5 ?kK ?kd ?ku ?_); (case k1 => k_asm); (case k2 => k_asm); (case k3 => k_asm); (case k4 => k_asm); (case k5 => k_asm); (case kK => first | exact rfl | assumption); (case kd => ktr_room); (case ku => ktr_units); k_whole); intro v9 nw9 h9 tk9 F9 N9 P9; (obtain ⟨lw, ws, nw, e8, e9, hofW, hW⟩ := P9); subst e8; subst e9; (have hofWn := allLt_of hofW; (simp only [AllLt, and_true] at hofWn)); (try dsimp only); (try k_fold)) | (k_here; (with_reducible show wpAny _ _ (PySem.call (Value.ref 111) _) _ _ _); k_dflt ((first | refine' c_fam (M := nM) hFM ?hi ?hl _ _ _ _ _ _ _ _ _ _ _ _ _ _ _ _ _ ?hb ?k1 ?k2 ?k3 ?k4 ?k5 ?kK ?kd ?ku ?_); (case hi => assumption); (case hl => omega); (case hb => assumption); (case k1 => k_asm); (case k2 => k_asm); (case k3 => k_asm); (case k4 => k_asm); (case k5 => k_asm); (case kK => first | exact rfl | assumption); (case kd => ktr_room); (case ku => ktr_units); k_whole); intro v9 nw9 h9 tk9 F9 N9 P9; (obtain ⟨lf, vf, fam, nf, e8, e9, hofF, hiF, hflF, hneF, hbF⟩ := P9); subst e8; subst e9; (have hofFn := allLt_of hofF; (simp only [AllLt, and_true] at hofFn)); (try dsimp only); (try k_fold)) | (k_unfold; (try dsimp only)) | (k_end; wrow_close) | walk1 | (dsimp only; walk1) | (leave1; walk_say "STEP leave1"; try dsimp only))
        (rename News _ _ _ (_ :: (_ ++ own2)) => N9)
        simp only [List.push_toArray] at N9
        refine inv_end (_ :: ((ld1, od5) :: (lst1, W.listOf vsS.toArray nS) :: (f1, (⟨foc, fod, .func fd, fsl⟩ : Obj)) :: (RR ++ own))) (by assumption) N9 (fun p hp => mem_l hp) (fun p hp => mem_r hp) ?hmap ?hJ
        case hJ => exact ⟨.tail _ (.tail _ (.tail _ (.tail _ (List.mem_append_left _ (hoes _ hr2))))), _, _, _, rfl, ints_snoc hgs (by rw [gath_take hkk, last_neg hgl0]), rfl, rfl, rfl, rfl⟩
        case hmap => rfl
      case done =>
        rintro m2 nx h6 tk6 hmem2 ⟨gs, ng, tl2, rfl, hgs, g1, g2, g3, g4⟩ F8 N8
        rw [List.take_length] at hgs
        have F9 := fr_known [(Str.ofString "gathered", .ref lg), (Str.ofString "letters", .int (nL : Int) tl2), (Str.ofString "holds", .ref f1), (Str.ofString "stops", .ref lst1)] F8 (fm1 g1 (fm1 g2 (fm1 g3 (fm1 g4 fm0))))
        clear F8
        dsimp only [kstB] at F9
        have hownL := hoff5.ne (b := ld1) (List.mem_cons_self ..)
        have hownS := hoff5.ne (b := lst1) (List.mem_cons_of_mem _ (List.mem_cons_self ..))
        have hrr : ∀ p ∈ (lst1, W.listOf vsS.toArray nS) :: (((lo1, W.listOf us.toArray co) :: oes) ++ own), p.1 ≠ ld1 := off_cons (fun e => aplS e.symm) (off_app apTL hownL)
        have hinsO : ∀ (G od : Obj), ∀ p ∈ (lg, G) :: (ld1, od) :: (f1, (⟨foc, fod, .func fd, fsl⟩ : Obj)) :: (RR ++ own), p.1 ≠ lst1 := fun G od => off_cons hgS (off_cons aplS (off_cons apfS (off_app hRS hownS)))
        have hgl5 := gath_l5 hLM hin
        have hgb := gath_bounds hLM hin
        have hgsort := gath_sorted hLM hbF hin
        have hcut0 := (cut_lt hLM hneF hbF hin).1
        have hcut1 := (cut_lt hLM hneF hbF hin).2
        have hkl : kvs5.length ≤ 800 := by omega
        have hgfit : (gathI e).length < 20 := by omega
        dsimp only at F9 N8 ⊢
        repeat' ((fail_if_success (with_reducible show wpAny _ _ (PySem.call (Value.ref 55) _ _) _ _ _)); (fail_if_success (with_reducible show wpAny _ _ (PySem.exec (PySem.Stmt.For _ _ _ _ _) _) _ _ _)); (fail_if_success (with_reducible show wpAny _ _ (PySem.exec (PySem.Stmt.While _ _ _ _) _) _ _ _)); (fail_if_success (with_reducible show wpAny _ _ (PySem.pyIter _) _ _ _)); first | ((with_reducible show wpAny _ _ (binaryOp Operator.Pow (Value.int 2 _) (Value.int _ _)) _ _ _); (with_reducible refine pow_letters hLM ?_); (try dsimp only)) | ((with_reducible refine if_letters ?_); intro nL hnL; (obtain ⟨nM, hLM, hL4, hM16, hFM⟩ := lm_of hnL); (try dsimp only)) | (k_here; (with_reducible show wpAny _ _ (PySem.call (Value.ref 130) _) _ _ _); k_dflt ((first | refine' cl_use (c_orders nL hnL) ?k1 ?k2 ?k3 ?k4 ?k5 ?kK ?kd ?ku ?_); (case k1 => k_asm); (case k2 => k_asm); (case k3 => k_asm); (case k4 => k_asm); (case k5 => k_asm); (case kK => first | exact rfl | assumption); (case kd => ktr_room); (case ku => ktr_units); k_whole); intro v9 nw9 h9 tk9 F9 N9 P9; (obtain ⟨lo, co, us, oes, e8, e9, hofO, happO, hMO⟩ := P9); subst e8; subst e9; (try dsimp only); (try k_fold)) | (k_here; (with_reducible show wpAny _ _ (PySem.call (Value.ref 151) [_, _, _]) _ _ _); k_dflt ((first | refine' cl_use (c_due hLM (by omega) (by omega) ?hm hiF hbF) ?k1 ?k2 ?k3 ?k4 ?k5 ?kK ?kd ?ku ?_); (case k1 => k_asm); (case k2 => k_asm); (case k3 => k_asm); (case k4 => k_asm); (case hm => (repeat (first | exact List.mem_cons_self .. | refine List.mem_cons_of_mem _ ?_))); (case k5 => k_asm); (case kK => first | exact rfl | assumption); (case kd => ktr_room); (case ku => ktr_units); k_whole); intro v9 nw9 h9 tk9 F9 N9 P9; (obtain ⟨e8, t8, e9⟩ := P9); subst e8; subst e9; (try dsimp only); (try k_fold)) | (k_here; (with_reducible show wpAny _ _ (PySem.call (Value.ref 55) [_, _]) _ _ _); k_dflt ((first | refine' cl_use (c_bl2 hI5 hs5 (by omega)) ?k1 ?k2 ?k3 ?k4 ?k5 ?kK ?kd ?ku ?_); (case k1 => k_asm); (case k2 => k_asm); (case k3 => k_asm); (case k4 => k_asm); (case k5 => k_asm); (case kK => first | exact rfl | assumption); (case kd => ktr_room); (case ku => ktr_units); k_whole); intro v9 nw9 h9 tk9 F9 N9 P9; (obtain ⟨e8, t8, e9⟩ := P9); subst e8; subst e9; (try dsimp only); (try k_fold)) | (k_here; (with_reducible show wpAny _ _ (PySem.call (Value.ref 46) [_, _]) _ _ _); k_dflt ((first | refine' cl_use (c_br2 hI5 hs5 (by omega)) ?k1 ?k2 ?k3 ?k4 ?k5 ?kK ?kd ?ku ?_); (case k1 => k_asm); (case k2 => k_asm); (case k3 => k_asm); (case k4 => k_asm); (case k5 => k_asm); (case kK => first | exact rfl | assumption); (case kd => ktr_room); (case ku => ktr_units); k_whole); intro v9 nw9 h9 tk9 F9 N9 P9; (obtain ⟨e8, t8, e9⟩ := P9); subst e8; subst e9; (try dsimp only); (try k_fold)) | (k_here; (with_reducible show wpAny _ _ (PySem.call (Value.ref 37) [_, _]) _ _ _); k_dflt ((first | refine' cl_use (c_ins hI5 hs5 (by omega) (hinsO _ _)) ?k1 ?k2 ?k3 ?k4 ?k5 ?kK ?kd ?ku ?_); (case k1 => k_asm); (case k2 => k_asm); (case k3 => k_asm); (case k4 => k_asm); (case k5 => k_asm); (case kK => first | exact rfl | assumption); (case kd => ktr_room); (case ku => ktr_units); k_whole); intro v9 nw9 h9 tk9 F9 N9 P9; (obtain ⟨e9, vs9, n9, e8, hI9⟩ := P9); subst e8; subst e9; (try dsimp only); (try k_fold)) | (k_here; (with_reducible show wpAny _ _ (PySem.call (Value.ref 125) _) _ _ _); k_dflt ((first | refine' cl_use (c_sizes hLM) ?k1 ?k2 ?k3 ?k4 ?k5 ?kK ?kd ?ku ?_); (case k1 => k_asm); (case k2 => k_asm); (case k3 => k_asm); (case k4 => k_asm); (case k5 => k_asm); (case kK => first | exact rfl | assumption); (case kd => ktr_room); (case ku => ktr_units); k_whole); intro v9 nw9 h9 tk9 F9 N9 P9; (obtain ⟨ls, zs, ns, e8, e9, hofS, hS⟩ := P9); subst e8; subst e9; (have hofSn := allLt_of hofS; (simp only [AllLt, and_true] at hofSn)); (try dsimp only); (try k_fold)) | (k_here; (with_reducible show wpAny _ _ (PySem.call (Value.ref 118) _) _ _ _); k_dflt ((first | refine' cl_use (c_words hLM) ?k1 ?k2 ?k3 ?k4 ?k5 ?kK ?kd ?ku ?_); (case k1 => k_asm); (case k2 => k_asm); (case k3 => k_asm); (case k4 => k_asm); (case k5 => k_asm); (case kK => first | exact rfl | assumption); (case kd => ktr_room); (case ku => ktr_units); k_whole); intro v9 nw9 h9 tk9 F9 N9 P9; (obtain ⟨lw, ws, nw, e8, e9, hofW, hW⟩ := P9); subst e8; subst e9; (have hofWn := allLt_of hofW; (simp only [AllLt, and_true] at hofWn)); (try dsimp only); (try k_fold)) | (k_here; (with_reducible show wpAny _ _ (PySem.call (Value.ref 111) _) _ _ _); k_dflt ((first | refine' c_fam (M := nM) hFM ?hi ?hl _ _ _ _ _ _ _ _ _ _ _ _ _ _ _ _ _ ?hb ?k1 ?k2 ?k3 ?k4 ?k5 ?kK ?kd ?ku ?_); (case hi => assumption); (case hl => omega); (case hb => assumption); (case k1 => k_asm); (case k2 => k_asm); (case k3 => k_asm); (case k4 => k_asm); (case k5 => k_asm); (case kK => first | exact rfl | assumption); (case kd => ktr_room); (case ku => ktr_units); k_whole); intro v9 nw9 h9 tk9 F9 N9 P9; (obtain ⟨lf, vf, fam, nf, e8, e9, hofF, hiF, hflF, hneF, hbF⟩ := P9); subst e8; subst e9; (have hofFn := allLt_of hofF; (simp only [AllLt, and_true] at hofFn)); (try dsimp only); (try k_fold)) | (k_unfold; (try dsimp only)) | (k_end; wrow_close) | walk1 | (dsimp only; walk1) | (leave1; walk_say "STEP leave1"; try dsimp only))
        k_here
        k_dflt (refine' clk_use (c_blk (M := nM) (ng := ng) hgs hgb hgfit hgsort (fun od kvs x t => hF1 _ _ _ _ lg _ hrr hgL od kvs x t) hd5 hT5 hkl) ?k1 ?k2 ?k3 ?k4 ?k5 ?kK ?kd ?ku ?_; (case k1 => k_asm); (case k2 => k_asm); (case k3 => k_asm); (case k4 => exact perm_blk hRR (by k_asm)); (case k5 => k_asm); (case kK => first | exact rfl | assumption); (case kd => ktr_room); (case ku => ktr_units); k_whole)
        intro v9 nw9 h9 tk9 F10 N10 P10
        obtain ⟨⟨t8, e9⟩, od9, kvs9, e8, hd9, hT9, hl9⟩ := P10
        subst e8
        subst e9
        replace N10 := perm_ins hRR N10
        (try dsimp only); (try k_fold)
        repeat' ((fail_if_success (with_reducible show wpAny _ _ (PySem.exec (PySem.Stmt.For _ _ _ _ _) _) _ _ _)); (fail_if_success (with_reducible show wpAny _ _ (PySem.exec (PySem.Stmt.While _ _ _ _) _) _ _ _)); (fail_if_success (with_reducible show wpAny _ _ (PySem.pyIter _) _ _ _)); first | ((with_reducible show wpAny _ _ (binaryOp Operator.Pow (Value.int 2 _) (Value.int _ _)) _ _ _); (with_reducible refine pow_letters hLM ?_); (try dsimp only)) | ((with_reducible refine if_letters ?_); intro nL hnL; (obtain ⟨nM, hLM, hL4, hM16, hFM⟩ := lm_of hnL); (try dsimp only)) | (k_here; (with_reducible show wpAny _ _ (PySem.call (Value.ref 130) _) _ _ _); k_dflt ((first | refine' cl_use (c_orders nL hnL) ?k1 ?k2 ?k3 ?k4 ?k5 ?kK ?kd ?ku ?_); (case k1 => k_asm); (case k2 => k_asm); (case k3 => k_asm); (case k4 => k_asm); (case k5 => k_asm); (case kK => first | exact rfl | assumption); (case kd => ktr_room); (case ku => ktr_units); k_whole); intro v9 nw9 h9 tk9 F9 N9 P9; (obtain ⟨lo, co, us, oes, e8, e9, hofO, happO, hMO⟩ := P9); subst e8; subst e9; (try dsimp only); (try k_fold)) | (k_here; (with_reducible show wpAny _ _ (PySem.call (Value.ref 151) [_, _, _]) _ _ _); k_dflt ((first | refine' cl_use (c_due hLM (by omega) (by omega) ?hm hiF hbF) ?k1 ?k2 ?k3 ?k4 ?k5 ?kK ?kd ?ku ?_); (case k1 => k_asm); (case k2 => k_asm); (case k3 => k_asm); (case k4 => k_asm); (case hm => (repeat (first | exact List.mem_cons_self .. | refine List.mem_cons_of_mem _ ?_))); (case k5 => k_asm); (case kK => first | exact rfl | assumption); (case kd => ktr_room); (case ku => ktr_units); k_whole); intro v9 nw9 h9 tk9 F9 N9 P9; (obtain ⟨e8, t8, e9⟩ := P9); subst e8; subst e9; (try dsimp only); (try k_fold)) | (k_here; (with_reducible show wpAny _ _ (PySem.call (Value.ref 55) [_, _]) _ _ _); k_dflt ((first | refine' cl_use (c_bl2 hI5 hs5 (by omega)) ?k1 ?k2 ?k3 ?k4 ?k5 ?kK ?kd ?ku ?_); (case k1 => k_asm); (case k2 => k_asm); (case k3 => k_asm); (case k4 => k_asm); (case k5 => k_asm); (case kK => first | exact rfl | assumption); (case kd => ktr_room); (case ku => ktr_units); k_whole); intro v9 nw9 h9 tk9 F9 N9 P9; (obtain ⟨e8, t8, e9⟩ := P9); subst e8; subst e9; (try dsimp only); (try k_fold)) | (k_here; (with_reducible show wpAny _ _ (PySem.call (Value.ref 46) [_, _]) _ _ _); k_dflt ((first | refine' cl_use (c_br2 hI5 hs5 (by omega)) ?k1 ?k2 ?k3 ?k4 ?k5 ?kK ?kd ?ku ?_); (case k1 => k_asm); (case k2 => k_asm); (case k3 => k_asm); (case k4 => k_asm); (case k5 => k_asm); (case kK => first | exact rfl | assumption); (case kd => ktr_room); (case ku => ktr_units); k_whole); intro v9 nw9 h9 tk9 F9 N9 P9; (obtain ⟨e8, t8, e9⟩ := P9); subst e8; subst e9; (try dsimp only); (try k_fold)) | (k_here; (with_reducible show wpAny _ _ (PySem.call (Value.ref 37) [_, _]) _ _ _); k_dflt ((first | refine' cl_use (c_ins hI5 hs5 (by omega) (hinsO _ _)) ?k1 ?k2 ?k3 ?k4 ?k5 ?kK ?kd ?ku ?_); (case k1 => k_asm); (case k2 => k_asm); (case k3 => k_asm); (case k4 => k_asm); (case k5 => k_asm); (case kK => first | exact rfl | assumption); (case kd => ktr_room); (case ku => ktr_units); k_whole); intro v9 nw9 h9 tk9 F9 N9 P9; (obtain ⟨e9, vs9, n9, e8, hI9⟩ := P9); subst e8; subst e9; (try dsimp only); (try k_fold)) | (k_here; (with_reducible show wpAny _ _ (PySem.call (Value.ref 125) _) _ _ _); k_dflt ((first | refine' cl_use (c_sizes hLM) ?k1 ?k2 ?k3 ?k4 ?k5 ?kK ?kd ?ku ?_); (case k1 => k_asm); (case k2 => k_asm); (case k3 => k_asm); (case k4 => k_asm); (case k5 => k_asm); (case kK => first | exact rfl | assumption); (case kd => ktr_room); (case ku => ktr_units); k_whole); intro v9 nw9 h9 tk9 F9 N9 P9; (obtain ⟨ls, zs, ns, e8, e9, hofS, hS⟩ := P9); subst e8; subst e9; (have hofSn := allLt_of hofS; (simp only [AllLt, and_true] at hofSn)); (try dsimp only); (try k_fold)) | (k_here; (with_reducible show wpAny _ _ (PySem.call (Value.ref 118) _) _ _ _); k_dflt ((first | refine' cl_use (c_words hLM) ?k1 ?k2 ?k3 ?k4 ?k5 ?kK ?kd ?ku ?_); (case k1 => k_asm); (case k2 => k_asm); (case k3 => k_asm); (case k4 => k_asm); (case k5 => k_asm); (case kK => first | exact rfl | assumption); (case kd => ktr_room); (case ku => ktr_units); k_whole); intro v9 nw9 h9 tk9 F9 N9 P9; (obtain ⟨lw, ws, nw, e8, e9, hofW, hW⟩ := P9); subst e8; subst e9; (have hofWn := allLt_of hofW; (simp only [AllLt, and_true] at hofWn)); (try dsimp only); (try k_fold)) | (k_here; (with_reducible show wpAny _ _ (PySem.call (Value.ref 111) _) _ _ _); k_dflt ((first | refine' c_fam (M := nM) hFM ?hi ?hl _ _ _ _ _ _ _ _ _ _ _ _ _ _ _ _ _ ?hb ?k1 ?k2 ?k3 ?k4 ?k5 ?kK ?kd ?ku ?_); (case hi => assumption); (case hl => omega); (case hb => assumption); (case k1 => k_asm); (case k2 => k_asm); (case k3 => k_asm); (case k4 => k_asm); (case k5 => k_asm); (case kK => first | exact rfl | assumption); (case kd => ktr_room); (case ku => ktr_units); k_whole); intro v9 nw9 h9 tk9 F9 N9 P9; (obtain ⟨lf, vf, fam, nf, e8, e9, hofF, hiF, hflF, hneF, hbF⟩ := P9); subst e8; subst e9; (have hofFn := allLt_of hofF; (simp only [AllLt, and_true] at hofFn)); (try dsimp only); (try k_fold)) | (k_unfold; (try dsimp only)) | (k_end; wrow_close) | walk1 | (dsimp only; walk1) | (leave1; walk_say "STEP leave1"; try dsimp only))
        (rename News _ _ _ ((lst1, _) :: (lg, _) :: _) => N11)
        refine inv_end ((ld1, od9) :: (lst1, W.listOf vs9.toArray n9) :: (f1, (⟨foc, fod, .func fd, fsl⟩ : Obj)) :: RR) (by assumption) N11 (fun p hp => end_in hp) (fun p hp => end_own hp) ?hmap ?hJ
        case hJ => exact ⟨.tail _ (.tail _ (.tail _ hOL)), od9, kvs9, vs9, n9, _, _, rfl, hI9, insR_sorted hs5, stops_step he hp5, hd9, hT9, by omega, rfl, rfl, rfl⟩
        case hmap => rfl
)
end
end

end Mine

theorem PySem.Challenge.cw_sw0045_01_holds : PySem.Challenge.rw_sw0045_01.Holds :=
  Mine.law_holds
