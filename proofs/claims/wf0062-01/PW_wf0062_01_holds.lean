import PyProof.Rows.All
import Wide.All
import OpenK.AllK
import Wide.FinOn
import PySem.Challenge.RW_wf0062_01
open PySem PySem.W PyProof.Rows
set_option rowWalk.seconds 0
set_option linter.all false
set_option Elab.async false
set_option maxRecDepth 100000
set_option maxHeartbeats 8000000
namespace Mine
open_top hd for PySem.Challenge.rw_wf0062_01
abbrev Con (w : World) (news : List (Addr × Obj)) (f : Addr) (args : List Value) (D U : Nat) (R : Value → List (Addr × Obj) → Prop) : Prop :=
  ∀ (p : Program) (loose : List Str) (mean : ExcName → Option Value) (mg mb : Str → Option Value) (dp un : Nat) (gd : Option (List Code)) (cn : Str) (csn : List (Str × NameKind)) (csg csc : Bool) (csm : List (Str × Const)) (a : Addr) (ccd : Value) (cl : List (Str × Addr)) (outer : List Env) (A₀ : Around) (base h₀ : Heap) (L : Addr) (m : Str → Option Value) (s : Shared) (Q E : Value → Shared → Prop),
    Below A₀ base outer h₀ → Fr h₀ L s.heap m → (hd.heap_39 w.params).In h₀ → News h₀ L s.heap news → Top p loose mean mg mb h₀ → CodeHd base 41 37 → CodeHd base 34 30 → dp + D < recursionLimit → un + U < cLine →
    (∀ v news' h' tk', R v news' → Fr h₀ L h' m → News h₀ L h' news' → Q v { s with heap := h', toks := tk' }) →
    wpAny (model PySem.Challenge.rw_wf0062_01.row.prog w) (ktrTop dp un gd cn { kind := .function, names := csn, isGenerator := csg, isCoroutine := csc, more := csm } L a ccd cl outer) (call (.ref f) args) Q E s
noncomputable def Srt (ns : List Int) : Prop := ∀ i j : Nat, i ≤ j → j < ns.length → ns.getD i 0 ≤ ns.getD j 0
noncomputable def BL (ns : List Int) (p : Int → Bool) (lo hi : Int) : Prop :=
  (∀ k : Nat, (k : Int) < lo → p (ns.getD k 0) = true) ∧ (∀ k : Nat, hi ≤ (k : Int) → k < ns.length → p (ns.getD k 0) = false)
noncomputable def cnt (p : Int → Bool) (ns : List Int) : Int := ((ns.filter p).length : Nat)
theorem filter_cut (p : Int → Bool) : ∀ (ns : List Int) (n : Nat), n ≤ ns.length → (∀ k : Nat, k < n → p (ns.getD k 0) = true) → (∀ k : Nat, n ≤ k → k < ns.length → p (ns.getD k 0) = false) → (ns.filter p).length = n
  | [], n, h, _, _ => by simp at h; simp [h]
  | y :: r, 0, _, _, h2 => by
    have hy : p y = false := by simpa using h2 0 (Nat.le_refl _) (by simp)
    have ih := filter_cut p r 0 (Nat.zero_le _) (fun k hk => absurd hk (Nat.not_lt_zero _)) (fun k _ hk => by simpa using h2 (k + 1) (Nat.zero_le _) (by simpa using hk))
    rw [List.filter_cons_of_neg (by simp [hy]), ih]
  | y :: r, n + 1, h, h1, h2 => by
    have hy : p y = true := by simpa using h1 0 (Nat.succ_pos _)
    have ih := filter_cut p r n (by simpa using h) (fun k hk => by simpa using h1 (k + 1) (by omega)) (fun k hk hl => by simpa using h2 (k + 1) (by omega) (by simpa using hl))
    rw [List.filter_cons_of_pos hy, List.length_cons, ih]
theorem BL.done {ns : List Int} {p : Int → Bool} {lo hi : Int} (h : BL ns p lo hi) (h0 : 0 ≤ lo) (h1 : lo ≤ hi) (h2 : hi ≤ (ns.length : Int)) (h3 : ¬ lo < hi) : lo = cnt p ns := by
  have e : lo = hi := Int.le_antisymm h1 (Int.not_lt.mp h3)
  subst e
  obtain ⟨n, rfl⟩ := Int.eq_ofNat_of_zero_le h0
  exact congrArg Int.ofNat (filter_cut p ns n (Int.ofNat_le.mp h2) (fun k hk => h.1 k (Int.ofNat_lt.mpr hk)) (fun k hk hl => h.2 k (Int.ofNat_le.mpr hk) hl)).symm
theorem BL.start {ns : List Int} {p : Int → Bool} : (0 : Int) ≤ 0 ∧ (0 : Int) ≤ (ns.length : Nat) ∧ ((ns.length : Nat) : Int) ≤ (ns.length : Nat) ∧ BL ns p 0 (ns.length : Nat) :=
  ⟨Int.le_refl _, Int.natCast_nonneg _, Int.le_refl _, fun k hk => absurd hk (Int.not_lt.mpr (Int.natCast_nonneg k)), fun k hk hl => absurd hl (Nat.not_lt.mpr (Int.ofNat_le.mp hk))⟩
noncomputable def Mono (p : Int → Bool) : Prop := ∀ a b : Int, a ≤ b → p b = true → p a = true
theorem mid_rng {lo hi : Int} (h0 : 0 ≤ lo) (h1 : lo < hi) : ∃ m : Nat, Int.fdiv (lo + hi) 2 = (m : Int) ∧ lo ≤ (m : Int) ∧ (m : Int) < hi := by
  rw [Int.fdiv_eq_ediv_of_nonneg _ (by decide)]
  have a : lo ≤ (lo + hi) / 2 := Int.le_ediv_of_mul_le (by decide) (by rw [Int.mul_comm, Int.two_mul]; exact Int.add_le_add_left (Int.le_of_lt h1) _)
  have b : (lo + hi) / 2 < hi := Int.ediv_lt_of_lt_mul (by decide) (by rw [Int.mul_comm, Int.two_mul]; exact Int.add_lt_add_right h1 _)
  obtain ⟨m, e⟩ := Int.eq_ofNat_of_zero_le (Int.le_trans h0 a)
  rw [e] at a b ⊢
  exact ⟨m, rfl, a, b⟩
theorem BL.up {ns : List Int} {p : Int → Bool} {lo hi : Int} (hS : Srt ns) (hM : Mono p) (h : BL ns p lo hi) (h0 : 0 ≤ lo) (h1 : lo < hi) (h2 : hi ≤ (ns.length : Int)) (hp : p (ns.getD (Int.fdiv (lo + hi) 2).toNat 0) = true) :
    0 ≤ Int.fdiv (lo + hi) 2 + 1 ∧ Int.fdiv (lo + hi) 2 + 1 ≤ hi ∧ hi ≤ (ns.length : Int) ∧ BL ns p (Int.fdiv (lo + hi) 2 + 1) hi := by
  obtain ⟨m, e, a, b⟩ := mid_rng h0 h1
  rw [e] at hp ⊢
  refine ⟨Int.le_add_one (Int.natCast_nonneg m), Int.add_one_le_of_lt b, h2, fun k hk => ?_, h.2⟩
  exact hM _ _ (hS k m (Int.ofNat_le.mp (Int.le_of_lt_add_one hk)) (Int.ofNat_lt.mp (Int.lt_of_lt_of_le b h2))) hp
theorem BL.down {ns : List Int} {p : Int → Bool} {lo hi : Int} (hS : Srt ns) (hM : Mono p) (h : BL ns p lo hi) (h0 : 0 ≤ lo) (h1 : lo < hi) (h2 : hi ≤ (ns.length : Int)) (hp : p (ns.getD (Int.fdiv (lo + hi) 2).toNat 0) = false) :
    0 ≤ lo ∧ lo ≤ Int.fdiv (lo + hi) 2 ∧ Int.fdiv (lo + hi) 2 ≤ (ns.length : Int) ∧ BL ns p lo (Int.fdiv (lo + hi) 2) := by
  obtain ⟨m, e, a, b⟩ := mid_rng h0 h1
  rw [e] at hp ⊢
  refine ⟨h0, a, Int.le_trans (Int.le_of_lt b) h2, h.1, fun k hk hl => ?_⟩
  cases q : p (ns.getD k 0) with
  | false => rfl
  | true => exact (hM _ _ (hS m k (Int.ofNat_le.mp hk) hl) q).symm.trans hp
noncomputable def ltP (x : Int) : Int → Bool := fun y => decide (y < x)
noncomputable def leP (x : Int) : Int → Bool := fun y => decide (y ≤ x)
theorem ltP_mono (x : Int) : Mono (ltP x) := fun a b h hb => decide_eq_true (Int.lt_of_le_of_lt h (of_decide_eq_true hb))
theorem leP_mono (x : Int) : Mono (leP x) := fun a b h hb => decide_eq_true (Int.le_trans h (of_decide_eq_true hb))
theorem ltP_t {x y : Int} (h : y < x) : ltP x y = true := by simp [ltP, h]
theorem ltP_f {x y : Int} (h : ¬ y < x) : ltP x y = false := by simp [ltP]; omega
theorem leP_t {x y : Int} (h : ¬ x < y) : leP x y = true := by simp [leP]; omega
theorem leP_f {x y : Int} (h : x < y) : leP x y = false := by simp [leP]; omega
local macro_rules | `(tactic| k_memK) => `(tactic| k_extra "mem")
local macro_rules | `(tactic| news_mem) => `(tactic| k_extra "mem")
local macro_rules | `(tactic| k_mem) => `(tactic| k_extra "mem")
local macro_rules | `(tactic| k_all) => `(tactic| k_extra "all")
local macro_rules | `(tactic| k_room) => `(tactic| ktr_room)
local macro_rules | `(tactic| walk_at $s:str) => `(tactic| k_extra $s)
theorem C_bis : (∀ (w : World) (news : List (Addr × Obj)) (row : Addr) (vs : List Value) (ns : List Int) (nn : Nat) (x : Int) (tx : Tok)
  (hrow : (row, listOf vs.toArray nn) ∈ news) (hI : IntsAre vs ns) (hlen : ns.length ≤ 100) (hS : Srt ns), Con w news 83 [.ref row, .int x tx] 1 8 (fun v news' => (∃ t, v = .int (cnt (ltP x) ns) t) ∧ news' = news)) ∧ (∀ (w : World) (news : List (Addr × Obj)) (row : Addr) (vs : List Value) (ns : List Int) (nn : Nat) (x : Int) (tx : Tok) (t0 : Tok)
  (hrow : (row, listOf vs.toArray nn) ∈ news) (hI : IntsAre vs ns) (hlen : ns.length ≤ 100) (hS : Srt ns), Con w news 83 [.ref row, .int x tx, .int 0 t0, .none] 1 8 (fun v news' => (∃ t, v = .int (cnt (ltP x) ns) t) ∧ news' = news)) ∧ (∀ (w : World) (news : List (Addr × Obj)) (row : Addr) (vs : List Value) (ns : List Int) (nn : Nat) (x : Int) (tx : Tok)
  (hrow : (row, listOf vs.toArray nn) ∈ news) (hI : IntsAre vs ns) (hlen : ns.length ≤ 100) (hS : Srt ns), Con w news 65 [.ref row, .int x tx] 1 8 (fun v news' => (∃ t, v = .int (cnt (leP x) ns) t) ∧ news' = news)) := by
  refine ⟨?_, ?_, ?_⟩
  · intro w news row vs ns nn x tx hrow hI hlen hS
    w_top off
    k_with_none
    k_with "mem" => first | (with_reducible assumption) | ((repeat (first | exact List.Mem.head _ | refine List.Mem.tail _ ?_)); (try assumption); done)
    k_with "state" => first | exact BL.start | exact BL.up hS (ltP_mono _) (by assumption) (by assumption) (by assumption) (by assumption) (ltP_t (by assumption)) | exact BL.down hS (ltP_mono _) (by assumption) (by assumption) (by assumption) (by assumption) (ltP_f (by assumption))
    k_with "measure" => rw [Int.fdiv_eq_ediv_of_nonneg _ (by omega)]; omega
    k_with "exec While Compare cons nil" => k_while_given ["x"] (fun x ns lo hi => 0 ≤ lo ∧ lo ≤ hi ∧ hi ≤ (ns.length : Int) ∧ BL ns (ltP x) lo hi) (fun x ns lo hi => (hi - lo).toNat) "lo" "hi"
    unfold Con
    k_fill
    intro p loose mean mg mb dp un gd cn csn csg csc csm a ccd cl outer A₀ base h₀ L m s Q E hB hF hX hN hT hC1 hC2 hdp hun hret
    k_steps
    all_goals exact hret _ _ _ _ ⟨ktn_int (BL.done (by assumption) (by assumption) (by assumption) (by assumption) (by assumption)), rfl⟩ (by k_asm) (by k_asm)
  · intro w news row vs ns nn x tx t0 hrow hI hlen hS
    w_top off
    k_with_none
    k_with "mem" => first | (with_reducible assumption) | ((repeat (first | exact List.Mem.head _ | refine List.Mem.tail _ ?_)); (try assumption); done)
    k_with "state" => first | exact BL.start | exact BL.up hS (ltP_mono _) (by assumption) (by assumption) (by assumption) (by assumption) (ltP_t (by assumption)) | exact BL.down hS (ltP_mono _) (by assumption) (by assumption) (by assumption) (by assumption) (ltP_f (by assumption))
    k_with "measure" => rw [Int.fdiv_eq_ediv_of_nonneg _ (by omega)]; omega
    k_with "exec While Compare cons nil" => k_while_given ["x"] (fun x ns lo hi => 0 ≤ lo ∧ lo ≤ hi ∧ hi ≤ (ns.length : Int) ∧ BL ns (ltP x) lo hi) (fun x ns lo hi => (hi - lo).toNat) "lo" "hi"
    unfold Con
    k_fill
    intro p loose mean mg mb dp un gd cn csn csg csc csm a ccd cl outer A₀ base h₀ L m s Q E hB hF hX hN hT hC1 hC2 hdp hun hret
    k_steps
    all_goals exact hret _ _ _ _ ⟨ktn_int (BL.done (by assumption) (by assumption) (by assumption) (by assumption) (by assumption)), rfl⟩ (by k_asm) (by k_asm)
  · intro w news row vs ns nn x tx hrow hI hlen hS
    w_top off
    k_with_none
    k_with "mem" => first | (with_reducible assumption) | ((repeat (first | exact List.Mem.head _ | refine List.Mem.tail _ ?_)); (try assumption); done)
    k_with "state" => first | exact BL.start | exact BL.up hS (leP_mono _) (by assumption) (by assumption) (by assumption) (by assumption) (leP_t (by assumption)) | exact BL.down hS (leP_mono _) (by assumption) (by assumption) (by assumption) (by assumption) (leP_f (by assumption))
    k_with "measure" => rw [Int.fdiv_eq_ediv_of_nonneg _ (by omega)]; omega
    k_with "exec While Compare cons nil" => k_while_given ["x"] (fun x ns lo hi => 0 ≤ lo ∧ lo ≤ hi ∧ hi ≤ (ns.length : Int) ∧ BL ns (leP x) lo hi) (fun x ns lo hi => (hi - lo).toNat) "lo" "hi"
    unfold Con
    k_fill
    intro p loose mean mg mb dp un gd cn csn csg csc csm a ccd cl outer A₀ base h₀ L m s Q E hB hF hX hN hT hC1 hC2 hdp hun hret
    k_steps
    all_goals exact hret _ _ _ _ ⟨ktn_int (BL.done (by assumption) (by assumption) (by assumption) (by assumption) (by assumption)), rfl⟩ (by k_asm) (by k_asm)
theorem C_bl2 (w : World) (news : List (Addr × Obj)) (row : Addr) (vs : List Value) (ns : List Int) (nn : Nat) (x : Int) (tx : Tok)
  (hrow : (row, listOf vs.toArray nn) ∈ news) (hI : IntsAre vs ns) (hlen : ns.length ≤ 100) (hS : Srt ns) : Con w news 83 [.ref row, .int x tx] 1 8 (fun v news' => (∃ t, v = .int (cnt (ltP x) ns) t) ∧ news' = news) :=
  C_bis.1 w news row vs ns nn x tx hrow hI hlen hS
theorem C_bl4 (w : World) (news : List (Addr × Obj)) (row : Addr) (vs : List Value) (ns : List Int) (nn : Nat) (x : Int) (tx : Tok) (t0 : Tok)
  (hrow : (row, listOf vs.toArray nn) ∈ news) (hI : IntsAre vs ns) (hlen : ns.length ≤ 100) (hS : Srt ns) : Con w news 83 [.ref row, .int x tx, .int 0 t0, .none] 1 8 (fun v news' => (∃ t, v = .int (cnt (ltP x) ns) t) ∧ news' = news) :=
  C_bis.2.1 w news row vs ns nn x tx t0 hrow hI hlen hS
theorem C_br2 (w : World) (news : List (Addr × Obj)) (row : Addr) (vs : List Value) (ns : List Int) (nn : Nat) (x : Int) (tx : Tok)
  (hrow : (row, listOf vs.toArray nn) ∈ news) (hI : IntsAre vs ns) (hlen : ns.length ≤ 100) (hS : Srt ns) : Con w news 65 [.ref row, .int x tx] 1 8 (fun v news' => (∃ t, v = .int (cnt (leP x) ns) t) ∧ news' = news) :=
  C_bis.2.2 w news row vs ns nn x tx hrow hI hlen hS
theorem Con.use {w : World} {news : List (Addr × Obj)} {f : Addr} {args : List Value} {D U : Nat} {R : Value → List (Addr × Obj) → Prop} (C : Con w news f args D U R)
    {p : Program} {loose : List Str} {mean : ExcName → Option Value} {mg mb : Str → Option Value} {dp un : Nat} {gd : Option (List Code)} {cn : Str} {csn : List (Str × NameKind)} {csg csc : Bool} {csm : List (Str × Const)} {a : Addr} {ccd : Value} {cl : List (Str × Addr)} {outer : List Env} {A₀ : Around} {base h₀ : Heap} {L : Addr} {m : Str → Option Value} {s : Shared} {Q E : Value → Shared → Prop}
    (hB : Below A₀ base outer h₀) (hF : Fr h₀ L s.heap m) (hX : (hd.heap_39 w.params).In h₀) (hN : News h₀ L s.heap news) (hT : Top p loose mean mg mb h₀) (hC1 : CodeHd base 41 37) (hC2 : CodeHd base 34 30) (hdp : dp + D < recursionLimit) (hun : un + U < cLine)
    (hret : ∀ v news' h' tk', R v news' → Fr h₀ L h' m → News h₀ L h' news' → Q v { s with heap := h', toks := tk' }) :
    wpAny (model PySem.Challenge.rw_wf0062_01.row.prog w) (ktrTop dp un gd cn { kind := .function, names := csn, isGenerator := csg, isCoroutine := csc, more := csm } L a ccd cl outer) (call (.ref f) args) Q E s :=
  C p loose mean mg mb dp un gd cn csn csg csc csm a ccd cl outer A₀ base h₀ L m s Q E hB hF hX hN hT hC1 hC2 hdp hun hret
noncomputable def ins (x : Int) (ns : List Int) : List Int := ns.take (cnt (ltP x) ns).toNat ++ x :: ns.drop (cnt (ltP x) ns).toNat
theorem cnt_nonneg (p : Int → Bool) (ns : List Int) : 0 ≤ cnt p ns := by unfold cnt; omega
theorem cnt_le (p : Int → Bool) (ns : List Int) : cnt p ns ≤ (ns.length : Nat) := by unfold cnt; have := List.length_filter_le p ns; omega
theorem ints_ins {vs : List Value} {ns : List Int} {x : Int} {t : Tok} (h : IntsAre vs ns) : IntsAre (kl_ins vs (cnt (ltP x) ns) (.int x t)) (ins x ns) := by
  have h1 := cnt_nonneg (ltP x) ns
  have h2 := cnt_le (ltP x) ns
  have hl := h.length
  unfold kl_ins ins
  rw [if_neg (by omega), Nat.min_eq_left (by omega)]
  exact (h.take _).append (.cons _ _ (h.drop _))
theorem fits_cnt {p : Int → Bool} {ns : List Int} (h : ns.length ≤ 100) : Builtin.List.listFitsIndex (cnt p ns) = true := by
  have h1 := cnt_nonneg p ns
  have h2 := cnt_le p ns
  unfold Builtin.List.listFitsIndex
  simp only [Bool.and_eq_true, decide_eq_true_eq]
  omega
theorem room_ints {vs : List Value} {ns : List Int} (h : IntsAre vs ns) (hl : ns.length ≤ 100) : vs.toArray.toList.length ≤ sizeLine := by
  have := h.length
  rw [sizeLine_eq]; simp; omega
theorem C_ins (w : World) (news : List (Addr × Obj)) (row : Addr) (vs : List Value) (ns : List Int) (nn : Nat) (x : Int) (tx : Tok)
  (hne : ∀ p ∈ news, p.1 ≠ row) (hI : IntsAre vs ns) (hlen : ns.length ≤ 100) (hS : Srt ns) :
  Con w ((row, listOf vs.toArray nn) :: news) 74 [.ref row, .int x tx] 2 16 (fun v news' => v = .none ∧ ∃ vs' nn', news' = (row, listOf vs'.toArray nn') :: news ∧ IntsAre vs' (ins x ns)) := by
  unfold Con
  w_top off
  k_with_none
  k_with "mem" => first | (with_reducible assumption) | ((repeat (first | exact List.Mem.head _ | refine List.Mem.tail _ ?_)); (try assumption); done)
  k_with "call ref" => ((with_reducible show wpAny _ _ (call (Value.ref 83) [_, _, _, _]) _ _ _); k_dflt (refine' Con.use (C_bl4 _ _ _ _ _ _ _ _ _ ?h1 ?h2 ?h3 ?h4) ?k1 ?k2 ?k3 ?k4 ?k5 ?k6 ?k7 ?k8 ?k9 ?_; (case k1 => k_asm); (case k2 => k_asm); (case k3 => k_asm); (case k4 => k_asm); (case k5 => k_asm); (case k6 => k_asm); (case k7 => k_asm); (case h1 => k_mem); (case h2 => k_asm); (case h3 => k_asm); (case h4 => k_asm); (case k8 => ktr_room); (case k9 => ktr_units); k_whole); intro v9 n9 h9 tk9 hR9 F9 N9; obtain ⟨⟨t9, e9⟩, f9⟩ := hR9; subst e9; subst f9; (try dsimp only); (try k_fold))
  k_with "call builtin:list.insert" => ((with_reducible show wpAny _ _ (call (Value.builtin _) [Value.ref _, Value.int _ _, _]) _ _ _); k_dflt (refine' kl_insert ?F ?N ?f rfl (Upd.head ?U) ?z ?_; (case F => k_asm); (case N => k_asm); (case U => k_asm); (case f => exact fits_cnt (by assumption)); (case z => exact room_ints (by assumption) (by assumption))); kl_rest)
  k_fill
  intro p loose mean mg mb dp un gd cn csn csg csc csm a ccd cl outer A₀ base h₀ L m s Q E hB hF hX hN hT hC1 hC2 hdp hun hret
  k_steps
  all_goals exact hret _ _ _ _ ⟨rfl, _, _, rfl, ints_ins hI⟩ (by k_asm) (by k_asm)
theorem allLt_ne {d e : Nat} : ∀ {l : List (Addr × Obj)}, AllLt d l → d ≤ e → ∀ p ∈ l, p.1 ≠ e
  | [], _, _, _, hp => nomatch hp
  | q :: r, h, hd, p, hp => by
    rcases List.mem_cons.mp hp with rfl | hp
    · exact Nat.ne_of_lt (Nat.lt_of_lt_of_le h.1 hd)
    · exact allLt_ne h.2 hd p hp
theorem ne_of_gt37 {news : List (Addr × Obj)} (h : ∀ p ∈ news, 37 < p.1) : ∀ p ∈ news, p.1 ≠ 37 := fun p hp => Nat.ne_of_gt (h p hp)
theorem ne_of_gt30 {news : List (Addr × Obj)} (h : ∀ p ∈ news, 37 < p.1) : ∀ p ∈ news, p.1 ≠ 30 := fun p hp => Nat.ne_of_gt (Nat.lt_trans (by decide) (h p hp))
noncomputable def stmtAt (i j : Nat) : Option Stmt := match PySem.Challenge.pw_wf0062_01.main.body[i]? with
  | some (.FunctionDef _ _ b _ _ _ _ _ _ _) => b[j]?
  | _ => none
section
variable {prog : Program} {w : World} {A : Around} {E : Value → Shared → Prop} {s : Shared} {a b n : Int} {t u : Tok}
theorem rshift_one {Q : Value → Shared → Prop} (h : Q (.int (a / 2) s.toks) { s with toks := s.toks + 1 }) : wpAny (model prog w) A (binaryOp .RShift (.int a t) (.int 1 u)) Q E s := by
  refine rshift_int (by decide) ?_
  have e : a.fdiv (2 ^ (1 : Int).toNat) = a / 2 := Int.fdiv_eq_ediv_of_nonneg _ (by decide)
  rw [e]; exact h
theorem mul_small {Q : Value → Shared → Prop} (h1 : -(2 ^ 63) < a) (h2 : a < 2 ^ 63) (h : Q (.int (a * b) s.toks) { s with toks := s.toks + 1 }) : wpAny (model prog w) A (binaryOp .Mult (.int a t) (.int b u)) Q E s :=
  mul_int h (.of_left (intBits_le_64 (by omega) (by omega)))
end
theorem mul_bnd {a n : Int} (h0 : 0 ≤ a) (h1 : a ≤ 200) (h2 : 0 ≤ n) (h3 : n ≤ 10) : 0 ≤ a * n ∧ a * n ≤ 2000 :=
  ⟨Int.mul_nonneg h0 h2, Int.le_trans (Int.mul_le_mul h1 h3 h2 (by omega)) (by omega)⟩
noncomputable def vd (n : Int) : List Int → Int
  | [] => 0
  | d :: r => d + vd n r * 2 ^ n.toNat
noncomputable def seg (ns : List Int) (i k : Nat) : List Int := (ns.drop i).take k
theorem vd_append (n : Int) : ∀ xs ys : List Int, vd n (xs ++ ys) = vd n xs + vd n ys * 2 ^ (n.toNat * xs.length)
  | [], ys => by simp [vd]
  | d :: r, ys => by
    rw [List.cons_append, vd, vd, vd_append n r ys, List.length_cons, Nat.mul_add, Nat.mul_one, Int.pow_add, Int.add_mul, Int.mul_assoc]
    omega
theorem seg_split (ns : List Int) (i j k : Nat) : seg ns i (j + k) = seg ns i j ++ seg ns (i + j) k := by
  unfold seg
  rw [List.take_add, List.drop_drop]
theorem seg_len {ns : List Int} {i k : Nat} (h : i + k ≤ ns.length) : (seg ns i k).length = k := by
  unfold seg
  rw [List.length_take_of_le]
  rw [List.length_drop]
  exact Nat.le_sub_of_add_le (by rw [Nat.add_comm]; exact h)
theorem seg_one {ns : List Int} {i : Nat} (h : i < ns.length) : seg ns i 1 = [ns.getD i 0] := by
  unfold seg
  rw [List.drop_eq_getElem_cons h, List.take_succ_cons, List.take_zero]
  simp [List.getD, h]
theorem vd_seg_one {ns : List Int} {i : Nat} (n : Int) (h : i < ns.length) : vd n (seg ns i 1) = ns.getD i 0 := by rw [seg_one h]; simp [vd]
theorem tn_sub {a : Int} (k : Nat) : (a + (k : Int) - a).toNat = k := by rw [Int.add_comm, Int.add_sub_cancel]; rfl
theorem tn_add {a : Int} {k : Nat} (h : 0 ≤ a) : (a + (k : Int)).toNat = a.toNat + k := Int.toNat_add h (Int.natCast_nonneg k)
theorem tn3 {lo mid hi : Int} (h1 : lo ≤ mid) (h2 : mid ≤ hi) : (hi - lo).toNat = (mid - lo).toNat + (hi - mid).toNat := by
  obtain ⟨a, rfl⟩ := Int.le.dest h1
  obtain ⟨b, rfl⟩ := Int.le.dest h2
  rw [tn_sub, tn_sub, Int.add_assoc, ← Int.natCast_add, tn_sub]
theorem tn2 {lo mid : Int} (h0 : 0 ≤ lo) (h1 : lo ≤ mid) : mid.toNat = lo.toNat + (mid - lo).toNat := by
  obtain ⟨a, rfl⟩ := Int.le.dest h1
  rw [tn_sub, tn_add h0]
theorem tn_le {a : Int} {n : Nat} (h : a ≤ (n : Nat)) : a.toNat ≤ n := Int.toNat_le.mpr h
theorem tnsum {lo mid hi : Int} {n : Nat} (h0 : 0 ≤ lo) (h1 : lo ≤ mid) (h2 : mid ≤ hi) (h3 : hi ≤ (n : Nat)) : lo.toNat + (mid - lo).toNat + (hi - mid).toNat ≤ n := by
  rw [← tn2 h0 h1, ← tn2 (Int.le_trans h0 h1) h2]; exact tn_le h3
theorem sh_eq {n a b : Int} (hn : 0 ≤ n) (h : a ≤ b) : ((b - a) * n).toNat = n.toNat * (b - a).toNat := by rw [Int.mul_comm, Int.toNat_mul hn (Int.sub_nonneg_of_le h)]
theorem vd_seg {ns : List Int} {n lo mid hi : Int} (hn : 0 ≤ n) (h0 : 0 ≤ lo) (h1 : lo ≤ mid) (h2 : mid ≤ hi) (h3 : hi ≤ (ns.length : Nat)) :
    vd n (seg ns lo.toNat (hi - lo).toNat) = vd n (seg ns mid.toNat (hi - mid).toNat) * 2 ^ ((mid - lo) * n).toNat + vd n (seg ns lo.toNat (mid - lo).toNat) := by
  rw [tn3 h1 h2, seg_split, vd_append, ← tn2 h0 h1, seg_len (Nat.le_trans (Nat.le_add_right _ _) (tnsum h0 h1 h2 h3)), ← sh_eq hn h1, Int.add_comm]
noncomputable def In2 (w : World) (led : List (Addr × Obj)) (f : Addr) (ns : List Int) (n lo hi : Int) (k : Nat) : Prop :=
  ∀ (t1 t2 : Tok), Con w led f [.int lo t1, .int hi t2] k (8 * k) (fun v n' => (∃ t, v = .int (vd n (seg ns lo.toNat (hi - lo).toNat)) t) ∧ n' = led)
theorem C_inner2 (w : World) {led : List (Addr × Obj)} {name qual : Str} {params : Arguments} {body : List Stmt} {scope : Scope} {pos : Pos} {doc pm ctv : Value} {f c' d cD cI cN : Addr} {oc oD oI oN : Obj} {vs0 : Array Value} {t0 tn : Tok} {vs : List Value} {ns : List Int} {nn : Nat} {n : Int}
  (hs : stmtAt 5 0 = some (.FunctionDef name params body [] none [] scope none name pos))
  (hf : (f, fnMade name qual params body scope [(Str.ofString "n", cN), (Str.ofString "inner", cI), (Str.ofString "digits", cD)] doc pm c' ctv) ∈ led)
  (hc : (c', oc) ∈ led) (hoc : oc.data = .fields vs0) (hv : vs0[1]? = some (.str qual t0)) 
  (hD : (cD, oD) ∈ led) (hoD : oD.data = .cell (some (.ref d))) (hI : (cI, oI) ∈ led) (hoI : oI.data = .cell (some (.ref f))) (hN : (cN, oN) ∈ led) (hoN : oN.data = .cell (some (.int n tn)))
  (hd : (d, listOf vs.toArray nn) ∈ led) (hia : IntsAre vs ns) (hlen : ns.length ≤ 100) (hn0 : 0 ≤ n) (hn1 : n ≤ 10) (hbnd : ∀ i k, (vd n (seg ns i k)).natAbs < 2 ^ 64) :
  ∀ (k : Nat) (lo hi : Int), hi - lo < (k : Nat) → lo < hi → 0 ≤ lo → hi ≤ (ns.length : Nat) → In2 w led f ns n lo hi k := by
  cases hs
  intro k
  induction k with
  | zero => intro lo hi h h2; omega
  | succ k IH0 =>
  intro lo hi hk hlh hl0 hhl
  have IH := IH0
  clear IH0
  intro t1 t2
  unfold Con
  w_top off
  k_with_none
  k_with "mem" => first | (with_reducible assumption) | ((repeat (first | exact List.Mem.head _ | refine List.Mem.tail _ ?_)); (try assumption); done)
  k_with "all" => first | assumption | exact ne_of_gt37 (by assumption) | exact ne_of_gt30 (by assumption) | ((with_reducible rename AllLt _ _ => hA9); first | exact allLt_ne hA9 (by omega) | exact ktn_ltOf hA9 | (clear hA9; k_all)) | ((with_reducible rename _ ∧ _ => hA9); obtain ⟨hA1, hA2⟩ := hA9; k_all)
  k_with "binaryOp RShift int int" => with_unfolding_all refine rshift_one ?_
  k_with "binaryOp Mult int int" => (refine mul_small ?a ?b ?_; (case a => omega); (case b => omega))
  k_with "binaryOp LShift int int" => ((with_reducible refine lshift_int_small ?kb1 ?kb2 ?kb3 ?_); (case kb1 => exact (mul_bnd (by omega) (by omega) (by omega) (by omega)).1); (case kb2 => exact Int.le_trans (mul_bnd (by omega) (by omega) (by omega) (by omega)).2 (by omega)); (case kb3 => exact hbnd _ _))
  k_with "call ref" => ((with_reducible show wpAny _ _ (call (Value.ref _) _) _ _ _); k_dflt (refine' Con.use (IH _ _ ?h1 ?h2 ?h3 ?h4 _ _) ?k1 ?k2 ?k3 ?k4 ?k5 ?k6 ?k7 ?k8 ?k9 ?_; (case k1 => k_asm); (case k2 => k_asm); (case k3 => k_asm); (case k4 => k_asm); (case k5 => k_asm); (case k6 => k_asm); (case k7 => k_asm); (case h1 => omega); (case h2 => omega); (case h3 => omega); (case h4 => omega); (case k8 => ktr_room); (case k9 => ktr_units); k_whole); intro v9 n9 h9 tk9 hR9 F9 N9; obtain ⟨⟨t9, e9⟩, f9⟩ := hR9; subst e9; rw [f9] at N9; clear f9 n9; (try dsimp only); (try k_fold))
  k_fill
  intro p loose mean mg mb dp un gd cn csn csg csc csm a ccd cl outer A₀ base h₀ L m s Q E hB hF hX hN hT hC1 hC2 hdp hun hret
  k_steps
  · have e1 : (hi - lo).toNat = 1 := by omega
    exact hret _ _ _ _ ⟨ktn_int (by rw [e1, vd_seg_one n (by omega)]), rfl⟩ (by k_asm) (by k_asm)
  · exact hret _ _ _ _ ⟨ktn_int (vd_seg hn0 hl0 (by omega) (by omega) hhl).symm, rfl⟩ (by k_asm) (by k_asm)
abbrev q2 : Str := Str.ofString "_digits2int.<locals>.inner"
abbrev tab2 (c' : Addr) : Obj := tabObj (#[] ++ #[rawInt 47, rawInt 4, .ref c'])
theorem seg_all (ns : List Int) : seg ns 0 ns.length = ns := by unfold seg; simp
theorem vd_all {ns : List Int} {n : Int} : vd n (seg ns (Int.toNat 0) (Int.toNat ((ns.length : Nat) - 0))) = vd n ns := by
  rw [Int.sub_zero]; exact congrArg (vd n) (seg_all ns)
theorem vd_nil {ns : List Int} {n : Int} (h : ¬ 0 < ns.length) : (0 : Int) = vd n ns := by
  cases ns with
  | nil => rfl
  | cons a r => simp at h
theorem sub2 {a b : Addr × Obj} {l led : List (Addr × Obj)} (h1 : a ∈ led) (h2 : b ∈ led) (h3 : ∀ p ∈ l, p ∈ led) : ∀ p ∈ a :: b :: l, p ∈ led :=
  List.forall_mem_cons.mpr ⟨h1, List.forall_mem_cons.mpr ⟨h2, h3⟩⟩
theorem C_d2i_both : (∀ (w : World) (news : List (Addr × Obj)) (d : Addr) (vs : List Value) (ns : List Int) (nn : Nat) (n : Int) (tn : Tok)
  (hne : ∀ p ∈ news, p.1 ≠ 37) (hi : IntsAre vs ns) (hlen : ns.length ≤ 100) (hd : (d, listOf vs.toArray nn) ∈ news) (hn0 : 0 ≤ n) (hn1 : n ≤ 10) (hbnd : ∀ i k, (vd n (seg ns i k)).natAbs < 2 ^ 64), Con w ((37, tabObj #[]) :: news) 42 [.ref d, .int n tn] (ns.length + 2) (8 * (ns.length + 2)) (fun v n' => (∃ t, v = .int (vd n ns) t) ∧ ∃ c' oc vs0 t0, n' = (37, tab2 c') :: (c', oc) :: news ∧ oc.data = .fields vs0 ∧ vs0[1]? = some (.str q2 t0) ∧ 37 < c' ∧ ∀ p ∈ news, p.1 < c')) ∧ (∀ (w : World) (news : List (Addr × Obj)) (c' : Addr) (oc : Obj) (vs0 : Array Value) (t0 : Tok) (d : Addr) (vs : List Value) (ns : List Int) (nn : Nat) (n : Int) (tn : Tok)
  (hne : ∀ p ∈ news, p.1 ≠ 37) (hoc : oc.data = .fields vs0) (hv : vs0[1]? = some (.str q2 t0)) (hi : IntsAre vs ns) (hlen : ns.length ≤ 100) (hd : (d, listOf vs.toArray nn) ∈ news) (hn0 : 0 ≤ n) (hn1 : n ≤ 10) (hbnd : ∀ i k, (vd n (seg ns i k)).natAbs < 2 ^ 64), Con w ((37, tab2 c') :: (c', oc) :: news) 42 [.ref d, .int n tn] (ns.length + 2) (8 * (ns.length + 2)) (fun v n' => (∃ t, v = .int (vd n ns) t) ∧ n' = (37, tab2 c') :: (c', oc) :: news)) := by
  refine ⟨?_, ?_⟩
  · intro w news d vs ns nn n tn hne hi hlen hd hn0 hn1 hbnd
    unfold Con
    w_top off
    k_with_none
    k_with "mem" => first | (with_reducible assumption) | ((repeat (first | exact List.Mem.head _ | refine List.Mem.tail _ ?_)); (try assumption); done)
    k_with "all" => first | assumption | exact ne_of_gt37 (by assumption) | exact ne_of_gt30 (by assumption) | ((with_reducible rename AllLt _ _ => hA9); first | exact allLt_ne hA9 (by omega) | exact ktn_ltOf hA9 | (clear hA9; k_all)) | ((with_reducible rename _ ∧ _ => hA9); obtain ⟨hA1, hA2⟩ := hA9; k_all)
    k_with "call ref" => ((with_reducible show wpAny _ _ (call (Value.ref _) [Value.int _ _, Value.int _ _]) _ _ _); k_dflt (refine' Con.use (C_inner2 w ?hs ?hf ?hc ?hoc ?hv ?hD ?hoD ?hI ?hoI ?hN ?hoN ?hd ?hia ?hlen ?hn0 ?hn1 ?hbnd (ns.length + 1) _ _ (by omega) ?q1 ?q2 ?q3 _ _) ?k1 ?k2 ?k3 ?k4 ?k5 ?k6 ?k7 ?k8 ?k9 ?_; (case k1 => k_asm); (case k2 => k_asm); (case k3 => k_asm); (case k4 => k_asm); (case k5 => k_asm); (case k6 => k_asm); (case k7 => k_asm); (case hf => k_mem); (case hs => rfl); (case hc => k_mem); (case hoc => with_unfolding_all assumption); (case hv => with_unfolding_all assumption); (case hD => k_mem); (case hoD => with_unfolding_all assumption); (case hI => k_mem); (case hoI => with_unfolding_all assumption); (case hN => k_mem); (case hoN => with_unfolding_all assumption); (case hd => k_mem); (case hia => k_asm); (case hlen => k_asm); (case hn0 => k_asm); (case hn1 => k_asm); (case hbnd => exact hbnd); (case q1 => omega); (case q2 => omega); (case q3 => omega); (case k8 => ktr_room); (case k9 => ktr_units); k_whole); intro v9 n9 h9 tk9 hR9 F9 N9; obtain ⟨⟨t9, e9⟩, f9⟩ := hR9; subst e9; rw [f9] at N9; clear f9 n9; (try dsimp only); (try k_fold))
    k_fill
    intro p loose mean mg mb dp un gd cn csn csg csc csm a ccd cl outer A₀ base h₀ L m s Q E hB hF hX hN hT hC1 hC2 hdp hun hret
    k_steps
    · refine' hret _ _ _ _ ⟨ktn_int ?e0, _, _, _, _, rfl, ?a0, ?b0, ?c0⟩ ?F0 (cb_drop ?N0 (sub2 ?S10 ?S20 ?S30))
      (case F0 => k_asm); (case N0 => k_asm); (case S10 => k_mem); (case S20 => k_mem); (case S30 => intro p hp; k_mem)
      (case a0 => with_unfolding_all assumption); (case b0 => with_unfolding_all assumption); (case c0 => exact ⟨by refine ltN ?_; omega, by k_all⟩); (case e0 => first | exact vd_all | exact vd_nil (by assumption))
    · refine' hret _ _ _ _ ⟨ktn_int ?e1, _, _, _, _, rfl, ?a1, ?b1, ?c1⟩ ?F1 (cb_drop ?N1 (sub2 ?S11 ?S21 ?S31))
      (case F1 => k_asm); (case N1 => k_asm); (case S11 => k_mem); (case S21 => k_mem); (case S31 => intro p hp; k_mem)
      (case a1 => with_unfolding_all assumption); (case b1 => with_unfolding_all assumption); (case c1 => exact ⟨by refine ltN ?_; omega, by k_all⟩); (case e1 => first | exact vd_all | exact vd_nil (by assumption))
  · intro w news c' oc vs0 t0 d vs ns nn n tn hne hoc hv hi hlen hd hn0 hn1 hbnd
    unfold Con
    w_top off
    k_with_none
    k_with "mem" => first | (with_reducible assumption) | ((repeat (first | exact List.Mem.head _ | refine List.Mem.tail _ ?_)); (try assumption); done)
    k_with "all" => first | assumption | exact ne_of_gt37 (by assumption) | exact ne_of_gt30 (by assumption) | ((with_reducible rename AllLt _ _ => hA9); first | exact allLt_ne hA9 (by omega) | exact ktn_ltOf hA9 | (clear hA9; k_all)) | ((with_reducible rename _ ∧ _ => hA9); obtain ⟨hA1, hA2⟩ := hA9; k_all)
    k_with "call ref" => ((with_reducible show wpAny _ _ (call (Value.ref _) [Value.int _ _, Value.int _ _]) _ _ _); k_dflt (refine' Con.use (C_inner2 w ?hs ?hf ?hc ?hoc ?hv ?hD ?hoD ?hI ?hoI ?hN ?hoN ?hd ?hia ?hlen ?hn0 ?hn1 ?hbnd (ns.length + 1) _ _ (by omega) ?q1 ?q2 ?q3 _ _) ?k1 ?k2 ?k3 ?k4 ?k5 ?k6 ?k7 ?k8 ?k9 ?_; (case k1 => k_asm); (case k2 => k_asm); (case k3 => k_asm); (case k4 => k_asm); (case k5 => k_asm); (case k6 => k_asm); (case k7 => k_asm); (case hf => k_mem); (case hs => rfl); (case hc => k_mem); (case hoc => with_unfolding_all assumption); (case hv => with_unfolding_all assumption); (case hD => k_mem); (case hoD => with_unfolding_all assumption); (case hI => k_mem); (case hoI => with_unfolding_all assumption); (case hN => k_mem); (case hoN => with_unfolding_all assumption); (case hd => k_mem); (case hia => k_asm); (case hlen => k_asm); (case hn0 => k_asm); (case hn1 => k_asm); (case hbnd => exact hbnd); (case q1 => omega); (case q2 => omega); (case q3 => omega); (case k8 => ktr_room); (case k9 => ktr_units); k_whole); intro v9 n9 h9 tk9 hR9 F9 N9; obtain ⟨⟨t9, e9⟩, f9⟩ := hR9; subst e9; rw [f9] at N9; clear f9 n9; (try dsimp only); (try k_fold))
    k_fill
    intro p loose mean mg mb dp un gd cn csn csg csc csm a ccd cl outer A₀ base h₀ L m s Q E hB hF hX hN hT hC1 hC2 hdp hun hret
    k_steps
    · refine' hret _ _ _ _ ⟨ktn_int ?e0, rfl⟩ ?F0 (cb_drop ?N0 (sub2 ?S10 ?S20 ?S30))
      (case F0 => k_asm); (case N0 => k_asm); (case S10 => k_mem); (case S20 => k_mem); (case S30 => intro p hp; k_mem); (case e0 => first | exact vd_all | exact vd_nil (by assumption))
    · refine' hret _ _ _ _ ⟨ktn_int ?e1, rfl⟩ ?F1 (cb_drop ?N1 (sub2 ?S11 ?S21 ?S31))
      (case F1 => k_asm); (case N1 => k_asm); (case S11 => k_mem); (case S21 => k_mem); (case S31 => intro p hp; k_mem); (case e1 => first | exact vd_all | exact vd_nil (by assumption))
theorem C_d2i_first (w : World) (news : List (Addr × Obj)) (d : Addr) (vs : List Value) (ns : List Int) (nn : Nat) (n : Int) (tn : Tok)
  (hne : ∀ p ∈ news, p.1 ≠ 37) (hi : IntsAre vs ns) (hlen : ns.length ≤ 100) (hd : (d, listOf vs.toArray nn) ∈ news) (hn0 : 0 ≤ n) (hn1 : n ≤ 10) (hbnd : ∀ i k, (vd n (seg ns i k)).natAbs < 2 ^ 64) : Con w ((37, tabObj #[]) :: news) 42 [.ref d, .int n tn] (ns.length + 2) (8 * (ns.length + 2)) (fun v n' => (∃ t, v = .int (vd n ns) t) ∧ ∃ c' oc vs0 t0, n' = (37, tab2 c') :: (c', oc) :: news ∧ oc.data = .fields vs0 ∧ vs0[1]? = some (.str q2 t0) ∧ 37 < c' ∧ ∀ p ∈ news, p.1 < c') :=
  C_d2i_both.1 w news d vs ns nn n tn hne hi hlen hd hn0 hn1 hbnd
theorem C_d2i_hit (w : World) (news : List (Addr × Obj)) (c' : Addr) (oc : Obj) (vs0 : Array Value) (t0 : Tok) (d : Addr) (vs : List Value) (ns : List Int) (nn : Nat) (n : Int) (tn : Tok)
  (hne : ∀ p ∈ news, p.1 ≠ 37) (hoc : oc.data = .fields vs0) (hv : vs0[1]? = some (.str q2 t0)) (hi : IntsAre vs ns) (hlen : ns.length ≤ 100) (hd : (d, listOf vs.toArray nn) ∈ news) (hn0 : 0 ≤ n) (hn1 : n ≤ 10) (hbnd : ∀ i k, (vd n (seg ns i k)).natAbs < 2 ^ 64) : Con w ((37, tab2 c') :: (c', oc) :: news) 42 [.ref d, .int n tn] (ns.length + 2) (8 * (ns.length + 2)) (fun v n' => (∃ t, v = .int (vd n ns) t) ∧ n' = (37, tab2 c') :: (c', oc) :: news) :=
  C_d2i_both.2 w news c' oc vs0 t0 d vs ns nn n tn hne hoc hv hi hlen hd hn0 hn1 hbnd
noncomputable def put (ns : List Int) (i : Nat) (ds : List Int) : List Int := ns.take i ++ ds ++ ns.drop (i + ds.length)
theorem put_len {ns : List Int} {i : Nat} {ds : List Int} (h : i + ds.length ≤ ns.length) : (put ns i ds).length = ns.length := by
  unfold put
  rw [List.length_append, List.length_append, List.length_drop, List.length_take_of_le (Nat.le_trans (Nat.le_add_right _ _) h), Nat.add_sub_cancel' h]
theorem put_one {ns : List Int} {i : Nat} {x : Int} (h : i < ns.length) : ns.set i x = put ns i [x] := by
  unfold put
  rw [List.set_eq_take_append_cons_drop, if_pos h]
  simp
theorem put_put {ns : List Int} {i : Nat} {d1 d2 : List Int} (h : i + d1.length + d2.length ≤ ns.length) : put (put ns i d1) (i + d1.length) d2 = put ns i (d1 ++ d2) := by
  have hi : (ns.take i ++ d1).length = i + d1.length := by rw [List.length_append, List.length_take_of_le (Nat.le_trans (Nat.le_add_right _ _) (Nat.le_trans (Nat.le_add_right _ _) h))]
  unfold put
  rw [List.take_left' hi, ← List.drop_drop, List.drop_left' hi, List.drop_drop, List.length_append, Nat.add_assoc, List.append_assoc (List.take i ns) d1 d2]
noncomputable def DG (n x : Int) (ds : List Int) : Prop := vd n ds = x ∧ ∀ e ∈ ds, 0 ≤ e ∧ e < 2 ^ n.toNat
theorem DG.one {n x : Int} (h0 : 0 ≤ x) (h1 : x < 2 ^ n.toNat) : DG n x [x] := ⟨by simp [vd], fun e he => by rw [List.mem_singleton.mp he]; exact ⟨h0, h1⟩⟩
theorem DG.app {n x r q s : Int} {d1 d2 : List Int} (h1 : DG n r d1) (h2 : DG n q d2) (hs : s.toNat = n.toNat * d1.length) (hr : r = x % 2 ^ s.toNat) (hq : q = x / 2 ^ s.toNat) : DG n x (d1 ++ d2) := by
  refine ⟨?_, fun e he => (List.mem_append.mp he).elim (h1.2 e) (h2.2 e)⟩
  rw [vd_append, h1.1, h2.1, ← hs, hr, hq, Int.mul_comm]
  exact Int.emod_add_mul_ediv x _
theorem pow_pos (k : Nat) : (0 : Int) < 2 ^ k := Int.pow_pos (by decide)
theorem r_ok {x r s : Int} (h0 : 0 ≤ x) (h1 : x < 2 ^ 62) (hr : r = x % 2 ^ s.toNat) : 0 ≤ r ∧ r < 2 ^ 62 ∧ r < 2 ^ s.toNat := by
  subst hr
  have hp := pow_pos s.toNat
  have a1 := Int.emod_nonneg x (Int.ne_of_gt hp)
  have a2 := Int.emod_lt_of_pos x hp
  refine ⟨a1, ?_, a2⟩
  have a3 : x % 2 ^ s.toNat ≤ x := by
    have e := Int.emod_add_mul_ediv x (2 ^ s.toNat)
    have : 0 ≤ (2 ^ s.toNat : Int) * (x / 2 ^ s.toNat) := Int.mul_nonneg (Int.le_of_lt hp) (Int.ediv_nonneg h0 (Int.le_of_lt hp))
    omega
  omega
theorem q_ok {x q s : Int} {k : Nat} (h0 : 0 ≤ x) (h1 : x < 2 ^ 62) (hx : x < 2 ^ (s.toNat + k)) (hq : q = x / 2 ^ s.toNat) : 0 ≤ q ∧ q < 2 ^ 62 ∧ q < 2 ^ k := by
  subst hq
  have hp := pow_pos s.toNat
  refine ⟨Int.ediv_nonneg h0 (Int.le_of_lt hp), Int.lt_of_le_of_lt (Int.ediv_le_self _ h0) h1, ?_⟩
  refine Int.ediv_lt_of_lt_mul hp ?_
  rw [← Int.pow_add, Nat.add_comm]
  exact hx
section
variable {prog : Program} {w : World} {A : Around} {E : Value → Shared → Prop} {s : Shared} {x q n : Int} {t u : Tok}
theorem shr_q {Q : Value → Shared → Prop} (hs : 0 ≤ n) (h : ∀ q : Int, q = x / 2 ^ n.toNat → Q (.int q s.toks) { s with toks := s.toks + 1 }) : wpAny (model prog w) A (binaryOp .RShift (.int x t) (.int n u)) Q E s := by
  refine rshift_int hs ?_
  rw [Int.fdiv_eq_ediv_of_nonneg _ (Int.le_of_lt (pow_pos _))]
  exact h _ rfl
theorem bits_low (a k : Nat) : a &&& (a / 2 ^ k * 2 ^ k) = a / 2 ^ k * 2 ^ k := by
  apply Nat.eq_of_testBit_eq
  intro i
  rw [Nat.testBit_and, ← Nat.shiftRight_eq_div_pow, ← Nat.shiftLeft_eq, Nat.testBit_shiftLeft, Nat.testBit_shiftRight]
  by_cases h : k ≤ i
  · have e : k + (i - k) = i := by omega
    rw [e]; simp [h]
  · simp [h]
theorem xor_low {x : Int} {k : Nat} (h : 0 ≤ x) : Builtin.bitXor x (x / 2 ^ k * 2 ^ k) = x % 2 ^ k := by
  obtain ⟨a, rfl⟩ := Int.eq_ofNat_of_zero_le h
  have e : ((a : Nat) : Int) / 2 ^ k * 2 ^ k = ((a / 2 ^ k * 2 ^ k : Nat) : Int) := by simp
  have e2 : ((a : Nat) : Int) % 2 ^ k = ((a % 2 ^ k : Nat) : Int) := by simp
  rw [bitXor_and, e, e2]
  have e3 : Builtin.bitAnd ((a : Nat) : Int) ((a / 2 ^ k * 2 ^ k : Nat) : Int) = ((a &&& (a / 2 ^ k * 2 ^ k) : Nat) : Int) := by
    unfold Builtin.bitAnd
    rw [decide_eq_true (Int.natCast_nonneg _), decide_eq_true (Int.natCast_nonneg _)]
    simp only [Int.toNat_natCast]
  rw [e3, bits_low]
  have := Nat.mod_add_div a (2 ^ k)
  rw [Nat.mul_comm] at this
  omega
theorem xor_r {Q : Value → Shared → Prop} (h0 : 0 ≤ x) (hq : q = x / 2 ^ n.toNat) (h : ∀ r : Int, r = x % 2 ^ n.toNat → Q (.int r s.toks) { s with toks := s.toks + 1 }) : wpAny (model prog w) A (binaryOp .BitXor (.int x t) (.int (q * 2 ^ n.toNat) u)) Q E s := by
  subst hq
  refine xor_int ?_
  rw [xor_low h0]
  exact h _ rfl
end
noncomputable def Held (P : Prop) : Prop := P
theorem hold {P : Prop} (h : Held P) : P := h
noncomputable def In1 (w : World) (led : List (Addr × Obj)) (d f : Addr) (len nn : Nat) (n lo hi : Int) (k : Nat) : Prop :=
  ∀ (x : Int) (tx t1 t2 : Tok) (vs : List Value) (ns : List Int), 0 ≤ x → x < 2 ^ 62 → x < 2 ^ (n.toNat * (hi - lo).toNat) → IntsAre vs ns → ns.length = len →
    Con w ((d, listOf vs.toArray nn) :: led) f [.int x tx, .int lo t1, .int hi t2] k (8 * k)
      (fun v n' => v = .none ∧ ∃ vs' ds, n' = (d, listOf vs'.toArray nn) :: led ∧ IntsAre vs' (put ns lo.toNat ds) ∧ ds.length = (hi - lo).toNat ∧ DG n x ds)
theorem pow_split {n lo mid hi : Int} {x : Int} (hn : 0 ≤ n) (h1 : lo ≤ mid) (h2 : mid ≤ hi) (h : x < 2 ^ (n.toNat * (hi - lo).toNat)) : x < 2 ^ (((mid - lo) * n).toNat + n.toNat * (hi - mid).toNat) := by
  rw [sh_eq hn h1, ← Nat.mul_add, ← tn3 h1 h2]; exact h
theorem r_lt {n lo mid r : Int} (hn : 0 ≤ n) (h1 : lo ≤ mid) (h : r < 2 ^ ((mid - lo) * n).toNat) : r < 2 ^ (n.toNat * (mid - lo).toNat) := by rw [← sh_eq hn h1]; exact h
theorem fin1 {led : List (Addr × Obj)} {d : Addr} {len nn : Nat} {n x r q lo mid hi : Int} {ns d1 d2 : List Int} {vs' : List Value} (hxl : ns.length = len) (hn : 0 ≤ n) (hl0 : 0 ≤ lo) (hhl : hi ≤ (len : Nat)) (h1 : lo ≤ mid) (h2 : mid ≤ hi)
  (hi2 : IntsAre vs' (put (put ns lo.toNat d1) mid.toNat d2)) (hl1 : d1.length = (mid - lo).toNat) (hl2 : d2.length = (hi - mid).toNat) (hd1 : DG n r d1) (hd2 : DG n q d2) (hr : r = x % 2 ^ ((mid - lo) * n).toNat) (hq : q = x / 2 ^ ((mid - lo) * n).toNat) :
  Value.none = .none ∧ ∃ vs'' ds, (d, listOf vs'.toArray nn) :: led = (d, listOf vs''.toArray nn) :: led ∧ IntsAre vs'' (put ns lo.toNat ds) ∧ ds.length = (hi - lo).toNat ∧ DG n x ds := by
  subst hxl
  rw [tn2 hl0 h1, ← hl1, put_put (by rw [hl1, hl2]; exact tnsum hl0 h1 h2 hhl)] at hi2
  refine ⟨rfl, _, d1 ++ d2, rfl, hi2, by rw [List.length_append, hl1, hl2, ← tn3 h1 h2], DG.app hd1 hd2 (s := (mid - lo) * n) ?_ hr hq⟩
  rw [sh_eq hn h1, hl1]
theorem C_inner1 (w : World) {led : List (Addr × Obj)} {name qual : Str} {params : Arguments} {body : List Stmt} {scope : Scope} {pos : Pos} {doc pm ctv : Value} {f c' d cD cI cN : Addr} {oc oD oI oN : Obj} {vs0 : Array Value} {t0 tn : Tok} {len nn : Nat} {n : Int}
  (hs : stmtAt 4 1 = some (.FunctionDef name params body [] none [] scope none name pos))
  (hf : (f, fnMade name qual params body scope [(Str.ofString "n", cN), (Str.ofString "inner", cI), (Str.ofString "a_digits", cD)] doc pm c' ctv) ∈ led)
  (hc : (c', oc) ∈ led) (hoc : oc.data = .fields vs0) (hv : vs0[1]? = some (.str qual t0))
  (hD : (cD, oD) ∈ led) (hoD : oD.data = .cell (some (.ref d))) (hI : (cI, oI) ∈ led) (hoI : oI.data = .cell (some (.ref f))) (hN : (cN, oN) ∈ led) (hoN : oN.data = .cell (some (.int n tn)))
  (hne : ∀ p ∈ led, p.1 ≠ d) (hlen : len ≤ 100) (hn0 : 0 ≤ n) (hn1 : n ≤ 10) :
  ∀ (k : Nat) (lo hi : Int), hi - lo < (k : Nat) → lo < hi → 0 ≤ lo → hi ≤ (len : Nat) → In1 w led d f len nn n lo hi k := by
  cases hs
  intro k
  induction k with
  | zero => intro lo hi h h2; omega
  | succ k IH0 =>
  intro lo hi hk hlh hl0 hhl
  have IH := IH0
  clear IH0
  intro x tx t1 t2 vs ns hx0 hx1 hx2 hxi hxl
  unfold Con
  w_top off
  k_with_none
  k_with "mem" => first | (with_reducible assumption) | ((repeat (first | exact List.Mem.head _ | refine List.Mem.tail _ ?_)); (try assumption); done)
  k_with "all" => first | assumption | exact ne_of_gt37 (by assumption) | exact ne_of_gt30 (by assumption) | ((with_reducible rename AllLt _ _ => hA9); first | exact allLt_ne hA9 (by omega) | exact ktn_ltOf hA9 | (clear hA9; k_all)) | ((with_reducible rename _ ∧ _ => hA9); obtain ⟨hA1, hA2⟩ := hA9; k_all)
  k_with "binaryOp RShift int int" => first | (with_reducible refine rshift_one ?_) | (refine shr_q ?a9 (fun q9 hq9 => ?_); (case a9 => exact (mul_bnd (by omega) (by omega) (by omega) (by omega)).1))
  k_with "binaryOp Mult int int" => (refine mul_small ?a ?b ?_; (case a => omega); (case b => omega))
  k_with "binaryOp LShift int int" => ((with_reducible refine lshift_int_small ?kb1 ?kb2 ?kb3 ?_); (case kb1 => exact (mul_bnd (by omega) (by omega) (by omega) (by omega)).1); (case kb2 => exact Int.le_trans (mul_bnd (by omega) (by omega) (by omega) (by omega)).2 (by omega)); (case kb3 => (have hq8 := q_ok hx0 hx1 (pow_split hn0 (by omega) (by omega) hx2) hq9); omega))
  k_with "setItem ref int" => (k_dflt (refine' ksa_set ?k1 ?k2 (Upd.head hne) hxi hl0 ?k6 ?k7 ?_; (case k1 => k_asm); (case k2 => k_asm); (case k6 => omega); (case k7 => omega); k_whole); intro h8 F8 N8 hi8 hl8 hs8)
  k_with "binaryOp BitXor int int" => refine xor_r hx0 hq9 (fun r9 hr9 => ?_)
  k_fill
  intro p loose mean mg mb dp un gd cn csn csg csc csm a ccd cl outer A₀ base h₀ L m s Q E hB hF hX hN hT hC1 hC2 hdp hun hret
  walk1
  k_with "call ref" => ((with_reducible show wpAny _ _ (call (Value.ref _) [Value.int _ _, Value.int _ _, Value.int _ _]) _ _ _); k_dflt (refine' Con.use (IH _ _ ?h1 ?h2 ?h3 ?h4 _ _ _ _ _ _ ?x0 ?x1 ?x2 ?xi ?xl) ?k1 ?k2 ?k3 ?k4 ?k5 ?k6 ?k7 ?k8 ?k9 ?_; (case k1 => k_asm); (case k2 => k_asm); (case k3 => k_asm); (case k4 => k_asm); (case k5 => k_asm); (case k6 => k_asm); (case k7 => k_asm); (case h1 => omega); (case h2 => omega); (case h3 => omega); (case h4 => omega); (case x0 => first | exact (r_ok hx0 hx1 hr9).1 | exact (q_ok hx0 hx1 (pow_split hn0 (by omega) (by omega) hx2) hq9).1); (case x1 => first | exact (r_ok hx0 hx1 hr9).2.1 | exact (q_ok hx0 hx1 (pow_split hn0 (by omega) (by omega) hx2) hq9).2.1); (case x2 => first | exact r_lt hn0 (by omega) (r_ok hx0 hx1 hr9).2.2 | exact (q_ok hx0 hx1 (pow_split hn0 (by omega) (by omega) hx2) hq9).2.2); (case xi => k_asm); (case xl => first | assumption | exact (put_len (by omega)).trans hxl); (case k8 => ktr_room); (case k9 => ktr_units); k_whole); intro v9 n9 h9 tk9 hR9 F9 N9; obtain ⟨e9, vs9, ds9, f9, hia9, hl9, hd9⟩ := hR9; subst e9; subst f9; (try dsimp only); (try k_fold))
  k_steps
  · have e1 : (hi - lo).toNat = 1 := by omega
    exact hret _ _ _ _ ⟨rfl, _, [x], rfl, by rw [← put_one (by omega)]; assumption, by rw [e1]; rfl, DG.one hx0 (by rw [e1, Nat.mul_one] at hx2; exact hx2)⟩ (by k_asm) (by k_asm)
  · exact hret _ _ _ _ (fin1 hxl hn0 hl0 hhl (by omega) (by omega) (by assumption) (by assumption) (by assumption) (by assumption) (by assumption) hr9 hq9) (by k_asm) (by k_asm)
abbrev q1 : Str := Str.ofString "_int2digits.<locals>.inner"
abbrev tab1 (c' : Addr) : Obj := tabObj (#[] ++ #[rawInt 32, rawInt 4, .ref c'])
theorem zeros_mul {prog : Program} {w : World} {A : Around} {E : Value → Shared → Prop} {s : Shared} {h₀ : Heap} {L : Addr} {m : Str → Option Value} {news : List (Addr × Obj)} {l : Addr} {x : Int} {u t0 : Tok} {c0 : Nat} {Q : Value → Shared → Prop}
    (Fm : Fr h₀ L s.heap m) (N : News h₀ L s.heap news) (hm : (l, listOf #[Value.int 0 t0] c0) ∈ news) (len : Nat) (hx : x = (len : Nat)) (hlen : len ≤ 100)
    (h : ∀ D h' vs' ns', Fr h₀ L h' m → News h₀ L h' ((D, listOf (List.toArray vs') 0) :: news) → (∀ p ∈ news, p.1 < D) → IntsAre vs' ns' → ns'.length = len → Q (.ref D) { s with heap := h' }) :
    wpAny (model prog w) A (binaryOp .Mult (.ref l) (.int x u)) Q E s := by
  subst hx
  refine KM.mul (vs := [Value.int 0 t0]) (ns := [0]) Fm N (News.isList N hm) (.cons _ _ .nil) (by omega) (by omega) (by simp; omega) fun D h' F' N' l' i' n _ hn _ hn2 => h D h' _ _ F' N' l' i' ?_
  have := hn2 (by omega)
  simp only [List.length_cons, List.length_nil] at this
  omega
theorem sub3 {x a b : Addr × Obj} {l led : List (Addr × Obj)} (h0 : x ∈ led) (h1 : a ∈ led) (h2 : b ∈ led) (h3 : ∀ p ∈ l, p ∈ led) : ∀ p ∈ x :: a :: b :: l, p ∈ led :=
  List.forall_mem_cons.mpr ⟨h0, sub2 h1 h2 h3⟩
theorem x2_ok {a : Int} {k len m : Nat} (h : a < 2 ^ (k * len)) (e : m = len) : a < 2 ^ (k * m) := by subst e; exact h
theorem len_of3 {l : List Int} {n1 len : Nat} {x : Int} (h : l.length = n1) (e3 : 0 ≤ x → (n1 : Int) = ((0 + 1 : Nat) : Int) * x) (hL : x = (len : Nat)) : l.length = len := by
  have := e3 (by omega)
  omega
theorem put_all {ns ds : List Int} {vs : List Value} (h : IntsAre vs (put ns (Int.toNat 0) ds)) (hl : ds.length = ns.length) : IntsAre vs ds := by
  have e : put ns (Int.toNat 0) ds = ds := by
    unfold put
    rw [List.drop_of_length_le (by omega)]
    simp
  rw [e] at h; exact h
theorem DG.zero {n a : Int} {len : Nat} (ha : a = 0) (hz : a = 0 → len = 0) {ns : List Int} (h : ns.length = len) : DG n a ns := by
  subst ha
  rw [hz rfl] at h
  rw [List.length_eq_zero_iff.mp h]
  exact ⟨rfl, fun e he => nomatch he⟩
theorem news_sw1 {h₀ h : Heap} {L : Addr} {x z : Addr × Obj} {r : List (Addr × Obj)} (N : News h₀ L h (x :: z :: r)) : News h₀ L h (z :: x :: r) := fun p hp => N p (by
  rcases List.mem_cons.mp hp with rfl | hp
  · exact .tail _ (.head _)
  · rcases List.mem_cons.mp hp with rfl | hp
    · exact .head _
    · exact .tail _ (.tail _ hp))
theorem news_sw2 {h₀ h : Heap} {L : Addr} {x y z : Addr × Obj} {r : List (Addr × Obj)} (N : News h₀ L h (x :: y :: z :: r)) : News h₀ L h (z :: x :: y :: r) := fun p hp => N p (by
  rcases List.mem_cons.mp hp with rfl | hp
  · exact .tail _ (.tail _ (.head _))
  · rcases List.mem_cons.mp hp with rfl | hp
    · exact .head _
    · rcases List.mem_cons.mp hp with rfl | hp
      · exact .tail _ (.head _)
      · exact .tail _ (.tail _ (.tail _ hp)))
theorem C_i2d_both : (∀ (w : World) (news : List (Addr × Obj)) (a n : Int) (ta tn : Tok) (len : Nat)
  (hne : ∀ p ∈ news, p.1 ≠ 30) (ha0 : 0 ≤ a) (ha1 : a < 2 ^ 60) (hn0 : 0 ≤ n) (hn1 : n ≤ 10) (hn2 : n ≠ 0) (hL : Int.fdiv ((Builtin.Int.intBits a : Nat) + n - 1) n = (len : Nat)) (hlen : len ≤ 100) (hx2 : a < 2 ^ (n.toNat * len)) (hz : a = 0 → len = 0) (hz1 : a ≠ 0 → 0 < len), Con w ((30, tabObj #[]) :: news) 35 [.int a ta, .int n tn] (len + 2) (8 * (len + 2)) (fun v n' => ∃ d vs' nn ds c' oc vs0 t0, v = .ref d ∧ n' = (d, listOf vs'.toArray nn) :: (30, tab1 c') :: (c', oc) :: news ∧ IntsAre vs' ds ∧ ds.length = len ∧ DG n a ds ∧ oc.data = .fields vs0 ∧ vs0[1]? = some (.str q1 t0) ∧ 30 < c' ∧ (∀ p ∈ news, p.1 < c') ∧ (∀ p ∈ news, p.1 < d))) ∧ (∀ (w : World) (news : List (Addr × Obj)) (a n : Int) (ta tn : Tok) (len : Nat)
  (c' : Addr) (oc : Obj) (vs0 : Array Value) (t0 : Tok) (hoc : oc.data = .fields vs0) (hv : vs0[1]? = some (.str q1 t0)) (ha0 : 0 ≤ a) (ha1 : a < 2 ^ 60) (hn0 : 0 ≤ n) (hn1 : n ≤ 10) (hn2 : n ≠ 0) (hL : Int.fdiv ((Builtin.Int.intBits a : Nat) + n - 1) n = (len : Nat)) (hlen : len ≤ 100) (hx2 : a < 2 ^ (n.toNat * len)) (hz : a = 0 → len = 0) (hz1 : a ≠ 0 → 0 < len), Con w ((30, tab1 c') :: (c', oc) :: news) 35 [.int a ta, .int n tn] (len + 2) (8 * (len + 2)) (fun v n' => ∃ d vs' nn ds, v = .ref d ∧ n' = (d, listOf vs'.toArray nn) :: (30, tab1 c') :: (c', oc) :: news ∧ IntsAre vs' ds ∧ ds.length = len ∧ DG n a ds ∧ 30 < d ∧ c' < d ∧ (∀ p ∈ news, p.1 < d))) := by
  refine ⟨?_, ?_⟩
  · intro w news a n ta tn len hne ha0 ha1 hn0 hn1 hn2 hL hlen hx2 hz hz1
    unfold Con
    w_top off
    k_with_none
    k_with "mem" => first | (with_reducible assumption) | ((repeat (first | exact List.Mem.head _ | refine List.Mem.tail _ ?_)); (try assumption); done)
    k_with "all" => first | assumption | exact ne_of_gt37 (by assumption) | exact ne_of_gt30 (by assumption) | ((with_reducible rename AllLt _ _ => hA9); first | exact allLt_ne hA9 (by omega) | exact ktn_ltOf hA9 | (clear hA9; k_all)) | ((with_reducible rename _ ∧ _ => hA9); obtain ⟨hA1, hA2⟩ := hA9; k_all)
    k_with "binaryOp Mult ref int" => k_dflt ((refine' zeros_mul ?zF ?zN ?zm len hL hlen ?_; (case zF => k_asm); (case zN => k_asm); (case zm => k_mem)); intro D8 h8 vs8 ns8 F8 N8 l8 i8 n8; k_lt l8; clear hL; (try dsimp only); (try k_fold))
    k_with "call ref" => ((with_reducible show wpAny _ _ (call (Value.ref _) [Value.int _ _, Value.int _ _, Value.int _ _]) _ _ _); k_dflt (refine' Con.use (C_inner1 w ?hs ?hf ?hc ?hoc ?hv ?hD ?hoD ?hI ?hoI ?hN ?hoN ?hne ?hlen ?hn0 ?hn1 (len + 1) _ _ (by omega) ?q1 ?q2 ?q3 _ _ _ _ _ _ ?x0 ?x1 ?x2 ?xi ?xl) ?k1 ?k2 ?k3 ?k4 ?k5 ?k6 ?k7 ?k8 ?k9 ?_; (case k1 => k_asm); (case k2 => k_asm); (case k3 => k_asm); (case k4 => first | exact news_sw1 (by k_asm) | exact news_sw2 (by k_asm)); (case k5 => k_asm); (case k6 => k_asm); (case k7 => k_asm); (case hf => k_mem); (case hs => rfl); (case hc => k_mem); (case hoc => with_unfolding_all assumption); (case hv => with_unfolding_all assumption); (case hD => k_mem); (case hoD => with_unfolding_all assumption); (case hI => k_mem); (case hoI => with_unfolding_all assumption); (case hN => k_mem); (case hoN => with_unfolding_all assumption); (case hne => k_all); (case xi => k_asm); (case xl => rfl); (case hlen => omega); (case hn0 => k_asm); (case hn1 => k_asm); (case q1 => omega); (case q2 => omega); (case q3 => omega); (case x0 => omega); (case x1 => omega); (case x2 => exact x2_ok hx2 (by omega)); (case k8 => ktr_room); (case k9 => ktr_units); k_whole); intro v9 n9 h9 tk9 hR9 F9 N9; obtain ⟨e9, vs9, ds9, f9, hia9, hl9, hd9⟩ := hR9; subst e9; subst f9; (try dsimp only); (try k_fold))
    k_fill
    intro p loose mean mg mb dp un gd cn csn csg csc csm a' ccd cl outer A₀ base h₀ L m s Q E hB hF hX hN hT hC1 hC2 hdp hun hret
    k_steps
    · refine' hret _ _ _ _ ⟨_, _, _, _, _, _, _, _, rfl, rfl, ?i0, ?l0, ?d0, ?a0, ?b0, ?c0, ?g0, ?j0⟩ ?F0 (cb_drop ?N0 (sub3 ?S00 ?S10 ?S20 ?S30))
      (case F0 => k_asm); (case N0 => k_asm); (case S00 => k_mem); (case S10 => k_mem); (case S20 => k_mem); (case S30 => intro p hp; k_mem)
      (case a0 => with_unfolding_all assumption); (case b0 => with_unfolding_all assumption)
      (case i0 => first | exact put_all (by assumption) (by omega) | assumption); (case l0 => first | assumption | omega | exact len_of3 (by assumption) (by assumption) (by assumption)); (case d0 => first | assumption | exact DG.zero (by assumption) (by assumption) (by assumption) | exact DG.zero (by assumption) (by assumption) (len_of3 (by assumption) (by assumption) (by assumption))); (case c0 => refine ltN ?_; omega); (case g0 => k_all); (case j0 => k_all)
    · refine' hret _ _ _ _ ⟨_, _, _, _, _, _, _, _, rfl, rfl, ?i1, ?l1, ?d1, ?a1, ?b1, ?c1, ?g1, ?j1⟩ ?F1 (cb_drop ?N1 (sub3 ?S01 ?S11 ?S21 ?S31))
      (case F1 => k_asm); (case N1 => k_asm); (case S01 => k_mem); (case S11 => k_mem); (case S21 => k_mem); (case S31 => intro p hp; k_mem)
      (case a1 => with_unfolding_all assumption); (case b1 => with_unfolding_all assumption)
      (case i1 => first | exact put_all (by assumption) (by omega) | assumption); (case l1 => first | assumption | omega | exact len_of3 (by assumption) (by assumption) (by assumption)); (case d1 => first | assumption | exact DG.zero (by assumption) (by assumption) (by assumption) | exact DG.zero (by assumption) (by assumption) (len_of3 (by assumption) (by assumption) (by assumption))); (case c1 => refine ltN ?_; omega); (case g1 => k_all); (case j1 => k_all)
  · intro w news a n ta tn len c' oc vs0 t0 hoc hv ha0 ha1 hn0 hn1 hn2 hL hlen hx2 hz hz1
    unfold Con
    w_top off
    k_with_none
    k_with "mem" => first | (with_reducible assumption) | ((repeat (first | exact List.Mem.head _ | refine List.Mem.tail _ ?_)); (try assumption); done)
    k_with "all" => first | assumption | exact ne_of_gt37 (by assumption) | exact ne_of_gt30 (by assumption) | ((with_reducible rename AllLt _ _ => hA9); first | exact allLt_ne hA9 (by omega) | exact ktn_ltOf hA9 | (clear hA9; k_all)) | ((with_reducible rename _ ∧ _ => hA9); obtain ⟨hA1, hA2⟩ := hA9; k_all)
    k_with "binaryOp Mult ref int" => k_dflt ((refine' zeros_mul ?zF ?zN ?zm len hL hlen ?_; (case zF => k_asm); (case zN => k_asm); (case zm => k_mem)); intro D8 h8 vs8 ns8 F8 N8 l8 i8 n8; k_lt l8; clear hL; (try dsimp only); (try k_fold))
    k_with "call ref" => ((with_reducible show wpAny _ _ (call (Value.ref _) [Value.int _ _, Value.int _ _, Value.int _ _]) _ _ _); k_dflt (refine' Con.use (C_inner1 w ?hs ?hf ?hc ?hoc ?hv ?hD ?hoD ?hI ?hoI ?hN ?hoN ?hne ?hlen ?hn0 ?hn1 (len + 1) _ _ (by omega) ?q1 ?q2 ?q3 _ _ _ _ _ _ ?x0 ?x1 ?x2 ?xi ?xl) ?k1 ?k2 ?k3 ?k4 ?k5 ?k6 ?k7 ?k8 ?k9 ?_; (case k1 => k_asm); (case k2 => k_asm); (case k3 => k_asm); (case k4 => first | exact news_sw1 (by k_asm) | exact news_sw2 (by k_asm)); (case k5 => k_asm); (case k6 => k_asm); (case k7 => k_asm); (case hf => k_mem); (case hs => rfl); (case hc => k_mem); (case hoc => with_unfolding_all assumption); (case hv => with_unfolding_all assumption); (case hD => k_mem); (case hoD => with_unfolding_all assumption); (case hI => k_mem); (case hoI => with_unfolding_all assumption); (case hN => k_mem); (case hoN => with_unfolding_all assumption); (case hne => k_all); (case xi => k_asm); (case xl => rfl); (case hlen => omega); (case hn0 => k_asm); (case hn1 => k_asm); (case q1 => omega); (case q2 => omega); (case q3 => omega); (case x0 => omega); (case x1 => omega); (case x2 => exact x2_ok hx2 (by omega)); (case k8 => ktr_room); (case k9 => ktr_units); k_whole); intro v9 n9 h9 tk9 hR9 F9 N9; obtain ⟨e9, vs9, ds9, f9, hia9, hl9, hd9⟩ := hR9; subst e9; subst f9; (try dsimp only); (try k_fold))
    k_fill
    intro p loose mean mg mb dp un gd cn csn csg csc csm a' ccd cl outer A₀ base h₀ L m s Q E hB hF hX hN hT hC1 hC2 hdp hun hret
    k_steps
    · refine' hret _ _ _ _ ⟨_, _, _, _, rfl, rfl, ?i0, ?l0, ?d0, ?c0, ?cc0, ?g0⟩ ?F0 (cb_drop ?N0 (sub3 ?S00 ?S10 ?S20 ?S30))
      (case F0 => k_asm); (case N0 => k_asm); (case S00 => k_mem); (case S10 => k_mem); (case S20 => k_mem); (case S30 => intro p hp; k_mem)
      (case i0 => first | exact put_all (by assumption) (by omega) | assumption); (case l0 => first | assumption | omega | exact len_of3 (by assumption) (by assumption) (by assumption)); (case d0 => first | assumption | exact DG.zero (by assumption) (by assumption) (by assumption) | exact DG.zero (by assumption) (by assumption) (len_of3 (by assumption) (by assumption) (by assumption))); (case c0 => refine ltN ?_; omega); (case cc0 => refine ltN ?_; omega); (case g0 => k_all)
    · refine' hret _ _ _ _ ⟨_, _, _, _, rfl, rfl, ?i1, ?l1, ?d1, ?c1, ?cc1, ?g1⟩ ?F1 (cb_drop ?N1 (sub3 ?S01 ?S11 ?S21 ?S31))
      (case F1 => k_asm); (case N1 => k_asm); (case S01 => k_mem); (case S11 => k_mem); (case S21 => k_mem); (case S31 => intro p hp; k_mem)
      (case i1 => first | exact put_all (by assumption) (by omega) | assumption); (case l1 => first | assumption | omega | exact len_of3 (by assumption) (by assumption) (by assumption)); (case d1 => first | assumption | exact DG.zero (by assumption) (by assumption) (by assumption) | exact DG.zero (by assumption) (by assumption) (len_of3 (by assumption) (by assumption) (by assumption))); (case c1 => refine ltN ?_; omega); (case cc1 => refine ltN ?_; omega); (case g1 => k_all)
theorem C_i2d_first (w : World) (news : List (Addr × Obj)) (a n : Int) (ta tn : Tok) (len : Nat)
  (hne : ∀ p ∈ news, p.1 ≠ 30) (ha0 : 0 ≤ a) (ha1 : a < 2 ^ 60) (hn0 : 0 ≤ n) (hn1 : n ≤ 10) (hn2 : n ≠ 0) (hL : Int.fdiv ((Builtin.Int.intBits a : Nat) + n - 1) n = (len : Nat)) (hlen : len ≤ 100) (hx2 : a < 2 ^ (n.toNat * len)) (hz : a = 0 → len = 0) (hz1 : a ≠ 0 → 0 < len) : Con w ((30, tabObj #[]) :: news) 35 [.int a ta, .int n tn] (len + 2) (8 * (len + 2)) (fun v n' => ∃ d vs' nn ds c' oc vs0 t0, v = .ref d ∧ n' = (d, listOf vs'.toArray nn) :: (30, tab1 c') :: (c', oc) :: news ∧ IntsAre vs' ds ∧ ds.length = len ∧ DG n a ds ∧ oc.data = .fields vs0 ∧ vs0[1]? = some (.str q1 t0) ∧ 30 < c' ∧ (∀ p ∈ news, p.1 < c') ∧ (∀ p ∈ news, p.1 < d)) :=
  C_i2d_both.1 w news a n ta tn len hne ha0 ha1 hn0 hn1 hn2 hL hlen hx2 hz hz1
theorem C_i2d_hit (w : World) (news : List (Addr × Obj)) (a n : Int) (ta tn : Tok) (len : Nat)
  (c' : Addr) (oc : Obj) (vs0 : Array Value) (t0 : Tok) (hoc : oc.data = .fields vs0) (hv : vs0[1]? = some (.str q1 t0)) (ha0 : 0 ≤ a) (ha1 : a < 2 ^ 60) (hn0 : 0 ≤ n) (hn1 : n ≤ 10) (hn2 : n ≠ 0) (hL : Int.fdiv ((Builtin.Int.intBits a : Nat) + n - 1) n = (len : Nat)) (hlen : len ≤ 100) (hx2 : a < 2 ^ (n.toNat * len)) (hz : a = 0 → len = 0) (hz1 : a ≠ 0 → 0 < len) : Con w ((30, tab1 c') :: (c', oc) :: news) 35 [.int a ta, .int n tn] (len + 2) (8 * (len + 2)) (fun v n' => ∃ d vs' nn ds, v = .ref d ∧ n' = (d, listOf vs'.toArray nn) :: (30, tab1 c') :: (c', oc) :: news ∧ IntsAre vs' ds ∧ ds.length = len ∧ DG n a ds ∧ 30 < d ∧ c' < d ∧ (∀ p ∈ news, p.1 < d)) :=
  C_i2d_both.2 w news a n ta tn len c' oc vs0 t0 hoc hv ha0 ha1 hn0 hn1 hn2 hL hlen hx2 hz hz1
noncomputable def T37 : Option (Addr × Obj) → List (Addr × Obj)
  | none => [(37, tabObj #[])]
  | some (c, o) => [(37, tab2 c), (c, o)]
noncomputable def Ok2 : Option (Addr × Obj) → Prop
  | none => True
  | some (_, o) => ∃ vs0 t0, o.data = .fields vs0 ∧ vs0[1]? = some (.str q2 t0)
noncomputable def Ok3 (o o' : Option (Addr × Obj)) (news : List (Addr × Obj)) : Prop := Ok2 o' ∧ o'.isSome = true ∧ (∀ x, o = some x → o' = o) ∧ ∀ x, o' = some x → o = some x ∨ ∀ p ∈ news, p.1 < x.1
theorem Ok3.sub {o o' : Option (Addr × Obj)} {l l' : List (Addr × Obj)} (h : Ok3 o o' l) (hs : ∀ p ∈ l', p ∈ l) : Ok3 o o' l' := ⟨h.1, h.2.1, h.2.2.1, fun x e => (h.2.2.2 x e).imp id fun k p hp => k p (hs p hp)⟩
noncomputable def Ok1 (o : Obj) : Prop := ∃ vs0 t0, o.data = .fields vs0 ∧ vs0[1]? = some (.str q1 t0)
theorem Con.mono {w : World} {news : List (Addr × Obj)} {f : Addr} {args : List Value} {D U D' U' : Nat} {R R' : Value → List (Addr × Obj) → Prop} (C : Con w news f args D U R) (h : ∀ v n', R v n' → R' v n') (hD : D ≤ D') (hU : U ≤ U') : Con w news f args D' U' R' :=
  fun p loose mean mg mb dp un gd cn csn csg csc csm a ccd cl outer A₀ base h₀ L m s Q E hB hF hX hN hT hC1 hC2 hdp hun hret =>
    C p loose mean mg mb dp un gd cn csn csg csc csm a ccd cl outer A₀ base h₀ L m s Q E hB hF hX hN hT hC1 hC2 (by omega) (by omega) fun v n' h' tk' hR => hret v n' h' tk' (h v n' hR)
theorem C_d2i (w : World) (o : Option (Addr × Obj)) (hok : Ok2 o) (news : List (Addr × Obj)) (d : Addr) (vs : List Value) (ns : List Int) (nn : Nat) (n : Int) (tn : Tok)
  (hne : ∀ p ∈ news, p.1 ≠ 37) (hi : IntsAre vs ns) (hlen : ns.length ≤ 100) (hd : (d, listOf vs.toArray nn) ∈ news) (hn0 : 0 ≤ n) (hn1 : n ≤ 10) (hbnd : ∀ i k, (vd n (seg ns i k)).natAbs < 2 ^ 64) :
  Con w (T37 o ++ news) 42 [.ref d, .int n tn] (ns.length + 2) (8 * (ns.length + 2)) (fun v n' => (∃ t, v = .int (vd n ns) t) ∧ ∃ o', Ok3 o o' news ∧ n' = T37 o' ++ news) := by
  cases o with
  | none =>
    refine Con.mono (C_d2i_first w news d vs ns nn n tn hne hi hlen hd hn0 hn1 hbnd) (fun v n' hR => ?_) (Nat.le_refl _) (Nat.le_refl _)
    obtain ⟨h1, c', oc, vs0, t0, rfl, h2, h3, h4, h5⟩ := hR
    exact ⟨h1, some (c', oc), ⟨⟨vs0, t0, h2, h3⟩, rfl, (fun x e => nomatch e), fun x e => .inr fun p hp => by cases e; exact h5 p hp⟩, rfl⟩
  | some x =>
    obtain ⟨c', oc⟩ := x
    obtain ⟨vs0, t0, h2, h3⟩ := hok
    refine Con.mono (C_d2i_hit w news c' oc vs0 t0 d vs ns nn n tn hne h2 h3 hi hlen hd hn0 hn1 hbnd) (fun v n' hR => ?_) (Nat.le_refl _) (Nat.le_refl _)
    obtain ⟨h1, rfl⟩ := hR
    exact ⟨h1, some (c', oc), ⟨⟨vs0, t0, h2, h3⟩, rfl, (fun x e => rfl), fun x e => .inl e⟩, rfl⟩
theorem subT {x a b : Addr × Obj} {T r led : List (Addr × Obj)} (h0 : x ∈ led) (h1 : a ∈ led) (h2 : b ∈ led) (h3 : ∀ p ∈ T, p ∈ led) (h4 : ∀ p ∈ r, p ∈ led) : ∀ p ∈ T ++ (x :: a :: b :: r), p ∈ led := fun p hp =>
  (List.mem_append.mp hp).elim (h3 p) (sub3 h0 h1 h2 h4 p)
theorem subU {x a b : Addr × Obj} {T r led : List (Addr × Obj)} (h0 : x ∈ led) (h1 : a ∈ led) (h2 : b ∈ led) (h3 : ∀ p ∈ T, p ∈ led) (h4 : ∀ p ∈ r, p ∈ led) : ∀ p ∈ x :: a :: b :: (T ++ r), p ∈ led :=
  sub3 h0 h1 h2 fun p hp => (List.mem_append.mp hp).elim (h3 p) (h4 p)
abbrev tupObj (vs : List Value) : Obj := { cls := .type "tuple", data := .seq vs.toArray }
theorem vd_bnd {n : Int} : ∀ {l : List Int}, (∀ e ∈ l, 0 ≤ e ∧ e < 2 ^ n.toNat) → 0 ≤ vd n l ∧ vd n l < 2 ^ (n.toNat * l.length)
  | [], _ => ⟨Int.le_refl _, (by show (0 : Int) < 2 ^ (n.toNat * 0); exact pow_pos _)⟩
  | d :: r, h => by
    have ih := vd_bnd (l := r) fun e he => h e (.tail _ he)
    have hd := h d (.head _)
    have hp := pow_pos n.toNat
    rw [vd, List.length_cons, Nat.mul_succ, Int.pow_add]
    refine ⟨Int.add_nonneg hd.1 (Int.mul_nonneg ih.1 (Int.le_of_lt hp)), ?_⟩
    refine Int.lt_of_lt_of_le ?_ (Int.mul_le_mul_of_nonneg_right (Int.add_one_le_of_lt ih.2) (Int.le_of_lt hp))
    rw [Int.add_mul, Int.one_mul, Int.add_comm]
    exact Int.add_lt_add_left hd.2 _
theorem pow_mono {a b : Nat} (h : a ≤ b) : (2 : Int) ^ a ≤ 2 ^ b := by
  have := Int.ofNat_le.mpr (Nat.pow_le_pow_right (n := 2) (by decide) h)
  rw [Int.natCast_pow, Int.natCast_pow] at this
  exact this
theorem tn10 {n : Int} (h : n ≤ 10) : n.toNat ≤ 10 := Int.toNat_le.mpr h
theorem vd_seg_bnd {n : Int} {l : List Int} (hn0 : 0 ≤ n) (hn1 : n ≤ 10) (hl : l.length ≤ 6) (h : ∀ e ∈ l, 0 ≤ e ∧ e < 2 ^ n.toNat) : ∀ i k, (vd n (seg l i k)).natAbs < 2 ^ 64 := fun i k => by
  have b := vd_bnd (n := n) (l := seg l i k) fun e he => h e (List.mem_of_mem_drop (List.mem_of_mem_take he))
  have hle : (seg l i k).length ≤ 6 := by unfold seg; rw [List.length_take, List.length_drop]; exact Nat.le_trans (Nat.min_le_right _ _) (Nat.le_trans (Nat.sub_le _ _) hl)
  obtain ⟨v, e⟩ := Int.eq_ofNat_of_zero_le b.1
  rw [e] at b ⊢
  exact Int.ofNat_lt.mp (Int.lt_of_lt_of_le b.2 (Int.le_trans (pow_mono (Nat.mul_le_mul (tn10 hn1) hle)) (by decide)))
-- one step of the long division
theorem div_step {A Q r b d p : Int} (hb : 0 < b) (h : A = Q * b + r) : A * p + d = (Q * p + (r * p + d) / b) * b + (r * p + d) % b := by
  have e := Int.emod_add_mul_ediv (r * p + d) b
  rw [h, Int.add_mul, Int.add_mul, Int.mul_right_comm, Int.mul_comm ((r * p + d) / b) b, Int.add_assoc (Q * p * b) (b * _), Int.add_comm (b * _), e, Int.add_assoc]
theorem div_end {A Q r b : Int} (_hb : 0 < b) (h : A = Q * b + r) (h0 : 0 ≤ r) (h1 : r < b) : Q = A / b ∧ r = A % b := by
  have e1 : A / b = Q := by
    rw [h, Int.add_comm, Int.mul_comm, Int.add_mul_ediv_left _ _ (by omega), Int.ediv_eq_zero_of_lt h0 h1]; omega
  have e2 : A % b = r := by
    rw [h, Int.add_comm, Int.mul_comm, Int.add_mul_emod_self_left, Int.emod_eq_of_lt h0 h1]
  exact ⟨e1.symm, e2.symm⟩
theorem qd_ok {r b d p : Int} (hb : 0 < b) (h0 : 0 ≤ r) (h1 : r < b) (hd0 : 0 ≤ d) (hd1 : d < p) : 0 ≤ (r * p + d) / b ∧ (r * p + d) / b < p := by
  have hp : 0 ≤ p := Int.le_trans hd0 (Int.le_of_lt hd1)
  refine ⟨Int.ediv_nonneg (Int.add_nonneg (Int.mul_nonneg h0 hp) hd0) (Int.le_of_lt hb), Int.ediv_lt_of_lt_mul hb ?_⟩
  have h2 : (r + 1) * p ≤ b * p := Int.mul_le_mul_of_nonneg_right (Int.add_one_le_of_lt h1) hp
  rw [Int.add_mul, Int.one_mul] at h2
  rw [Int.mul_comm p b]
  exact Int.lt_of_lt_of_le (Int.add_lt_add_left hd1 _) h2
theorem bits64 {x : Int} (h0 : 0 ≤ x) (h1 : x < 2 ^ 62) : ((Builtin.Int.intBits x : Nat) : Int) ≤ 64 := by
  have := intBits_le_64 (k := x) (by omega) (by omega)
  omega
theorem fdiv_e (a : Int) {b : Int} (h : 0 < b) : a.fdiv b = a / b := Int.fdiv_eq_ediv_of_nonneg _ (by omega)
theorem fmod_e (a : Int) {b : Int} (h : 0 < b) : a.fmod b = a % b := Int.fmod_eq_emod_of_nonneg _ (by omega)
theorem divmod_K {prog : Program} {w : World} {A : Around} {E : Value → Shared → Prop} {s : Shared} {a b : Int} {t u : Tok} {Q : Value → Shared → Prop} {h₀ : Heap} {L : Addr} {m : Str → Option Value} {news : List (Addr × Obj)} (F : Fr h₀ L s.heap m) (N : News h₀ L s.heap news) (hb : 0 < b) (hb1 : b ≤ 1000)
    (h : ∀ D h' u1 u2 tk, Fr h₀ L h' m → News h₀ L h' ((D, ({ cls := .type "tuple", data := .seq [Value.int (a / b) u1, Value.int (a % b) u2].toArray } : Obj)) :: news) → (∀ p ∈ news, p.1 < D) → Q (.ref D) { s with heap := h', toks := tk }) :
    wpAny (model prog w) A (call (.builtin "divmod") [.int a t, .int b u]) Q E s := by
  refine divmod_N F N (by omega) (fun h' F' N' => ?_) (Or.inl (PyProof.noPylong_small (by omega)))
  rw [fdiv_e a hb, fmod_e a hb] at N'
  exact h _ h' _ _ _ F' N' (fun p hp => Heap.lt_size (N p hp).1)
theorem C_div2 (w : World) (led : List (Addr × Obj)) (x b n : Int) (tx tb tn : Tok) (hx0 : 0 ≤ x) (hx1 : x < 2 ^ 62) (hb : 0 < b) (hb1 : b ≤ 1000) (hn : 0 ≤ n) :
  Con w led 21 [.int x tx, .int b tb, .int n tn] 1 16 (fun v n' => ∃ t nn u1 u2, v = .ref t ∧ n' = (t, ({ cls := .type "tuple", data := .seq [Value.int (x / b) u1, Value.int (x % b) u2].toArray nn } : Obj)) :: led ∧ ∀ p ∈ led, p.1 < t) := by
  unfold Con
  have hbits := bits64 hx0 hx1
  w_top off
  k_with_none
  k_with "mem" => first | (with_reducible assumption) | ((repeat (first | exact List.Mem.head _ | refine List.Mem.tail _ ?_)); (try assumption); done)
  k_with "all" => first | assumption | exact ne_of_gt37 (by assumption) | exact ne_of_gt30 (by assumption) | ((with_reducible rename AllLt _ _ => hA9); first | exact allLt_ne hA9 (by omega) | exact ktn_ltOf hA9 | (clear hA9; k_all)) | ((with_reducible rename _ ∧ _ => hA9); obtain ⟨hA1, hA2⟩ := hA9; k_all)
  k_with "call builtin:divmod" => (refine divmod_K (by k_asm) (by k_asm) (by omega) (by omega) ?_; intro D8 h8 u8 v8 tk8 F8 N8 l8)
  k_fill
  intro p loose mean mg mb dp un gd cn csn csg csc csm a ccd cl outer A₀ base h₀ L m s Q E hB hF hX hN hT hC1 hC2 hdp hun hret
  k_steps
  exact hret _ _ _ _ ⟨_, _, _, _, rfl, rfl, l8⟩ (by k_asm) (by k_asm)
theorem lt_tail3 {t : Addr} {T r : List (Addr × Obj)} {x a b : Addr × Obj} (h : AllLt t (T ++ (x :: a :: b :: r))) : ∀ p ∈ r, p.1 < t := fun p hp => ktn_ltOf h p (List.mem_append_right _ (.tail _ (.tail _ (.tail _ hp))))
theorem t37_mem (o : Option (Addr × Obj)) : ∃ x, (37, x) ∈ T37 o := by
  cases o with
  | none => exact ⟨_, .head _⟩
  | some x => exact ⟨_, .head _⟩
theorem t37_lt {a : Addr} {o : Option (Addr × Obj)} {r : List (Addr × Obj)} (h : AllLt a (T37 o ++ r)) : 37 < a := by
  obtain ⟨x, hx⟩ := t37_mem o
  exact ktn_ltOf h _ (List.mem_append_left _ hx)
theorem t37_ne {a : Addr} {o : Option (Addr × Obj)} {r : List (Addr × Obj)} (h : AllLt a (T37 o ++ r)) : a ≠ 37 := Nat.ne_of_gt (t37_lt h)
theorem hne3 {qd c1 : Addr} {x y z : Obj} {news : List (Addr × Obj)} (h1 : qd ≠ 37) (h2 : c1 ≠ 37) (h3 : ∀ p ∈ news, p.1 ≠ 37) : ∀ p ∈ (qd, x) :: ((30 : Addr), y) :: (c1, z) :: news, p.1 ≠ 37 :=
  List.forall_mem_cons.mpr ⟨h1, List.forall_mem_cons.mpr ⟨show (30 : Nat) ≠ 37 by decide, List.forall_mem_cons.mpr ⟨h2, h3⟩⟩⟩
theorem x_ok {r b d n : Int} (h0 : 0 ≤ r) (h1 : r < b) (hb : b ≤ 15) (hd : 0 ≤ d ∧ d < 2 ^ n.toNat) (hn : n ≤ 10) : 0 ≤ r * 2 ^ n.toNat + d ∧ r * 2 ^ n.toNat + d < 2 ^ 62 := by
  have hp := Int.le_of_lt (pow_pos n.toNat)
  have hq : (2 : Int) ^ n.toNat ≤ 2 ^ 10 := pow_mono (tn10 hn)
  refine ⟨Int.add_nonneg (Int.mul_nonneg h0 hp) hd.1, ?_⟩
  have h3 : r * 2 ^ n.toNat ≤ 15 * 2 ^ 10 := Int.mul_le_mul (Int.le_trans (Int.le_of_lt h1) hb) hq hp (by decide)
  exact Int.lt_trans (Int.add_lt_add_of_le_of_lt h3 (Int.lt_of_lt_of_le hd.2 hq)) (by decide)
section
variable {prog : Program} {w : World} {A : Around} {E : Value → Shared → Prop} {s : Shared} {env : Env} {h₀ : Heap} {x : Str} {body : List Stmt} {Q : Flow → Shared → Prop}
theorem kst_rev {σ : Type} {I l : Addr} {nl : Nat} {vs : List Value} {ns : List Int} {m₀ : Str → Option Value} (Led : σ → List (Addr × Obj)) (ps : σ → List (Str × Value)) (Facts : σ → Prop) (stored : List Str) (P : List Int → σ → Prop) (c₀ : σ)
    (hh : A.handled = none) (hi : IntsAre vs ns) (F : Fr h₀ env.locals s.heap m₀) (NI : News h₀ env.locals s.heap ((I, revObj l ((vs.length : Int) - 1)) :: (l, listOf vs.toArray nl) :: Led c₀)) (hlI : l ≠ I) (hoff : ∀ q ∈ Led c₀, q.1 ≠ I ∧ q.1 ≠ l) (hf : Facts c₀) (hk : ∀ p ∈ ps c₀, m₀ p.1 = some p.2) (hp : P [] c₀)
    (turn : ∀ (c : σ) pre n t (u : Str → Option Value) h tk own, n ∈ ns → pre.length < ns.length → OwnOff own ((Led c₀).map (·.1)) → Facts c → P pre c →
      Fr h₀ env.locals h (fun y => if y = x then some (.int n t) else kstB (fun z => if stored.contains z then u z else m₀ z) (ps c) y) → News h₀ env.locals h (Led c ++ own) →
      wpAny (model prog w) A (execs body env) (InvPostN h₀ env.locals (KstS Led ps Facts x stored m₀ P (pre ++ [n])) own ((Led c₀).map (·.1)) { s with heap := h, toks := tk } Q) E { s with heap := h, toks := tk })
    (done : ∀ (c : σ) (u : Str → Option Value) h tk, Facts c → P ns.reverse c → Fr h₀ env.locals h (fun y => if y = x then u y else kstB (fun z => if stored.contains z then u z else m₀ z) (ps c) y) → News h₀ env.locals h (Led c) → Q .next { s with heap := h, toks := tk }) :
    wpAny (model prog w) A (pyIter (.ref I)) (fun it s₂ => LoopAtV prog w A h₀ env x body Q E it s₂) E s := by
  have hI := NI _ (List.mem_cons_self ..)
  have hl := NI _ (List.mem_cons_of_mem _ (List.mem_cons_self ..))
  have N : News h₀ env.locals s.heap (Led c₀) := fun p hp => NI p (.tail _ (.tail _ hp))
  have hls : s.heap.IsList l vs.toArray := ⟨_, hl.1, rfl, nl, rfl⟩
  have hit : s.heap.IsRevIter I l ((vs.length : Int) - 1) := ⟨_, hI.1, rfl, rfl⟩
  refine wpAny_pyIter_revIter hit ?_
  have W := Walks.listRev (prog := prog) (w := w) hh I l hlI vs.toArray
  have hlen : vs.toArray.size = ns.length := by simp [hi.length]
  have hlen2 : vs.length = ns.length := hi.length
  rw [hlen] at W
  refine loop_invN (fun i m nx => KstS Led ps Facts x stored m₀ P (ns.reverse.take i) m nx) W ?_ ?_ ?_ ?_ ⟨Nat.zero_le _, ?_, hls⟩ F N ⟨c₀, rfl, hf, hk, fun _ _ _ _ => rfl, by simpa using hp⟩ ?_ ?_
  · intro hm
    rcases List.mem_cons.mp hm with e | hm
    · exact hI.2.1 e.symm
    · exact hl.2.1 (List.mem_singleton.mp hm).symm
  · intro b hb
    rw [List.mem_singleton.mp hb]
    exact hI.2.2
  · intro p hp hm
    exact (hoff p hp).1 (List.mem_singleton.mp hm)
  · intro p hp hm
    rcases List.mem_cons.mp hm with e | hm
    · exact (hoff p hp).1 e
    · exact (hoff p hp).2 (List.mem_singleton.mp hm)
  · have e : ((ns.length : Int)) - 1 - ((0 : Nat) : Int) = (vs.length : Int) - 1 := by omega
    rw [e]; exact hit
  · rintro i v m₁ nx h tk own hin hP _ hoff' ⟨c, rfl, hf', h1, h2, hp'⟩ F₁ N₁
    have hi' : i < ns.reverse.length := by rw [List.length_reverse]; exact hin
    have hx : vs[ns.length - 1 - i]? = some v := by simpa using hP
    obtain ⟨n, t, rfl, hn⟩ := hi.at _ v hx
    have hn2 : ns.reverse[i]? = some n := by rw [List.getElem?_reverse hin]; exact hn
    have hs : ns.reverse.take (i + 1) = ns.reverse.take i ++ [n] := by simp [List.take_add_one, hn2]
    rw [hs]
    exact turn c _ n t m₁ h tk own (List.mem_of_getElem? hn) (by rw [List.length_take, List.length_reverse]; omega) hoff' hf' hp' (kst_fr h1 h2 F₁) N₁
  · rintro m₁ nx h tk ⟨c, rfl, hf', h1, h2, hp'⟩ F₁ N₁
    have z : ns.reverse.take ns.length = ns.reverse := List.take_of_length_le (by rw [List.length_reverse]; exact Nat.le_refl _)
    rw [z] at hp'
    exact done c m₁ h tk hf' hp' (kst_frOut h1 h2 F₁) N₁
end
-- the long division, digit by digit from the greatest
noncomputable def LD (n b : Int) (pre : List Int) (r : Int) (qs : List Int) : Prop :=
  0 ≤ r ∧ r < b ∧ qs.length = pre.length ∧ (∀ e ∈ qs, 0 ≤ e ∧ e < 2 ^ n.toNat) ∧ vd n pre.reverse = vd n qs.reverse * b + r
theorem LD.start {n b : Int} (hb : 0 < b) : LD n b [] 0 [] := ⟨Int.le_refl 0, hb, rfl, (fun e he => nomatch he), by simp [vd]⟩
theorem LD.step {n b : Int} {pre : List Int} {r d : Int} {qs : List Int} (hb : 0 < b) (h : LD n b pre r qs) (hd : 0 ≤ d ∧ d < 2 ^ n.toNat) : LD n b (pre ++ [d]) ((r * 2 ^ n.toNat + d) % b) (qs ++ [(r * 2 ^ n.toNat + d) / b]) := by
  obtain ⟨h0, h1, h2, h3, h4⟩ := h
  refine ⟨Int.emod_nonneg _ (by omega), Int.emod_lt_of_pos _ hb, by simp [h2], fun e he => ?_, ?_⟩
  · rcases List.mem_append.mp he with he | he
    · exact h3 e he
    · rw [List.mem_singleton.mp he]; exact qd_ok hb h0 h1 hd.1 hd.2
  · rw [List.reverse_append, List.reverse_append, List.reverse_singleton, List.reverse_singleton, List.singleton_append, List.singleton_append, vd, vd]
    have e := div_step (d := d) (p := 2 ^ n.toNat) hb h4
    rw [Int.add_comm d, e, Int.add_comm (vd n qs.reverse * 2 ^ n.toNat)]
theorem LD.done {n b a : Int} {ds : List Int} {r : Int} {qs : List Int} (hb : 0 < b) (h : LD n b ds.reverse r qs) (ha : vd n ds = a) : vd n qs.reverse = a / b ∧ r = a % b := by
  obtain ⟨h0, h1, h2, h3, h4⟩ := h
  rw [List.reverse_reverse, ha] at h4
  exact div_end hb h4 h0 h1
theorem off_ok {I d9 qd c1 : Addr} {x y z : Obj} {tl : List (Addr × Obj)} (hI : qd < I ∧ d9 < I ∧ 30 < I ∧ c1 < I ∧ AllLt I tl) (h8 : d9 < qd) (h9 : 30 < d9) (h9b : c1 < d9) (m9 : AllLt d9 tl) : ∀ q ∈ (qd, x) :: ((30 : Addr), y) :: (c1, z) :: tl, q.1 ≠ I ∧ q.1 ≠ d9 :=
  List.forall_mem_cons.mpr ⟨⟨Nat.ne_of_lt hI.1, Nat.ne_of_gt h8⟩, List.forall_mem_cons.mpr ⟨⟨Nat.ne_of_lt hI.2.2.1, Nat.ne_of_lt h9⟩, List.forall_mem_cons.mpr ⟨⟨Nat.ne_of_lt hI.2.2.2.1, Nat.ne_of_lt h9b⟩, fun q hq => ⟨Nat.ne_of_lt (ktn_ltOf hI.2.2.2.2 q hq), Nat.ne_of_lt (ktn_ltOf m9 q hq)⟩⟩⟩⟩
theorem rev_ok {d9 qd c1 : Addr} {y z : Obj} {tl : List (Addr × Obj)} (h : d9 < qd ∧ 30 < qd ∧ c1 < qd ∧ AllLt qd tl) : ∀ q ∈ ((30 : Addr), y) :: (c1, z) :: tl, q.1 ≠ qd :=
  List.forall_mem_cons.mpr ⟨Nat.ne_of_lt h.2.1, List.forall_mem_cons.mpr ⟨Nat.ne_of_lt h.2.2.1, fun q hq => Nat.ne_of_lt (ktn_ltOf h.2.2.2 q hq)⟩⟩
theorem app_ok {d9 qd c1 : Addr} {x y z : Obj} {tl own : List (Addr × Obj)} (h : d9 < qd ∧ 30 < qd ∧ c1 < qd ∧ AllLt qd tl) (ho : OwnOff own (((qd, x) :: ((30 : Addr), y) :: (c1, z) :: tl).map (·.1))) : ∀ q ∈ ((30 : Addr), y) :: (c1, z) :: (tl ++ own), q.1 ≠ qd :=
  List.forall_mem_cons.mpr ⟨Nat.ne_of_lt h.2.1, List.forall_mem_cons.mpr ⟨Nat.ne_of_lt h.2.2.1, fun q hq => (List.mem_append.mp hq).elim (fun hq => Nat.ne_of_lt (ktn_ltOf h.2.2.2 q hq)) (OwnOff.ne ho (.head _) q)⟩⟩
theorem subX {x y a b : Addr × Obj} {T r led : List (Addr × Obj)} (h0 : x ∈ led) (h : ∀ p ∈ T ++ (y :: a :: b :: r), p ∈ led) : ∀ p ∈ x :: a :: b :: (T ++ r), p ∈ led :=
  subU h0 (h _ (List.mem_append_right _ (.tail _ (.head _)))) (h _ (List.mem_append_right _ (.tail _ (.tail _ (.head _))))) (fun p hp => h p (List.mem_append_left _ hp)) (fun p hp => h p (List.mem_append_right _ (.tail _ (.tail _ (.tail _ hp)))))
theorem nat64 {n b r : Int} {pre qs : List Int} (h : LD n b pre r qs) (hb : b ≤ 15) : r.natAbs < 2 ^ 64 := by
  have h1 := h.1
  have h2 := h.2.1
  omega
theorem C_dmp (w : World) (o : Option (Addr × Obj)) (hok : Ok2 o) (c1 : Addr) (oc1 : Obj) (vs1 : Array Value) (t1 : Tok) (hoc : oc1.data = .fields vs1) (hv : vs1[1]? = some (.str q1 t1)) (hc1 : c1 ≠ 37) (news : List (Addr × Obj)) (hnews : ∀ p ∈ news, p.1 ≠ 37)
  (a b : Int) (ta tb : Tok) (len : Nat) (ha0 : 0 ≤ a) (ha1 : a < 2 ^ 60) (hb : 0 < b) (hb1 : b ≤ 15) (hn0 : 1 ≤ Builtin.Int.intBits b) (hn1 : Builtin.Int.intBits b ≤ 4) (hL : Int.fdiv ((Builtin.Int.intBits a : Nat) + ((Builtin.Int.intBits b : Nat) : Int) - 1) (Builtin.Int.intBits b : Nat) = (len : Nat)) (hlen : len ≤ 6) (hx2 : a < 2 ^ (((Builtin.Int.intBits b : Nat) : Int).toNat * len)) (hz : a = 0 → len = 0) (hz1 : a ≠ 0 → 0 < len) :
  Con w ((30, tab1 c1) :: (c1, oc1) :: (T37 o ++ news)) 49 [.int a ta, .int b tb] 14 120 (fun v n' => ∃ t nn u1 u2 o', Ok3 o o' news ∧ v = .ref t ∧ n' = (t, ({ cls := .type "tuple", data := .seq [Value.int (a / b) u1, Value.int (a % b) u2].toArray nn } : Obj)) :: (30, tab1 c1) :: (c1, oc1) :: (T37 o' ++ news) ∧ ∀ p ∈ news, p.1 < t) := by
  unfold Con
  w_top off
  k_with_none
  k_with "mem" => first | (with_reducible assumption) | ((repeat (first | exact List.Mem.head _ | refine List.Mem.tail _ ?_)); (try assumption); done)
  k_with "all" => first | assumption | exact ne_of_gt37 (by assumption) | exact ne_of_gt30 (by assumption) | ((with_reducible rename AllLt _ _ => hA9); first | exact allLt_ne hA9 (by omega) | exact ktn_ltOf hA9 | (clear hA9; k_all)) | ((with_reducible rename _ ∧ _ => hA9); obtain ⟨hA1, hA2⟩ := hA9; k_all)
  k_with "all" => ((with_reducible rename AllLt _ _ => hA9); first | exact lt_tail3 hA9 | exact t37_ne hA9)
  k_with "newList" => (k_dflt (refine' newList_K ?k1 ?k2 ?_; (case k1 => k_asm); (case k2 => k_asm); k_whole); intro qd8 h8 F8 N8 l8; k_lt l8)
  k_with "pyIter ref" => ((rename News _ _ _ _ => N6); (rename Fr _ _ _ _ => F6); (refine' kst_rev (σ := Int × Nat × List Value × List Int × Nat) (nl := nn9) (vs := vs9) (ns := ds9) (l := d9) (fun c => (qd8, listOf c.2.2.1.toArray c.2.2.2.2) :: (30, tab1 c1) :: (c1, oc1) :: (T37 o ++ news)) (fun c => [(Str.ofString "r", Value.int c.1 c.2.1)]) (fun c => IntsAre c.2.2.1 c.2.2.2.1) [Str.ofString "q_digit"] (fun pre c => LD ((Builtin.Int.intBits b : Nat) : Int) b pre c.1 c.2.2.2.1) (0, ?tt, [], [], 0) ?hh hi9 F6 ?kN ?kne ?koff ?kf ?kk ?kp ?_ ?_); (case kN => exact cb_drop N6 (sub3 (by k_mem) (by k_mem) (by k_mem) (fun p hp => .tail _ (.tail _ (.tail _ hp))))); (case hh => rfl); (case kf => exact IntsAre.nil); (case kk => kst_all); (case kp => exact LD.start hb); (case kne => refine neN ?_; omega); (case koff => exact off_ok (by assumption) l8.1 l9 l9b m9); (rotate_left; intro ⟨r7, tr7, qv7, qs7, qn7⟩ u7 h7 tk7 hf7 hp7 F7 N7; dsimp only [kstB] at F7; dsimp only at N7 hf7 hp7; (have hq7 : qs7.reverse.length ≤ 6 := by (rw [List.length_reverse, hp7.2.2.1, List.length_reverse]; omega)); rotate_left; intro ⟨r7, tr7, qv7, qs7, qn7⟩ pre7 n7 t7 u7 h7 tk7 own7 hmem7 hpl7 hoff7 hf7 hp7 F7 N7; have kMark := kstMark; dsimp only [kstB] at F7; dsimp only at N7 hf7 hp7 hoff7; simp only [List.cons_append] at N7); all_goals (try k_fold))
  k_with "call builtin:list.append" => (k_dflt (refine' append_K ?k1 ?k2 (Upd.head ?U) ?_ ?z; (case k1 => k_asm); (case k2 => exact cb_drop (by k_asm) (fun p hp => List.Mem.tail _ hp)); (case U => exact app_ok l8 hoff7); (case z => (have hlq := hf7.length; have hp8 := hp7.2.2.1; rw [sizeLine_eq]; simp; omega)); k_whole); intro h8 F8 N8)
  k_with "binaryOp LShift int int" => ((with_reducible refine lshift_int_small ?kb1 ?kb2 ?kb3 ?_); (case kb1 => omega); (case kb2 => omega); (case kb3 => exact nat64 hp7 hb1))
  k_with "state" => exact LD.step hb hp7 (hd9.2 _ hmem7)
  k_with "call builtin:list.reverse" => (k_dflt (refine' kl_reverse ?F ?N rfl (Upd.head ?U) ?z ?_; (case F => k_asm); (case N => k_asm); (case U => exact rev_ok l8); (case z => exact room_ints hf7 (by rw [hp7.2.2.1, List.length_reverse]; omega))); kl_rest)
  k_fill
  intro p loose mean mg mb dp un gd cn csn csg csc csm a' ccd cl outer A₀ base h₀ L m s Q E hB hF hX hN hT hC1 hC2 hdp hun hret
  walk1
  k_with "call ref" => first | ((with_reducible show wpAny _ _ (call (Value.ref _) [Value.int _ _, Value.int _ _]) _ _ _); k_dflt (refine' Con.use (C_i2d_hit w (T37 o ++ news) a _ _ _ len c1 oc1 vs1 t1 hoc hv ha0 ha1 (by omega) (by omega) (by omega) hL (by omega) hx2 hz hz1) ?k1 ?k2 ?k3 ?k4 ?k5 ?k6 ?k7 ?k8 ?k9 ?_; (case k1 => k_asm); (case k2 => k_asm); (case k3 => k_asm); (case k4 => k_asm); (case k5 => k_asm); (case k6 => k_asm); (case k7 => k_asm); (case k8 => ktr_room); (case k9 => ktr_units); k_whole); intro v9 n9 h9 tk9 hR9 F9 N9; obtain ⟨d9, vs9, nn9, ds9, e9, f9, hi9, hl9, hd9, l9, l9b, m9⟩ := hR9; subst e9; subst f9; replace m9 := allLt_of m9; replace l9 := ltN l9; replace l9b := ltN l9b; (try dsimp only); (try k_fold)) | ((with_reducible show wpAny _ _ (call (Value.ref _) [Value.int _ _, Value.int _ _, Value.int _ _]) _ _ _); k_dflt (refine' Con.use (C_div2 w _ _ _ _ _ _ _ ?x0 ?x1 hb (by omega) (by omega)) ?k1 ?k2 ?k3 ?k4 ?k5 ?k6 ?k7 ?k8 ?k9 ?_; (case k1 => k_asm); (case k2 => k_asm); (case k3 => k_asm); (case k4 => k_asm); (case k5 => k_asm); (case k6 => k_asm); (case k7 => k_asm); (case x0 => exact (x_ok hp7.1 hp7.2.1 (by omega) (hd9.2 _ hmem7) (by omega)).1); (case x1 => exact (x_ok hp7.1 hp7.2.1 (by omega) (hd9.2 _ hmem7) (by omega)).2); (case k8 => ktr_room); (case k9 => ktr_units); k_whole); intro v9 n9 h9 tk9 hR9 F9 N9; obtain ⟨t9, nt9, u9, v9, e9, f9, l9⟩ := hR9; subst e9; subst f9; k_lt l9; (try dsimp only); (try k_fold)) | ((with_reducible show wpAny _ _ (call (Value.ref _) [Value.ref _, Value.int _ _]) _ _ _); k_dflt (refine' Con.use (C_d2i w o hok ((_, listOf _ _) :: (30, tab1 c1) :: (c1, oc1) :: news) _ _ _ _ _ _ ?hne ?hi ?hl (List.Mem.head _) (by omega) (by omega) ?hb) ?k1 ?k2 ?k3 ?k4 ?k5 ?k6 ?k7 ?k8 ?k9 ?_; (case k1 => k_asm); (case k2 => k_asm); (case k3 => k_asm); (case k4 => refine' cb_drop ?kN (subT ?s0 ?s1 ?s2 ?s3 ?s4); (case kN => k_asm); (case s0 => k_mem); (case s1 => k_mem); (case s2 => k_mem); (case s3 => intro p hp; repeat (first | exact List.mem_append_left _ hp | refine List.Mem.tail _ ?_)); (case s4 => intro p hp; repeat (first | exact List.mem_append_right _ hp | refine List.Mem.tail _ ?_))); (case k5 => k_asm); (case k6 => k_asm); (case k7 => k_asm); (case hi => exact IntsAre.reverse hf7); (case hl => (rw [List.length_reverse, hp7.2.2.1, List.length_reverse]; omega)); (case hne => exact hne3 (t37_ne l8.2.2.2) hc1 hnews); (case hb => exact vd_seg_bnd (by omega) (by omega) (by rw [List.length_reverse, hp7.2.2.1, List.length_reverse]; omega) (fun e he => hp7.2.2.2.1 e (List.mem_reverse.mp he))); (case k8 => ktr_room); (case k9 => ktr_units); k_whole); intro v9 n9 h9 tk9 hR9 F9 N9; obtain ⟨⟨t9, e9⟩, o9, hok9, f9⟩ := hR9; subst e9; subst f9; (try dsimp only); (try k_fold))
  k_steps
  · have hr7 := LD.done hb hp7 hd9.1
    rename (∀ p ∈ T37 _ ++ _, p.1 < _) => l1
    rename News h₀ _ _ _ => kN9
    rename Fr h₀ _ _ _ => kF9
    obtain ⟨e1, e2⟩ := hr7
    rw [e1, e2] at kN9
    exact hret _ _ _ _ ⟨_, _, _, _, _, hok9.sub (fun p hp => .tail _ (.tail _ (.tail _ hp))), rfl, rfl, fun p hp => l1 p (List.mem_append_right _ (.tail _ (.tail _ (.tail _ hp))))⟩ kF9 (cb_drop kN9 (subX (.head _) fun p hp => .tail _ hp))
theorem bits_of {a : Int} {k : Nat} (h0 : 0 ≤ a) (h : a < ((2 ^ k : Nat) : Int)) : Builtin.Int.intBits a ≤ k := by
  obtain ⟨n, rfl⟩ := Int.eq_ofNat_of_zero_le h0
  exact PySem.intBits_le_iff.mpr (Int.ofNat_lt.mp h)
theorem of_bits {a : Int} {k : Nat} (h0 : 0 ≤ a) (h : Builtin.Int.intBits a ≤ k) : a < ((2 ^ k : Nat) : Int) := by
  obtain ⟨n, rfl⟩ := Int.eq_ofNat_of_zero_le h0
  exact Int.ofNat_lt.mpr (PySem.intBits_le_iff.mp h)
noncomputable def DmL (A B : Nat) : Prop := 1 ≤ B ∧ Int.fdiv ((A : Nat) + ((B : Nat) : Int) - 1) (B : Nat) = (((A + B - 1) / B : Nat) : Int) ∧ (A + B - 1) / B ≤ 6 ∧ A ≤ B * ((A + B - 1) / B) ∧ (A ≤ 0 → (A + B - 1) / B = 0) ∧ (¬ A ≤ 0 → 0 < (A + B - 1) / B)
theorem dm_len {A B : Nat} (hA : A ≤ 9) (hB0 : ¬ B ≤ 2) (hB1 : B ≤ 4) : DmL A B := by
  have h3 : ∀ A ∈ List.range 10, DmL A 3 := by unfold DmL; decide +kernel
  have h4 : ∀ A ∈ List.range 10, DmL A 4 := by unfold DmL; decide +kernel
  have hm := List.mem_range.mpr (Nat.lt_succ_of_le hA)
  match B, hB0, hB1 with
  | 0, h, _ => exact absurd (by decide) h
  | 1, h, _ => exact absurd (by decide) h
  | 2, h, _ => exact absurd (by decide) h
  | 3, _, _ => exact h3 A hm
  | 4, _, _ => exact h4 A hm
  | n + 5, _, h => exact absurd h (Nat.not_le.mpr (Nat.le_add_left 5 n))
theorem C_dmpS (w : World) (o : Option (Addr × Obj)) (hok : Ok2 o) (c1 : Addr) (oc1 : Obj) (vs1 : Array Value) (t1 : Tok) (hoc : oc1.data = .fields vs1) (hv : vs1[1]? = some (.str q1 t1)) (hc1 : c1 ≠ 37) (news : List (Addr × Obj)) (hnews : ∀ p ∈ news, p.1 ≠ 37) (a b : Int) (ta tb : Tok) (ha0 : 0 ≤ a) (ha1 : a < 512) (hb : 4 ≤ b) (hb1 : b ≤ 15) :
  Con w ((30, tab1 c1) :: (c1, oc1) :: (T37 o ++ news)) 49 [.int a ta, .int b tb] 14 120 (fun v n' => ∃ t nn u1 u2 o', Ok3 o o' news ∧ v = .ref t ∧ n' = (t, ({ cls := .type "tuple", data := .seq [Value.int (a / b) u1, Value.int (a % b) u2].toArray nn } : Obj)) :: (30, tab1 c1) :: (c1, oc1) :: (T37 o' ++ news) ∧ ∀ p ∈ news, p.1 < t) := by
  have hb0 : 0 ≤ b := Int.le_trans (by decide) hb
  obtain ⟨e0, e1, e2, e3, e4, e5⟩ := dm_len (bits_of (k := 9) ha0 ha1) (fun h => absurd (of_bits hb0 h) (Int.not_lt.mpr hb)) (bits_of (k := 4) hb0 (Int.lt_of_le_of_lt hb1 (by decide)))
  refine C_dmp w o hok c1 oc1 vs1 t1 hoc hv hc1 news hnews a b ta tb _ ha0 (Int.lt_trans ha1 (by decide)) (Int.lt_of_lt_of_le (by decide) hb) hb1 e0 (bits_of (k := 4) hb0 (Int.lt_of_le_of_lt hb1 (by decide))) e1 e2 ?_ (fun h0 => e4 (bits_of ha0 (by rw [h0]; decide))) (fun h0 => e5 fun h => h0 (Int.le_antisymm (Int.le_of_lt_add_one (of_bits ha0 h)) ha0))
  have h4 := of_bits ha0 e3
  rw [Int.natCast_pow] at h4
  exact h4
theorem C_idm0 (w : World) (o : Option (Addr × Obj)) (hok : Ok2 o) (c1 : Addr) (oc1 : Obj) (vs1 : Array Value) (t1 : Tok) (hoc : oc1.data = .fields vs1) (hv : vs1[1]? = some (.str q1 t1)) (hc1 : c1 ≠ 37) (news : List (Addr × Obj)) (hnews : ∀ p ∈ news, p.1 ≠ 37) (a b : Int) (ta tb : Tok) (ha0 : 0 ≤ a) (ha1 : a < 512) (hb : 4 ≤ b) (hb1 : b ≤ 15) :
  Con w ((30, tab1 c1) :: (c1, oc1) :: (T37 o ++ news)) 56 [.int a ta, .int b tb] 16 140 (fun v n' => ∃ t nn u1 u2 o', Ok3 o o' news ∧ v = .ref t ∧ n' = (t, ({ cls := .type "tuple", data := .seq [Value.int (a / b) u1, Value.int (a % b) u2].toArray nn } : Obj)) :: (30, tab1 c1) :: (c1, oc1) :: (T37 o' ++ news) ∧ ∀ p ∈ news, p.1 < t) := by
  unfold Con
  w_top off
  k_with_none
  k_with "mem" => first | (with_reducible assumption) | ((repeat (first | exact List.Mem.head _ | refine List.Mem.tail _ ?_)); (try assumption); done)
  k_with "all" => first | assumption | exact ne_of_gt37 (by assumption) | exact ne_of_gt30 (by assumption) | ((with_reducible rename AllLt _ _ => hA9); first | exact allLt_ne hA9 (by omega) | exact ktn_ltOf hA9 | (clear hA9; k_all)) | ((with_reducible rename _ ∧ _ => hA9); obtain ⟨hA1, hA2⟩ := hA9; k_all)
  k_with "all" => ((with_reducible rename AllLt _ _ => hA9); first | exact lt_tail3 hA9 | exact t37_ne hA9)
  k_fill
  intro p loose mean mg mb dp un gd cn csn csg csc csm a' ccd cl outer A₀ base h₀ L m s Q E hB hF hX hN hT hC1 hC2 hdp hun hret
  walk1
  k_with "call ref" => ((with_reducible show wpAny _ _ (call (Value.ref _) [Value.int _ _, Value.int _ _]) _ _ _); k_dflt (refine' Con.use (C_dmpS w o hok c1 oc1 vs1 t1 hoc hv hc1 news hnews a b _ _ ha0 ha1 hb hb1) ?k1 ?k2 ?k3 ?k4 ?k5 ?k6 ?k7 ?k8 ?k9 ?_; (case k1 => k_asm); (case k2 => k_asm); (case k3 => k_asm); (case k4 => k_asm); (case k5 => k_asm); (case k6 => k_asm); (case k7 => k_asm); (case k8 => ktr_room); (case k9 => ktr_units); k_whole); intro v9 n9 h9 tk9 hR9 F9 N9; obtain ⟨t9, nn9, u9, v9, o9, hok9, e9, f9, l9⟩ := hR9; subst e9; subst f9; (try dsimp only); (try k_fold))
  k_steps
  all_goals first | (exfalso; omega) | exact hret _ _ _ _ ⟨_, _, _, _, _, hok9, rfl, rfl, l9⟩ (by k_asm) (by k_asm)
theorem bitNot_is (a : Int) : Builtin.bitNot a = -a - 1 := by unfold Builtin.bitNot; omega
theorem neg_dm {a b : Int} (hb : 0 < b) : Builtin.bitNot (Builtin.bitNot a / b) = a / b ∧ b + Builtin.bitNot (Builtin.bitNot a % b) = a % b := by
  simp only [bitNot_is]
  have h1 := Int.emod_add_mul_ediv (-a - 1) b
  have h2 := Int.emod_nonneg (-a - 1) (show b ≠ 0 by omega)
  have h3 := Int.emod_lt_of_pos (-a - 1) hb
  have e := div_end (A := a) (Q := -((-a - 1) / b) - 1) (r := b + (-((-a - 1) % b) - 1)) (b := b) hb (by
    rw [Int.sub_mul, Int.neg_mul, Int.mul_comm ((-a - 1) / b) b]; omega) (by omega) (by omega)
  exact e
theorem C_idm (w : World) (o : Option (Addr × Obj)) (hok : Ok2 o) (c1 : Addr) (oc1 : Obj) (vs1 : Array Value) (t1 : Tok) (hoc : oc1.data = .fields vs1) (hv : vs1[1]? = some (.str q1 t1)) (hc1 : c1 ≠ 37) (news : List (Addr × Obj)) (hnews : ∀ p ∈ news, p.1 ≠ 37) (a b : Int) (ta tb : Tok) (ha0 : -512 ≤ a) (ha1 : a < 512) (hb : 4 ≤ b) (hb1 : b ≤ 15) :
  Con w ((30, tab1 c1) :: (c1, oc1) :: (T37 o ++ news)) 56 [.int a ta, .int b tb] 18 160 (fun v n' => ∃ t nn u1 u2 o', Ok3 o o' news ∧ v = .ref t ∧ n' = (t, ({ cls := .type "tuple", data := .seq [Value.int (a / b) u1, Value.int (a % b) u2].toArray nn } : Obj)) :: (30, tab1 c1) :: (c1, oc1) :: (T37 o' ++ news) ∧ ∀ p ∈ news, p.1 < t) := by
  by_cases hneg : 0 ≤ a
  · exact Con.mono (C_idm0 w o hok c1 oc1 vs1 t1 hoc hv hc1 news hnews a b ta tb hneg ha1 hb hb1) (fun _ _ h => h) (by omega) (by omega)
  have hbn := bitNot_is a
  have hnd := neg_dm (a := a) (b := b) (by omega)
  unfold Con
  w_top off
  k_with_none
  k_with "mem" => first | (with_reducible assumption) | ((repeat (first | exact List.Mem.head _ | refine List.Mem.tail _ ?_)); (try assumption); done)
  k_with "all" => first | assumption | exact ne_of_gt37 (by assumption) | exact ne_of_gt30 (by assumption) | ((with_reducible rename AllLt _ _ => hA9); first | exact allLt_ne hA9 (by omega) | exact ktn_ltOf hA9 | (clear hA9; k_all)) | ((with_reducible rename _ ∧ _ => hA9); obtain ⟨hA1, hA2⟩ := hA9; k_all)
  k_with "all" => ((with_reducible rename AllLt _ _ => hA9); first | exact lt_tail3 hA9 | exact t37_ne hA9)
  k_fill
  intro p loose mean mg mb dp un gd cn csn csg csc csm a' ccd cl outer A₀ base h₀ L m s Q E hB hF hX hN hT hC1 hC2 hdp hun hret
  walk1
  k_with "call ref" => ((with_reducible show wpAny _ _ (call (Value.ref _) [Value.int _ _, Value.int _ _]) _ _ _); k_dflt (refine' Con.use (C_idm0 w o hok c1 oc1 vs1 t1 hoc hv hc1 news hnews _ b _ _ ?a0 ?a1 hb hb1) ?k1 ?k2 ?k3 ?k4 ?k5 ?k6 ?k7 ?k8 ?k9 ?_; (case k1 => k_asm); (case k2 => k_asm); (case k3 => k_asm); (case k4 => k_asm); (case k5 => k_asm); (case k6 => k_asm); (case k7 => k_asm); (case a0 => omega); (case a1 => omega); (case k8 => ktr_room); (case k9 => ktr_units); k_whole); intro v9 n9 h9 tk9 hR9 F9 N9; obtain ⟨t9, nn9, u9, v9, o9, hok9, e9, f9, l9⟩ := hR9; subst e9; subst f9; (try dsimp only); (try k_fold))
  k_steps
  all_goals first | (exfalso; omega) | skip
  rename News h₀ _ _ _ => kN9
  rename Fr h₀ _ _ _ => kF9
  rw [hnd.1, hnd.2] at kN9
  rename (_ ∧ _ ∧ _ ∧ AllLt _ _) => l7
  exact hret _ _ _ _ ⟨_, _, _, _, _, hok9, rfl, rfl, fun p hp => Nat.lt_trans (l9 p hp) l7.1⟩ kF9 (cb_drop kN9 (fun p hp => (List.mem_cons.mp hp).elim (fun e => e ▸ .head _) (fun hp => .tail _ (.tail _ hp))))
noncomputable def IsSt (st : List (Addr × Obj)) : Prop := ∃ c1 oc1 o vs1 t1, st = (30, tab1 c1) :: (c1, oc1) :: T37 o ∧ oc1.data = .fields vs1 ∧ vs1[1]? = some (.str q1 t1) ∧ c1 ≠ 37 ∧ Ok2 o
noncomputable def Keep (st st' news : List (Addr × Obj)) : Prop := IsSt st' ∧ st'.length = 4 ∧ (st.length = 4 → st' = st) ∧ ∀ q ∈ st', (∃ q' ∈ st, q'.1 = q.1) ∨ ∀ p ∈ news, p.1 < q.1
theorem keep_of {c1 : Addr} {oc1 : Obj} {vs1 : Array Value} {t1 : Tok} {o o' : Option (Addr × Obj)} {news : List (Addr × Obj)} (hoc : oc1.data = .fields vs1) (hv : vs1[1]? = some (.str q1 t1)) (hc1 : c1 ≠ 37) (h : Ok3 o o' news) : Keep ((30, tab1 c1) :: (c1, oc1) :: T37 o) ((30, tab1 c1) :: (c1, oc1) :: T37 o') news := by
  obtain ⟨h1, h2, h3, h4⟩ := h
  refine ⟨⟨c1, oc1, o', vs1, t1, rfl, hoc, hv, hc1, h1⟩, ?_, fun hl => ?_, ?_⟩
  · cases o' with
    | none => exact absurd h2 Bool.false_ne_true
    | some x => rfl
  · cases o with
    | none => exact absurd hl (by decide : ¬ (3 = 4))
    | some x => rw [h3 x rfl]
  · cases o' with
    | none => exact absurd h2 Bool.false_ne_true
    | some x =>
      obtain ⟨c2, oc2⟩ := x
      have m37 : ∃ q' ∈ ((30 : Addr), tab1 c1) :: (c1, oc1) :: T37 o, q'.1 = 37 := by
        cases o with
        | none => exact ⟨_, .tail _ (.tail _ (.head _)), rfl⟩
        | some y => exact ⟨_, .tail _ (.tail _ (.head _)), rfl⟩
      refine List.forall_mem_cons.mpr ⟨.inl ⟨_, .head _, rfl⟩, List.forall_mem_cons.mpr ⟨.inl ⟨_, .tail _ (.head _), rfl⟩, List.forall_mem_cons.mpr ⟨.inl m37, List.forall_mem_cons.mpr ⟨?_, fun _ h => nomatch h⟩⟩⟩⟩
      rcases h4 _ rfl with e | e
      · subst e; exact .inl ⟨_, .tail _ (.tail _ (.tail _ (.head _))), rfl⟩
      · exact .inr e
theorem C_out (w : World) (st news : List (Addr × Obj)) (hst : IsSt st) (hnews : ∀ p ∈ news, p.1 ≠ 37) (way lap steps count : Int) (ta tb tc td : Tok)
  (hs0 : 0 ≤ steps) (hs1 : steps ≤ 10) (hc0 : 3 ≤ count) (hc1' : count ≤ 14) (hl0 : -100 ≤ lap) (hl1 : lap ≤ 100)
  (ha0 : -512 ≤ way - 1 * 2 ^ steps.toNat + lap * (count + 1)) (ha1 : way - 1 * 2 ^ steps.toNat + lap * (count + 1) < 512) :
  Con w (st ++ news) 153 [.int way ta, .int lap tb, .int steps tc, .int count td] 22 200 (fun v n' => ∃ t nn u1 u2 st', Keep st st' news ∧ v = .ref t ∧ n' = (t, ({ cls := .type "tuple", data := .seq [Value.int ((way - 1 * 2 ^ steps.toNat + lap * (count + 1)) / (count + 1)) u1, Value.int ((way - 1 * 2 ^ steps.toNat + lap * (count + 1)) % (count + 1)) u2].toArray nn } : Obj)) :: (st' ++ news) ∧ ∀ p ∈ news, p.1 < t) := by
  obtain ⟨c1, oc1, o, vs1, t1, rfl, hoc, hv, hc1, hok⟩ := hst
  rw [List.cons_append, List.cons_append]
  unfold Con
  w_top off
  k_with_none
  k_with "mem" => first | (with_reducible assumption) | ((repeat (first | exact List.Mem.head _ | refine List.Mem.tail _ ?_)); (try assumption); done)
  k_with "all" => first | assumption | exact ne_of_gt37 (by assumption) | exact ne_of_gt30 (by assumption) | ((with_reducible rename AllLt _ _ => hA9); first | exact allLt_ne hA9 (by omega) | exact ktn_ltOf hA9 | (clear hA9; k_all)) | ((with_reducible rename _ ∧ _ => hA9); obtain ⟨hA1, hA2⟩ := hA9; k_all)
  k_with "all" => ((with_reducible rename AllLt _ _ => hA9); first | exact lt_tail3 hA9 | exact t37_ne hA9)
  k_with "binaryOp Mult int int" => (refine mul_small ?a ?b ?_; (case a => omega); (case b => omega))
  k_with "binaryOp LShift int int" => ((with_reducible refine lshift_int_small ?kb1 ?kb2 ?kb3 ?_); (case kb1 => omega); (case kb2 => omega); (case kb3 => decide))
  k_fill
  intro p loose mean mg mb dp un gd cn csn csg csc csm a' ccd cl outer A₀ base h₀ L m s Q E hB hF hX hN hT hC1 hC2 hdp hun hret
  walk1
  k_with "call ref" => ((with_reducible show wpAny _ _ (call (Value.ref 56) _) _ _ _); ((with_reducible show wpAny _ _ (call (Value.ref _) [Value.int _ _, Value.int _ _]) _ _ _); k_dflt (refine' Con.use (C_idm w o hok c1 oc1 vs1 t1 hoc hv hc1 news hnews _ _ _ _ (by omega) (by omega) (by omega) (by omega)) ?k1 ?k2 ?k3 ?k4 ?k5 ?k6 ?k7 ?k8 ?k9 ?_; (case k1 => k_asm); (case k2 => k_asm); (case k3 => k_asm); (case k4 => k_asm); (case k5 => k_asm); (case k6 => k_asm); (case k7 => k_asm); (case k8 => ktr_room); (case k9 => ktr_units); k_whole); intro v9 n9 h9 tk9 hR9 F9 N9; obtain ⟨t9, nn9, u9, v9, o9, hok9, e9, f9, l9⟩ := hR9; subst e9; subst f9; (try dsimp only); (try k_fold)))
  k_steps
  all_goals exact hret _ _ _ _ ⟨_, _, _, _, _, keep_of hoc hv hc1 hok9, rfl, rfl, l9⟩ (by k_asm) (by k_asm)
section
variable {prog : Program} {w : World} {A : Around} {E : Value → Shared → Prop} {s : Shared} {env : Env} {h₀ : Heap} {x : Str} {body : List Stmt} {Q : Flow → Shared → Prop}
theorem range_inv {r : Addr} {a₀ b₀ : Int} {t₀ u₀ v₀ : Tok} {n : Nat} {m₀ : Str → Option Value} {news : List (Addr × Obj)} (J : Addr → Nat → (Str → Option Value) → List (Addr × Obj) → Prop)
    (hh : A.handled = none) (hr : IsRange s.heap r a₀ b₀ 1 t₀ u₀ v₀) (hsmall : Builtin.Range.small a₀ b₀ 1 = true) (hn : Builtin.Range.rangeSize a₀ b₀ 1 = (n : Int)) (F : Fr h₀ env.locals s.heap m₀) (N : News h₀ env.locals s.heap news)
    (hj : ∀ I, (∀ p ∈ news, p.1 < I) → J I 0 m₀ news)
    (turn : ∀ I i m nx t h tk, i < n → J I i m nx → Fr h₀ env.locals h (fun y => if y = x then some (.int (a₀ + (i : Int)) t) else m y) →
      News h₀ env.locals h ((I, itR (a₀ + ((i + 1 : Nat) : Int)) ((n : Int) - ((i + 1 : Nat) : Int))) :: nx) →
      wpAny (model prog w) A (execs body env) (UnrPost h₀ env.locals { s with heap := h, toks := tk } I (itR (a₀ + ((i + 1 : Nat) : Int)) ((n : Int) - ((i + 1 : Nat) : Int))) (J I (i + 1)) Q) E { s with heap := h, toks := tk })
    (done : ∀ I m nx h tk, J I n m nx → Fr h₀ env.locals h m → News h₀ env.locals h nx → Q .next { s with heap := h, toks := tk }) :
    wpAny (model prog w) A (pyIter (.ref r)) (fun it s₂ => LoopAtV prog w A h₀ env x body Q E it s₂) E s := by
  refine iter_rangeUnr hh hr hsmall hn F N fun I hI => ?_
  have go : ∀ (k i : Nat) m nx, i + k = n → J I i m nx → RangeRest prog w A E h₀ env x body Q s I a₀ n k i m nx := by
    intro k
    induction k with
    | zero =>
      intro i m nx e hJ
      have e' : i = n := by omega
      subst e'
      exact RangeRest.zero fun h tk F N => done I m nx h tk hJ F N
    | succ k ih =>
      intro i m nx e hJ
      refine RangeRest.succ fun t h tk F N => wpAny_mono (turn I i m nx t h tk (by omega) hJ F N) (fun f s₂ p => ?_) fun _ _ q => q
      have up : UnrEnd h₀ env.locals { s with heap := h, toks := tk } I (itR (a₀ + ((i + 1 : Nat) : Int)) ((n : Int) - ((i + 1 : Nat) : Int))) (J I (i + 1)) s₂ →
          UnrEnd h₀ env.locals { s with heap := h, toks := tk } I (itR (a₀ + ((i + 1 : Nat) : Int)) ((n : Int) - ((i + 1 : Nat) : Int))) (RangeRest prog w A E h₀ env x body Q s I a₀ n k (i + 1)) s₂ := by
        rintro ⟨h', tk', m', nx', e1, e2, e3, e4, e5⟩
        exact ⟨h', tk', m', nx', e1, e2, e3, e4, ih (i + 1) m' nx' (by omega) e5⟩
      cases f with
      | ret v => exact p
      | brk => exact p
      | next => exact up p
      | cont => exact up p
  exact go n 0 m₀ news (by omega) (hj I hI)
end
noncomputable def wE (count : Int) : Nat → Int → Int
  | 0, w => w
  | f + 1, w => if w ≤ count then wE count f (2 * w + 1) else w
theorem two_w {w : Int} (h : 1 ≤ w) : 1 ≤ 2 * w ∧ 1 ≤ 2 * w + 1 := by
  have h2 : 1 ≤ 2 * w := by rw [Int.two_mul]; exact Int.le_trans h (Int.le_add_of_nonneg_right (Int.le_trans (by decide) h))
  exact ⟨h2, Int.le_add_one h2⟩
theorem step_w {c w : Int} {k : Nat} (h : 1 ≤ w) (h2 : c ≤ w + ((k + 1 : Nat) : Int)) : c ≤ 2 * w + (k : Int) ∧ c ≤ 2 * w + 1 + (k : Int) := by
  have h3 : c ≤ 2 * w + (k : Int) := by
    refine Int.le_trans h2 ?_
    rw [Int.two_mul, Int.natCast_succ, Int.add_comm (k : Int) 1, Int.add_assoc]
    exact Int.add_le_add_left (Int.add_le_add_right h _) _
  exact ⟨h3, Int.le_trans h3 (Int.add_le_add_right (Int.le_of_lt (Int.lt_succ _)) _)⟩
theorem no_w {a w : Int} (h : a ≤ w + ((0 : Nat) : Int)) : ¬ w < a := Int.not_lt.mpr (by rw [Int.natCast_zero, Int.add_zero] at h; exact h)
theorem up_w {n w : Int} (k : Nat) (h : 1 ≤ w) (hn : n ≤ (k : Nat)) : n + 1 ≤ w + (k : Int) := by
  rw [Int.add_comm w]; exact Int.add_le_add hn h
theorem wE_key (count : Int) : ∀ (k f : Nat) (w : Int), 1 ≤ w → count + 1 ≤ w + (k : Int) → k ≤ f → wE count f w = wE count k w := by
  intro k
  induction k with
  | zero =>
    intro f w h1 h2 _
    cases f with
    | zero => rfl
    | succ f => exact if_neg fun h => no_w h2 (Int.lt_add_one_of_le h)
  | succ k ih =>
    intro f w h1 h2 h3
    cases f with
    | zero => cases h3
    | succ f =>
      unfold wE
      rw [ih f _ (two_w h1).2 (step_w h1 h2).2 (Nat.le_of_succ_le_succ h3)]
theorem wE_step {count w : Int} (h1 : 1 ≤ w) (h2 : w ≤ count) (h3 : count ≤ 14) : wE count 16 w = wE count 16 (2 * w + 1) := by
  have e : wE count 16 w = wE count 15 (2 * w + 1) := if_pos h2
  rw [e]
  exact (wE_key count 15 16 _ (two_w h1).2 (up_w 15 (two_w h1).2 (Int.le_trans h3 (by decide))) (by decide)).symm
theorem wE_end {count w : Int} (h : ¬ w ≤ count) : wE count 16 w = w := by simp [wE, h]
noncomputable def plc (count steps spot : Int) : Int := (wE count 16 (2 * spot) - 1 * 2 ^ steps.toNat + 0 * (count + 1)) % (count + 1)
noncomputable def plcs (count steps : Int) (i : Nat) : List Int := count :: (List.range i).map fun k : Nat => plc count steps (1 + (k : Int))
theorem plcs_succ (count steps : Int) (i : Nat) : plcs count steps (i + 1) = plcs count steps i ++ [plc count steps (1 + (i : Int))] := by
  unfold plcs
  rw [List.range_succ, List.map_append]
  rfl
theorem st37 {st : List (Addr × Obj)} (h : IsSt st) : ∃ x, (37, x) ∈ st := by
  obtain ⟨c1, oc1, o, vs1, t1, rfl, _⟩ := h
  obtain ⟨x, hx⟩ := t37_mem o
  exact ⟨x, .tail _ (.tail _ hx)⟩
noncomputable def Adr (st st' news : List (Addr × Obj)) : Prop := ∀ q ∈ st', (∃ q' ∈ st, q'.1 = q.1) ∨ ∀ p ∈ news, p.1 < q.1
theorem Adr.refl (st news : List (Addr × Obj)) : Adr st st news := fun q hq => .inl ⟨q, hq, rfl⟩
theorem Adr.trans {a b c news : List (Addr × Obj)} (h1 : Adr a b news) (h2 : Adr b c news) : Adr a c news := fun q hq => by
  rcases h2 q hq with ⟨q', hq', e⟩ | h
  · rcases h1 q' hq' with ⟨q2, hq2, e2⟩ | h
    · exact .inl ⟨q2, hq2, e2.trans e⟩
    · exact .inr fun p hp => e ▸ h p hp
  · exact .inr h
theorem Adr.sub {a b l l' : List (Addr × Obj)} (h : Adr a b l) (hs : ∀ p ∈ l', p ∈ l) : Adr a b l' := fun q hq => (h q hq).imp id fun k p hp => k p (hs p hp)
theorem Adr.ne {a b news : List (Addr × Obj)} {x : Addr} {o : Obj} (h : Adr a b news) (hx : (x, o) ∈ news) (ha : ∀ p ∈ a, p.1 ≠ x) : ∀ p ∈ b, p.1 ≠ x := fun q hq => by
  rcases h q hq with ⟨q', hq', e⟩ | k
  · rw [← e]; exact ha q' hq'
  · exact Nat.ne_of_gt (k _ hx)
noncomputable def JP (P : Addr) (st news : List (Addr × Obj)) (count steps : Int) (m₀ : Str → Option Value) (I : Addr) (i : Nat) (m : Str → Option Value) (nx : List (Addr × Obj)) : Prop :=
  ∃ st' pv pn u1 u2, nx = (P, listOf pv.toArray pn) :: (st' ++ news) ∧ IsSt st' ∧ (0 < i → st'.length = 4) ∧ Adr st st' news ∧ IntsAre pv (plcs count steps i) ∧ (m = fun y => if y = Str.ofString "spot" then u1 else if y = Str.ofString "way" then u2 else m₀ y) ∧ (∀ p ∈ nx, p.1 ≠ I) ∧ (∀ p ∈ st' ++ news, p.1 ≠ P)
section
variable {prog : Program} {w : World} {A : Around} {E : Value → Shared → Prop} {s : Shared} {env : Env} {h₀ : Heap} {body : List Stmt} {Q : Flow → Shared → Prop}
theorem places_loop {r P : Addr} {b₀ : Int} {t₀ u₀ v₀ : Tok} {n : Nat} {m₀ : Str → Option Value} {st news : List (Addr × Obj)} {pv : List Value} {pn : Nat} {count steps : Int}
    (hh : A.handled = none) (hr : IsRange s.heap r 1 b₀ 1 t₀ u₀ v₀) (hsmall : Builtin.Range.small 1 b₀ 1 = true) (hn : Builtin.Range.rangeSize 1 b₀ 1 = (n : Int)) (F : Fr h₀ env.locals s.heap m₀) (N : News h₀ env.locals s.heap ((P, listOf pv.toArray pn) :: (st ++ news)))
    (hst : IsSt st) (hi : IntsAre pv (plcs count steps 0)) (hP : ∀ p ∈ st ++ news, p.1 ≠ P)
    (turn : ∀ I i st' pv pn u1 u2 t h tk, i < n → IsSt st' → Adr st st' news → IntsAre pv (plcs count steps i) → (∀ p ∈ (P, listOf pv.toArray pn) :: (st' ++ news), p.1 ≠ I) → (∀ p ∈ st' ++ news, p.1 ≠ P) →
      Fr h₀ env.locals h (fun y => if y = Str.ofString "spot" then some (.int (1 + (i : Int)) t) else if y = Str.ofString "spot" then u1 else if y = Str.ofString "way" then u2 else m₀ y) →
      News h₀ env.locals h ((I, itR (1 + ((i + 1 : Nat) : Int)) ((n : Int) - ((i + 1 : Nat) : Int))) :: (P, listOf pv.toArray pn) :: (st' ++ news)) →
      wpAny (model prog w) A (execs body env) (UnrPost h₀ env.locals { s with heap := h, toks := tk } I (itR (1 + ((i + 1 : Nat) : Int)) ((n : Int) - ((i + 1 : Nat) : Int))) (JP P st news count steps m₀ I (i + 1)) Q) E { s with heap := h, toks := tk })
    (done : ∀ st' pv pn u1 u2 h tk, IsSt st' → (0 < n → st'.length = 4) → Adr st st' news → IntsAre pv (plcs count steps n) → Fr h₀ env.locals h (fun y => if y = Str.ofString "spot" then u1 else if y = Str.ofString "way" then u2 else m₀ y) → News h₀ env.locals h ((P, listOf pv.toArray pn) :: (st' ++ news)) → Q .next { s with heap := h, toks := tk }) :
    wpAny (model prog w) A (pyIter (.ref r)) (fun it s₂ => LoopAtV prog w A h₀ env (Str.ofString "spot") body Q E it s₂) E s := by
  refine range_inv (JP P st news count steps m₀) hh hr hsmall hn F N (fun I hI => ?_) ?_ ?_
  · refine ⟨st, pv, pn, m₀ (Str.ofString "spot"), m₀ (Str.ofString "way"), rfl, hst, (fun h => absurd h (Nat.lt_irrefl _)), Adr.refl _ _, hi, ?_, (fun p hp => Nat.ne_of_lt (hI p hp)), hP⟩
    funext y
    by_cases h1 : y = Str.ofString "spot"
    · rw [if_pos h1, h1]
    · rw [if_neg h1]
      by_cases h2 : y = Str.ofString "way"
      · rw [if_pos h2, h2]
      · rw [if_neg h2]
  · rintro I i m nx t h tk hin ⟨st', pv, pn, u1, u2, rfl, h1, h2, h3, h4, rfl, h5, h6⟩ F N
    exact turn I i st' pv pn u1 u2 t h tk hin h1 h3 h4 h5 h6 F N
  · rintro I m nx h tk ⟨st', pv, pn, u1, u2, rfl, h1, h2, h3, h4, rfl, h5, h6⟩ F N
    exact done st' pv pn u1 u2 h tk h1 h2 h3 h4 F N
end
theorem two1 : (2 : Int) ^ (1 : Int).toNat = 2 := by decide
theorem wl_start {count w0 : Int} (h1 : 1 ≤ w0) (h2 : w0 ≤ 2 * count) : 1 ≤ w0 ∧ w0 ≤ 2 * count + 1 ∧ wE count 16 w0 = wE count 16 w0 := ⟨h1, by omega, rfl⟩
theorem wl_turn {count w0 w : Int} (h1 : 1 ≤ w) (h : wE count 16 w0 = wE count 16 w) (hw : w ≤ count) (hc : count ≤ 14) : 1 ≤ w * 2 ^ (1 : Int).toNat + 1 ∧ w * 2 ^ (1 : Int).toNat + 1 ≤ 2 * count + 1 ∧ wE count 16 w0 = wE count 16 (w * 2 ^ (1 : Int).toNat + 1) := by
  rw [two1]
  refine ⟨by omega, by omega, ?_⟩
  rw [h, wE_step h1 hw hc, Int.mul_comm]
theorem wl_end {count steps w : Int} {i : Nat} (h : wE count 16 ((1 + (i : Int)) * 2 ^ (1 : Int).toNat) = wE count 16 w) (hw : ¬ w ≤ count) : (w - 1 * 2 ^ steps.toNat + 0 * (count + 1)) % (count + 1) = plc count steps (1 + (i : Int)) := by
  rw [wE_end hw, two1, Int.mul_comm] at h
  unfold plc
  rw [h]
theorem subQ {x a : Addr × Obj} {T r led : List (Addr × Obj)} (h1 : x ∈ led) (h2 : a ∈ led) (h3 : ∀ p ∈ T, p ∈ led) (h4 : ∀ p ∈ r, p ∈ led) : ∀ p ∈ T ++ (x :: a :: r), p ∈ led := fun p hp =>
  (List.mem_append.mp hp).elim (h3 p) (sub2 h1 h2 h4 p)
theorem subR {x a : Addr × Obj} {T r led : List (Addr × Obj)} (h1 : x ∈ led) (h2 : a ∈ led) (h3 : ∀ p ∈ T, p ∈ led) (h4 : ∀ p ∈ r, p ∈ led) : ∀ p ∈ x :: a :: (T ++ r), p ∈ led :=
  sub2 h1 h2 fun p hp => (List.mem_append.mp hp).elim (h3 p) (h4 p)
theorem rs_ok {c : Int} (h : 0 ≤ c) : Builtin.Range.rangeSize 1 (c + 1) 1 = ((c.toNat : Nat) : Int) := by
  rw [rangeSize_nat 1 (c + 1), Int.add_sub_cancel]
theorem n37_ok {st news : List (Addr × Obj)} {P I : Addr} {x it : Obj} (hst : IsSt st) (hI : ∀ p ∈ (P, x) :: (st ++ news), p.1 ≠ I) (hP : ∀ p ∈ st ++ news, p.1 ≠ P) (hn : ∀ p ∈ news, p.1 ≠ 37) : ∀ p ∈ (I, it) :: (P, x) :: news, p.1 ≠ 37 := by
  obtain ⟨y, hy⟩ := st37 hst
  exact List.forall_mem_cons.mpr ⟨fun e => hI _ (.tail _ (List.mem_append_left _ hy)) e.symm, List.forall_mem_cons.mpr ⟨fun e => hP _ (List.mem_append_left _ hy) e.symm, hn⟩⟩
theorem appU {st st' news : List (Addr × Obj)} {P I : Addr} {x it it2 : Obj} (hI : ∀ p ∈ (P, x) :: (st ++ news), p.1 ≠ I) (ha : Adr st st' ((I, it) :: (P, x) :: news)) (hP : ∀ p ∈ st ++ news, p.1 ≠ P) : ∀ p ∈ (I, it2) :: (st' ++ news), p.1 ≠ P :=
  List.forall_mem_cons.mpr ⟨fun e => hI _ (.head _) e.symm, fun p hp => (List.mem_append.mp hp).elim (ha.ne (.tail _ (.head _)) (fun p hp => hP p (List.mem_append_left _ hp)) p) fun hp => hP p (List.mem_append_right _ hp)⟩
theorem plcs_len (count steps : Int) (i : Nat) : (plcs count steps i).length = i + 1 := by simp [plcs]
theorem room_pl {pv : List Value} {count steps : Int} {i : Nat} (h : IntsAre pv (plcs count steps i)) (hi : i ≤ 100) : pv.toArray.size ≤ sizeLine := by
  have := h.length
  rw [plcs_len] at this
  rw [sizeLine_eq]; simp; omega
theorem unrI {st st' news : List (Addr × Obj)} {P I : Addr} {x it x2 : Obj} (hI : ∀ p ∈ (P, x) :: (st ++ news), p.1 ≠ I) (ha : Adr st st' ((I, it) :: (P, x) :: news)) : ∀ p ∈ (P, x2) :: (st' ++ news), p.1 ≠ I :=
  List.forall_mem_cons.mpr ⟨hI (P, x) (.head _), fun p hp => (List.mem_append.mp hp).elim (ha.ne (.head _) (fun p hp => hI p (.tail _ (List.mem_append_left _ hp))) p) fun hp => hI p (.tail _ (List.mem_append_right _ hp))⟩
theorem map3 {m' m₀ : Str → Option Value} (h : ∀ y, y ≠ Str.ofString "spot" → y ≠ Str.ofString "way" → m' y = m₀ y) : m' = fun y => if y = Str.ofString "spot" then m' (Str.ofString "spot") else if y = Str.ofString "way" then m' (Str.ofString "way") else m₀ y := by
  funext y
  by_cases h1 : y = Str.ofString "spot"
  · rw [if_pos h1, h1]
  · rw [if_neg h1]
    by_cases h2 : y = Str.ofString "way"
    · rw [if_pos h2, h2]
    · rw [if_neg h2]; exact h y h1 h2
theorem C_places (w : World) (st news : List (Addr × Obj)) (hst : IsSt st) (hnews : ∀ p ∈ news, p.1 ≠ 37) (count steps : Int) (tc ts : Tok)
  (hs0 : 0 ≤ steps) (hs1 : steps ≤ 10) (hc0 : 3 ≤ count) (hc1 : count ≤ 14) (hp0 : (1 : Int) ≤ 2 ^ steps.toNat) (hp1 : (2 : Int) ^ steps.toNat ≤ 32) :
  Con w (st ++ news) 160 [.int count tc, .int steps ts] 26 240 (fun v n' => ∃ P pv pn st', v = .ref P ∧ n' = (P, listOf pv.toArray pn) :: (st' ++ news) ∧ IsSt st' ∧ st'.length = 4 ∧ Adr st st' news ∧ IntsAre pv (plcs count steps count.toNat) ∧ (∀ p ∈ st ++ news, p.1 < P)) := by
  unfold Con
  w_top off
  k_with_none
  k_with "mem" => first | (with_reducible assumption) | ((repeat (first | exact List.Mem.head _ | refine List.Mem.tail _ ?_)); (try assumption); done)
  k_with "all" => first | assumption | exact ne_of_gt37 (by assumption) | exact ne_of_gt30 (by assumption) | ((with_reducible rename AllLt _ _ => hA9); first | exact allLt_ne hA9 (by omega) | exact ktn_ltOf hA9 | (clear hA9; k_all)) | ((with_reducible rename _ ∧ _ => hA9); obtain ⟨hA1, hA2⟩ := hA9; k_all)
  k_with "all" => ((with_reducible rename AllLt _ _ => hA9); first | exact lt_tail3 hA9 | exact t37_ne hA9)
  k_with "newList" => (k_dflt (refine' newList_K ?k1 ?k2 ?_; (case k1 => k_asm); (case k2 => k_asm); k_whole); intro P8 h8 F8 N8 l8; (have hP8 := fun p hp => Nat.ne_of_lt (l8 p hp)))
  k_with "pyIter ref" => k_dflt ((rename News _ _ _ _ => N6); (rename Fr _ _ _ _ => F6); (rename IsRange _ _ _ _ _ _ _ _ => rg6); k_dflt (refine' places_loop (P := P8) (n := count.toNat) (st := st) (news := news) (count := count) (steps := steps) ?hh rg6 ?hsm ?hrs F6 N6 hst ?hi hP8 ?_ ?_); (case hh => rfl); (case hsm => exact small_one (by omega) (by omega) (by omega) (by omega)); (case hrs => exact rs_ok (by omega)); (case hi => exact IntsAre.cons _ _ .nil); (intro I7 i7 st7 pv7 pn7 u71 u72 t7 h7 tk7 hi7 hst7 had7 hI7 hPI7 hP7 F7 N7; (have n37 := fun it => n37_ok (it := it) hst7 hPI7 hP7 hnews); rotate_left; intro st7 pv7 pn7 u71 u72 h7 tk7 hst7 hl7 had7 hI7 F7 N7; rotate_left); all_goals (try k_fold))
  k_with "binaryOp LShift int int" => ((with_reducible refine lshift_int_small ?kb1 ?kb2 ?kb3 ?_); (case kb1 => omega); (case kb2 => omega); (case kb3 => omega))
  k_with "call builtin:list.append" => k_dflt (k_dflt (refine' append_K ?k1 ?k2 (Upd.head ?U) ?_ ?z; (case k1 => k_asm); (case k2 => exact cb_drop (by k_asm) (subR (List.Mem.tail _ (List.mem_append_right _ (.tail _ (.head _)))) (List.Mem.tail _ (List.mem_append_right _ (.head _))) (fun p hp => List.Mem.tail _ (List.mem_append_left _ hp)) (fun p hp => List.Mem.tail _ (List.mem_append_right _ (.tail _ (.tail _ hp)))))); (case U => exact appU hPI7 (hk9.2.2.2) hP7); (case z => exact room_pl hI7 (by omega)); k_whole); intro h8 F8 N8)
  k_with "state" => first | exact wl_start (by rw [two1]; omega) (by rw [two1]; omega) | exact wl_turn (by assumption) (by assumption) (by assumption) hc1
  k_with "measure" => rw [two1]; omega
  k_with "exec While Call cons nil" => k_while_given ["count", "way!"] (fun count w0 script way => 1 ≤ way ∧ way ≤ 2 * count + 1 ∧ wE count 16 w0 = wE count 16 way) (fun count w0 script way => (count + 1 - way).toNat) "way"
  k_fill
  intro p loose mean mg mb dp un gd cn csn csg csc csm a' ccd cl outer A₀ base h₀ L m s Q E hB hF hX hN hT hC1 hC2 hdp hun hret
  walk1
  k_with "call ref" => ((with_reducible show wpAny _ _ (call (Value.ref 153) _) _ _ _); ((with_reducible show wpAny _ _ (call (Value.ref _) [Value.int _ _, Value.int _ _, Value.int _ _, Value.int _ _]) _ _ _); k_dflt (refine' Con.use (C_out w st7 ((I7, itR _ _) :: (P8, listOf pv7.toArray pn7) :: news) hst7 ?hn _ _ _ _ _ _ _ _ hs0 hs1 hc0 hc1 (by omega) (by omega) (by omega) (by omega)) ?k1 ?k2 ?k3 ?k4 ?k5 ?k6 ?k7 ?k8 ?k9 ?_; (case k1 => k_asm); (case k2 => k_asm); (case k3 => k_asm); (case k4 => refine' cb_drop ?kN (subQ ?s1 ?s2 ?s3 ?s4); (case kN => k_asm); (case s1 => k_mem); (case s2 => k_mem); (case s3 => intro p hp; exact .tail _ (.tail _ (List.mem_append_left _ hp))); (case s4 => intro p hp; exact .tail _ (.tail _ (List.mem_append_right _ hp)))); (case k5 => k_asm); (case k6 => k_asm); (case k7 => k_asm); (case hn => exact n37 _); (case k8 => ktr_room); (case k9 => ktr_units); k_whole); intro v9 n9 h9 tk9 hR9 F9 N9; obtain ⟨t9, nn9, u9, v9, st9, hk9, e9, f9, l9⟩ := hR9; subst e9; subst f9; (try dsimp only); (try k_fold)))
  k_steps
  · simp only [List.push_toArray] at N8
    exact ⟨_, _, _, (P8, _) :: (st9 ++ news), rfl, F8, cb_drop N8 (sub2 (.tail _ (.head _)) (.head _) fun p hp => .tail _ (.tail _ hp)), unrI hPI7 hk9.2.2.2, st9, _, _, _, _, rfl, hk9.1, (fun _ => hk9.2.1), had7.trans (Adr.sub hk9.2.2.2 fun p hp => .tail _ (.tail _ hp)), (by rw [plcs_succ, ← wl_end (by assumption) (by assumption)]; exact IntsAre.append hI7 (.cons _ _ .nil)), map3 (fun y h1 h2 => by simp [h1, h2]), unrI hPI7 hk9.2.2.2, fun p hp => appU (it2 := default) hPI7 hk9.2.2.2 hP7 p (.tail _ hp)⟩
  · exact hret _ _ _ _ ⟨P8, pv7, pn7, st7, rfl, rfl, hst7, hl7 (by omega), had7, hI7, fun p hp => l8 p hp⟩ (by k_asm) (by k_asm)
section
open PySem.Calls
noncomputable def thr (ns : List Int) : Nat → Int → List Int
  | 0, _ => []
  | f + 1, s => if (ns.length : Int) + 1 ≤ s then [] else thr ns f (2 * s) ++ [ns.getD (s - 1).toNat 0] ++ thr ns f (2 * s + 1)
theorem thr_len (ns : List Int) : ∀ (f : Nat) (s : Int), (thr ns f s).length + 1 ≤ 2 ^ f
  | 0, _ => by simp [thr]
  | f + 1, s => by
    unfold thr
    split
    · have := Nat.two_pow_pos (f + 1); simp; omega
    · have h1 := thr_len ns f (2 * s)
      have h2 := thr_len ns f (2 * s + 1)
      rw [List.length_append, List.length_append, List.length_singleton, Nat.pow_succ]
      omega
theorem thr_len6 (ns : List Int) {f : Nat} (hf : f ≤ 6) (s : Int) : (thr ns f s).length ≤ 63 := by
  have h1 := thr_len ns f s
  have h2 := Nat.pow_le_pow_right (n := 2) (by decide) hf
  omega
section
variable {prog : Program} {w : World} {A : Around} {E : Value → Shared → Prop} {s : Shared}
theorem tree_item {value slice : PySem.Expr} {l : Addr} {vs : List Value} {ns : List Int} {k : Int} {u : Tok} {Q : Value → Shared → Prop}
    (hl : s.heap.IsList l (Value.none :: vs).toArray) (hi : IntsAre vs ns) (h0 : 1 ≤ k) (hk : k ≤ (ns.length : Nat)) (hhi : k < 2 ^ 63) (h : ∀ t, Q (.int (ns.getD (k - 1).toNat 0) t) s)
    (hs : subscripted slice false (.ref l) (.int k u) = operate [.ref l, .int k u] (getItem (.ref l) (.int k u)) := by with_unfolding_all rfl) :
    wpAny (model prog w) A (subscriptTail value slice (.ref l) (.int k u)) Q E s := by
  have hlen := hi.length
  obtain ⟨j, rfl⟩ := Int.le.dest h0
  rw [tn_sub] at h
  have hj3 : j < ns.length := by rw [Int.add_comm] at hk; exact Int.ofNat_le.mp hk
  have hj4 : j < vs.length := by rw [hlen]; exact hj3
  obtain ⟨t, e⟩ := hi.int_at j _ (List.getElem?_eq_getElem hj4)
  have hx : (Value.none :: vs).toArray[(1 + (j : Int)).toNat]? = some (.int (ns.getD j 0) t) := by
    rw [show (1 + (j : Int)).toNat = j + 1 by rw [Int.add_comm]; rfl, List.getElem?_toArray, List.getElem?_cons_succ, ← e]
    exact List.getElem?_eq_getElem hj4
  exact tail_any hl.typeIs PySem.F.slot_list_getitem.lookup (wpAny_getItem_list hl (Int.le_trans (by decide) h0) hhi hx (h t)) hs
end
end
theorem p2_ok {n : Nat} {s : Int} {f : Nat} (h : (n : Int) + 1 ≤ s * 2 ^ (f + 1)) : (n : Int) + 1 ≤ 2 * s * 2 ^ f := by
  rw [Int.pow_succ] at h
  have e : s * (2 ^ f * 2) = 2 * s * 2 ^ f := by rw [← Int.mul_assoc, Int.mul_comm (s * 2 ^ f) 2, Int.mul_assoc]
  omega
theorem p2_ok' {n : Nat} {s : Int} {f : Nat} (h : (n : Int) + 1 ≤ s * 2 ^ (f + 1)) : (n : Int) + 1 ≤ (2 * s + 1) * 2 ^ f := by
  have h1 := p2_ok h
  have hp := pow_pos f
  rw [Int.add_mul, Int.one_mul]
  omega
theorem thr_nil {ns : List Int} {f : Nat} {s : Int} (h : (ns.length : Int) + 1 ≤ s) : thr ns (f + 1) s = [] := by simp [thr, h]
theorem thr_cons {ns : List Int} {f : Nat} {s : Int} (h : ¬ (ns.length : Int) + 1 ≤ s) : thr ns (f + 1) s = thr ns f (2 * s) ++ [ns.getD (s - 1).toNat 0] ++ thr ns f (2 * s + 1) := by simp [thr, h]
theorem C_thr (w : World) (T : Addr) (vs : List Value) (ns : List Int) (nn : Nat) (hi : IntsAre vs ns) (hlen : ns.length ≤ 20) :
  ∀ (f : Nat), f ≤ 6 → ∀ (spot : Int) (led : List (Addr × Obj)) (hT : (T, listOf (Value.none :: vs).toArray nn) ∈ led) (ts : Tok), 1 ≤ spot → spot ≤ 100000 → (ns.length : Int) + 1 ≤ spot * 2 ^ f →
    Con w led 167 [.ref T, .int spot ts] (f + 1) (8 * (f + 1)) (fun v n' => ∃ d rv rn, v = .ref d ∧ n' = (d, listOf rv.toArray rn) :: led ∧ IntsAre rv (thr ns f spot) ∧ ∀ p ∈ led, p.1 < d) := by
  intro f
  induction f with
  | zero =>
    intro hf6 spot led hT ts hs0 hs1 hf2
    have hlv := hi.length
    simp only [Int.pow_zero, Int.mul_one] at hf2
    unfold Con
    w_top off
    k_with_none
    k_with "mem" => first | (with_reducible assumption) | ((repeat (first | exact List.Mem.head _ | refine List.Mem.tail _ ?_)); (try assumption); done)
    k_with "all" => first | assumption | exact ne_of_gt37 (by assumption) | exact ne_of_gt30 (by assumption) | ((with_reducible rename AllLt _ _ => hA9); first | exact allLt_ne hA9 (by omega) | exact ktn_ltOf hA9 | (clear hA9; k_all)) | ((with_reducible rename _ ∧ _ => hA9); obtain ⟨hA1, hA2⟩ := hA9; k_all)
    k_with "all" => ((with_reducible rename AllLt _ _ => hA9); first | exact lt_tail3 hA9 | exact t37_ne hA9)
    k_with "call builtin:len" => k_dflt (refine KM.len_K (n := ns.length + 1) (by k_asm) (by k_mem) (by simp [hlv]) (by omega) ?_)
    k_with "newList" => (k_dflt (refine' newList_K ?k1 ?k2 ?_; (case k1 => k_asm); (case k2 => k_asm); k_whole); intro D8 h8 F8 N8 l8; replace l8 := allLt_of l8)
    k_fill
    intro p loose mean mg mb dp un gd cn csn csg csc csm a ccd cl outer A₀ base h₀ L m s Q E hB hF hX hN hT' hC1 hC2 hdp hun hret
    walk1
    k_steps
    all_goals first | (exfalso; omega) | skip
    exact hret _ _ _ _ ⟨D8, [], _, rfl, rfl, .nil, fun p hp => ktn_ltOf l8 p hp⟩ (by k_asm) (by k_asm)
  | succ f IH0 =>
    intro hf6 spot led hT ts hs0 hs1 hf2
    have hlv := hi.length
    have IH := fun spot led hT ts h1 h2 h3 => IH0 (by omega) spot led hT ts h1 h2 h3
    have hth := fun s => thr_len6 ns (f := f) (by omega) s
    have hth0 := hth (2 * spot)
    have hth1 := hth (2 * spot + 1)
    clear IH0
    unfold Con
    w_top off
    k_with_none
    k_with "mem" => first | (with_reducible assumption) | ((repeat (first | exact List.Mem.head _ | refine List.Mem.tail _ ?_)); (try assumption); done)
    k_with "all" => first | assumption | exact ne_of_gt37 (by assumption) | exact ne_of_gt30 (by assumption) | ((with_reducible rename AllLt _ _ => hA9); first | exact allLt_ne hA9 (by omega) | exact ktn_ltOf hA9 | (clear hA9; k_all)) | ((with_reducible rename _ ∧ _ => hA9); obtain ⟨hA1, hA2⟩ := hA9; k_all)
    k_with "all" => ((with_reducible rename AllLt _ _ => hA9); first | exact lt_tail3 hA9 | exact t37_ne hA9)
    k_with "call builtin:len" => k_dflt (refine KM.len_K (n := ns.length + 1) (by k_asm) (by k_mem) (by simp [hlv]) (by omega) ?_)
    k_with "newList" => (k_dflt (refine' newList_K ?k1 ?k2 ?_; (case k1 => k_asm); (case k2 => k_asm); k_whole); intro D8 h8 F8 N8 l8; replace l8 := allLt_of l8)
    k_with "subscriptTail" => (k_dflt (refine' tree_item ?k1 hi ?k2 ?k3 ?k4 ?_; (case k1 => exact News.isList (by k_asm) (by k_mem)); (case k2 => omega); (case k3 => omega); (case k4 => omega)); intro t8)
    k_with "binaryOp Add ref ref" => (k_dflt (refine' kmk_add_ints ?F ?N ?a ?b ?i ?j ?_ ?z; (case F => k_asm); (case N => k_asm); (case a => exact News.isList (by k_asm) (by k_mem)); (case b => exact News.isList (by k_asm) (by k_mem)); (case i => l_ints); (case j => l_ints); (case z => (rw [sizeLine_eq]; simp only [List.length_append, List.length_cons, List.length_nil]; omega))); intro D8 ws8 h8 F8 N8 l8 hI8; replace l8 := allLt_of l8)
    k_fill
    intro p loose mean mg mb dp un gd cn csn csg csc csm a ccd cl outer A₀ base h₀ L m s Q E hB hF hX hN hT' hC1 hC2 hdp hun hret
    walk1
    k_with "call ref" => ((with_reducible show wpAny _ _ (call (Value.ref _) [Value.ref _, Value.int _ _]) _ _ _); k_dflt (refine' Con.use (IH _ _ ?m _ ?h1 ?h2 ?h3) ?k1 ?k2 ?k3 ?k4 ?k5 ?k6 ?k7 ?k8 ?k9 ?_; (case k1 => k_asm); (case k2 => k_asm); (case k3 => k_asm); (case k4 => k_asm); (case k5 => k_asm); (case k6 => k_asm); (case k7 => k_asm); (case m => k_mem); (case h1 => omega); (case h2 => omega); (case h3 => first | exact p2_ok hf2 | exact p2_ok' hf2); (case k8 => ktr_room); (case k9 => ktr_units); k_whole); intro v9 n9 h9 tk9 hR9 F9 N9; obtain ⟨d9, rv9, rn9, e9, f9, hi9, l9⟩ := hR9; subst e9; subst f9; replace l9 := allLt_of l9; (try dsimp only); (try k_fold))
    k_steps
    · exact hret _ _ _ _ ⟨D8, [], _, rfl, rfl, (by rw [thr_nil (by omega)]; exact .nil), fun p hp => ktn_ltOf l8 p hp⟩ (by k_asm) (by k_asm)
    · exact hret _ _ _ _ ⟨D8, _, _, rfl, rfl, (by rw [thr_cons (by omega)]; exact hI8), fun p hp => ktn_ltOf l8 p (by k_mem)⟩ (by k_asm) (cb_drop (by k_asm) (List.forall_mem_cons.mpr ⟨.head _, fun p hp => by k_mem⟩))
section
open PySem.Calls
noncomputable def led (ns : List Int) (p : Int → Bool) : Nat → List Int → Int → List Int × Int
  | 0, acc, w => (acc, w)
  | f + 1, acc, w => if w < (ns.length : Int) + 1 then (if p (ns.getD (w - 1).toNat 0) = true then led ns p f (acc ++ [1]) (2 * w + 1) else led ns p f (acc ++ [0]) (2 * w)) else (acc, w)
theorem led_key (ns : List Int) (p : Int → Bool) : ∀ (k f : Nat) (acc : List Int) (w : Int), 1 ≤ w → (ns.length : Int) + 1 ≤ w + (k : Int) → k ≤ f → led ns p f acc w = led ns p k acc w := by
  intro k
  induction k with
  | zero =>
    intro f acc w h1 h2 _
    cases f with
    | zero => rfl
    | succ f => exact if_neg (no_w h2)
  | succ k ih =>
    intro f acc w h1 h2 h3
    cases f with
    | zero => cases h3
    | succ f =>
      unfold led
      rw [ih f _ (2 * w + 1) (two_w h1).2 (step_w h1 h2).2 (Nat.le_of_succ_le_succ h3), ih f _ (2 * w) (two_w h1).1 (step_w h1 h2).1 (Nat.le_of_succ_le_succ h3)]
noncomputable def LedI (ns : List Int) (p : Int → Bool) (acc : List Int) (w : Int) : Prop := led ns p 20 [] 1 = led ns p 20 acc w
noncomputable def LedJ (ns : List Int) (p : Int → Bool) (acc : List Int) (w : Int) : Prop := 1 ≤ w ∧ w ≤ 2 * (ns.length : Int) + 1 ∧ (acc.length : Int) < w ∧ LedI ns p acc w
theorem LedJ.start (ns : List Int) (p : Int → Bool) : (1 : Int) ≤ 1 ∧ (1 : Int) ≤ 2 * (ns.length : Int) + 1 ∧ ((([] : List Int).length : Nat) : Int) < 1 ∧ LedI ns p [] 1 := ⟨by omega, by omega, by simp, rfl⟩
theorem app1 {acc : List Int} {x w : Int} (h1 : 1 ≤ w) (h3 : (acc.length : Int) < w) : (((acc ++ [x]).length : Nat) : Int) < w * 2 := by
  rw [List.length_append, List.length_singleton, Int.mul_comm, Int.two_mul]
  exact Int.lt_of_le_of_lt (Int.add_one_le_of_lt h3) (Int.lt_add_of_pos_right _ h1)
theorem LedJ.one {ns : List Int} {p : Int → Bool} {acc : List Int} {w : Int} (h1 : 1 ≤ w) (h3 : (acc.length : Int) < w) (h : LedI ns p acc w) (hw : w < (ns.length : Int) + 1) (hl : ns.length ≤ 14) (hp : p (ns.getD (w - 1).toNat 0) = true) :
    1 ≤ w * 2 ^ (1 : Int).toNat + 1 ∧ w * 2 ^ (1 : Int).toNat + 1 ≤ 2 * (ns.length : Int) + 1 ∧ (((acc ++ [(1 : Int)]).length : Nat) : Int) < w * 2 ^ (1 : Int).toNat + 1 ∧ LedI ns p (acc ++ [1]) (w * 2 ^ (1 : Int).toNat + 1) := by
  have hb := (two_w h1).2
  rw [two1]
  refine ⟨by rw [Int.mul_comm]; exact hb, by rw [Int.mul_comm]; exact Int.add_le_add_right (Int.mul_le_mul_of_nonneg_left (Int.le_of_lt_add_one hw) (by decide)) _, Int.lt_add_one_of_le (Int.le_of_lt (app1 h1 h3)), ?_⟩
  unfold LedI at h ⊢
  rw [h, Int.mul_comm, led_key ns p 19 20 (acc ++ [1]) (2 * w + 1) hb (up_w 19 hb (Int.ofNat_le.mpr (Nat.le_trans hl (by decide)))) (by decide)]
  exact (if_pos hw).trans (if_pos hp)
theorem LedJ.zero {ns : List Int} {p : Int → Bool} {acc : List Int} {w : Int} (h1 : 1 ≤ w) (h3 : (acc.length : Int) < w) (h : LedI ns p acc w) (hw : w < (ns.length : Int) + 1) (hl : ns.length ≤ 14) (hp : p (ns.getD (w - 1).toNat 0) = false) :
    1 ≤ w * 2 ^ (1 : Int).toNat + 0 ∧ w * 2 ^ (1 : Int).toNat + 0 ≤ 2 * (ns.length : Int) + 1 ∧ (((acc ++ [(0 : Int)]).length : Nat) : Int) < w * 2 ^ (1 : Int).toNat + 0 ∧ LedI ns p (acc ++ [0]) (w * 2 ^ (1 : Int).toNat + 0) := by
  have hb := (two_w h1).1
  rw [two1, Int.add_zero]
  refine ⟨by rw [Int.mul_comm]; exact hb, by rw [Int.mul_comm]; exact Int.le_add_one (Int.mul_le_mul_of_nonneg_left (Int.le_of_lt_add_one hw) (by decide)), app1 h1 h3, ?_⟩
  unfold LedI at h ⊢
  rw [h, Int.mul_comm, led_key ns p 19 20 (acc ++ [0]) (2 * w) hb (up_w 19 hb (Int.ofNat_le.mpr (Nat.le_trans hl (by decide)))) (by decide)]
  exact (if_pos hw).trans (if_neg (by rw [hp]; decide))
theorem LedI.done {ns : List Int} {p : Int → Bool} {acc : List Int} {w : Int} (h : LedI ns p acc w) (hw : ¬ w < (ns.length : Int) + 1) : led ns p 20 [] 1 = (acc, w) := by
  unfold LedI at h
  rw [h]
  simp [led, hw]
theorem leP_t2 {x y : Int} (h : y ≤ x) : leP x y = true := by simp [leP, h]
theorem leP_f2 {x y : Int} (h : ¬ y ≤ x) : leP x y = false := by simp [leP]; omega
end
theorem C_led_both : (∀ (w : World) (T : Addr) (vs : List Value) (ns : List Int) (nn : Nat) (hi : IntsAre vs ns) (hlen : ns.length ≤ 14) (lg : List (Addr × Obj)) (hT : (T, listOf (Value.none :: vs).toArray nn) ∈ lg) (asked : Int) (ta : Tok), Con w lg 174 [.ref T, .int asked ta, .bool false] 3 40 (fun v n' => ∃ t tn d tv dn u, v = .ref t ∧ n' = (t, ({ cls := .type "tuple", data := .seq [Value.ref d, Value.int (led ns (ltP asked) 20 [] 1).2 u].toArray tn } : Obj)) :: (d, listOf tv.toArray dn) :: lg ∧ IntsAre tv (led ns (ltP asked) 20 [] 1).1 ∧ d < t ∧ (∀ p ∈ lg, p.1 < d))) ∧ (∀ (w : World) (T : Addr) (vs : List Value) (ns : List Int) (nn : Nat) (hi : IntsAre vs ns) (hlen : ns.length ≤ 14) (lg : List (Addr × Obj)) (hT : (T, listOf (Value.none :: vs).toArray nn) ∈ lg) (asked : Int) (ta : Tok), Con w lg 174 [.ref T, .int asked ta, .bool true] 3 40 (fun v n' => ∃ t tn d tv dn u, v = .ref t ∧ n' = (t, ({ cls := .type "tuple", data := .seq [Value.ref d, Value.int (led ns (leP asked) 20 [] 1).2 u].toArray tn } : Obj)) :: (d, listOf tv.toArray dn) :: lg ∧ IntsAre tv (led ns (leP asked) 20 [] 1).1 ∧ d < t ∧ (∀ p ∈ lg, p.1 < d))) := by
  refine ⟨?_, ?_⟩
  · intro w T vs ns nn hi hlen lg hT asked ta
    have hlv := hi.length
    unfold Con
    w_top off
    k_with_none
    k_with "mem" => first | (with_reducible assumption) | ((repeat (first | exact List.Mem.head _ | refine List.Mem.tail _ ?_)); (try assumption); done)
    k_with "all" => first | assumption | exact ne_of_gt37 (by assumption) | exact ne_of_gt30 (by assumption) | ((with_reducible rename AllLt _ _ => hA9); first | exact allLt_ne hA9 (by omega) | exact ktn_ltOf hA9 | (clear hA9; k_all)) | ((with_reducible rename _ ∧ _ => hA9); obtain ⟨hA1, hA2⟩ := hA9; k_all)
    k_with "all" => ((with_reducible rename AllLt _ _ => hA9); first | exact lt_tail3 hA9 | exact t37_ne hA9)
    k_with "call builtin:len" => k_dflt (refine KM.len_K (n := ns.length + 1) (by k_asm) (by k_mem) (by simp [hlv]) (by omega) ?_)
    k_with "newList" => (k_dflt (refine' newList_K ?k1 ?k2 ?_; (case k1 => k_asm); (case k2 => k_asm); k_whole); intro D8 h8 F8 N8 l8; replace l8 := allLt_of l8)
    k_with "subscriptTail" => ((with_reducible show wpAny _ _ (subscriptTail (Expr.Name (Str.ofString "a") _) _ (Value.ref _) (Value.int _ _)) _ _ _); k_dflt (refine' tree_item ?k1 hi ?k2 ?k3 ?k4 ?_; (case k1 => exact News.isList (by k_asm) (by k_mem)); (case k2 => omega); (case k3 => omega); (case k4 => omega)); intro t8)
    k_with "binaryOp LShift int int" => ((with_reducible refine lshift_int_small ?kb1 ?kb2 ?kb3 ?_); (case kb1 => omega); (case kb2 => omega); (case kb3 => omega))
    k_with "state" => first | exact LedJ.start _ _ | exact LedJ.one (by assumption) (by assumption) (by assumption) (by omega) hlen (ltP_t (by assumption)) | exact LedJ.zero (by assumption) (by assumption) (by assumption) (by omega) hlen (ltP_f (by assumption))
    k_with "measure" => rw [two1]; omega
    k_with "exec While Compare cons nil" => k_while_given ["asked"] (fun asked script turns way => 1 ≤ way ∧ way ≤ 2 * (script.length : Int) + 1 ∧ (turns.length : Int) < way ∧ LedI script (ltP asked) turns way) (fun asked script turns way => ((script.length : Int) + 1 - way).toNat) "turns" "way"
    k_fill
    intro p loose mean mg mb dp un gd cn csn csg csc csm a ccd cl outer A₀ base h₀ L m s Q E hB hF hX hN hT' hC1 hC2 hdp hun hret
    k_steps
    have hd9 := LedI.done (ns := ns) (p := ltP asked) (by assumption) (by omega)
    have e1 := congrArg Prod.fst hd9
    have e2 := congrArg Prod.snd hd9
    dsimp only at e1 e2
    subst e1
    subst e2
    rename (_ ∧ _ ∧ AllLt _ _) => l1
    exact hret _ _ _ _ ⟨_, _, D8, _, _, _, rfl, rfl, by assumption, l1.2.1, fun p hp => ktn_ltOf l8 p hp⟩ (by k_asm) (cb_drop (by k_asm) (sub2 (.head _) (.tail _ (.tail _ (.head _))) (fun p hp => .tail _ (.tail _ (.tail _ hp)))))
  · intro w T vs ns nn hi hlen lg hT asked ta
    have hlv := hi.length
    unfold Con
    w_top off
    k_with_none
    k_with "mem" => first | (with_reducible assumption) | ((repeat (first | exact List.Mem.head _ | refine List.Mem.tail _ ?_)); (try assumption); done)
    k_with "all" => first | assumption | exact ne_of_gt37 (by assumption) | exact ne_of_gt30 (by assumption) | ((with_reducible rename AllLt _ _ => hA9); first | exact allLt_ne hA9 (by omega) | exact ktn_ltOf hA9 | (clear hA9; k_all)) | ((with_reducible rename _ ∧ _ => hA9); obtain ⟨hA1, hA2⟩ := hA9; k_all)
    k_with "all" => ((with_reducible rename AllLt _ _ => hA9); first | exact lt_tail3 hA9 | exact t37_ne hA9)
    k_with "call builtin:len" => k_dflt (refine KM.len_K (n := ns.length + 1) (by k_asm) (by k_mem) (by simp [hlv]) (by omega) ?_)
    k_with "newList" => (k_dflt (refine' newList_K ?k1 ?k2 ?_; (case k1 => k_asm); (case k2 => k_asm); k_whole); intro D8 h8 F8 N8 l8; replace l8 := allLt_of l8)
    k_with "subscriptTail" => ((with_reducible show wpAny _ _ (subscriptTail (Expr.Name (Str.ofString "a") _) _ (Value.ref _) (Value.int _ _)) _ _ _); k_dflt (refine' tree_item ?k1 hi ?k2 ?k3 ?k4 ?_; (case k1 => exact News.isList (by k_asm) (by k_mem)); (case k2 => omega); (case k3 => omega); (case k4 => omega)); intro t8)
    k_with "binaryOp LShift int int" => ((with_reducible refine lshift_int_small ?kb1 ?kb2 ?kb3 ?_); (case kb1 => omega); (case kb2 => omega); (case kb3 => omega))
    k_with "state" => first | exact LedJ.start _ _ | exact LedJ.one (by assumption) (by assumption) (by assumption) (by omega) hlen (leP_t2 (by assumption)) | exact LedJ.zero (by assumption) (by assumption) (by assumption) (by omega) hlen (leP_f2 (by assumption))
    k_with "measure" => rw [two1]; omega
    k_with "exec While Compare cons nil" => k_while_given ["asked"] (fun asked script turns way => 1 ≤ way ∧ way ≤ 2 * (script.length : Int) + 1 ∧ (turns.length : Int) < way ∧ LedI script (leP asked) turns way) (fun asked script turns way => ((script.length : Int) + 1 - way).toNat) "turns" "way"
    k_fill
    intro p loose mean mg mb dp un gd cn csn csg csc csm a ccd cl outer A₀ base h₀ L m s Q E hB hF hX hN hT' hC1 hC2 hdp hun hret
    k_steps
    have hd9 := LedI.done (ns := ns) (p := leP asked) (by assumption) (by omega)
    have e1 := congrArg Prod.fst hd9
    have e2 := congrArg Prod.snd hd9
    dsimp only at e1 e2
    subst e1
    subst e2
    rename (_ ∧ _ ∧ AllLt _ _) => l1
    exact hret _ _ _ _ ⟨_, _, D8, _, _, _, rfl, rfl, by assumption, l1.2.1, fun p hp => ktn_ltOf l8 p hp⟩ (by k_asm) (cb_drop (by k_asm) (sub2 (.head _) (.tail _ (.tail _ (.head _))) (fun p hp => .tail _ (.tail _ (.tail _ hp)))))
theorem C_led_lt (w : World) (T : Addr) (vs : List Value) (ns : List Int) (nn : Nat) (hi : IntsAre vs ns) (hlen : ns.length ≤ 14) (lg : List (Addr × Obj)) (hT : (T, listOf (Value.none :: vs).toArray nn) ∈ lg) (asked : Int) (ta : Tok) : Con w lg 174 [.ref T, .int asked ta, .bool false] 3 40 (fun v n' => ∃ t tn d tv dn u, v = .ref t ∧ n' = (t, ({ cls := .type "tuple", data := .seq [Value.ref d, Value.int (led ns (ltP asked) 20 [] 1).2 u].toArray tn } : Obj)) :: (d, listOf tv.toArray dn) :: lg ∧ IntsAre tv (led ns (ltP asked) 20 [] 1).1 ∧ d < t ∧ (∀ p ∈ lg, p.1 < d)) :=
  C_led_both.1 w T vs ns nn hi hlen lg hT asked ta
theorem C_led_le (w : World) (T : Addr) (vs : List Value) (ns : List Int) (nn : Nat) (hi : IntsAre vs ns) (hlen : ns.length ≤ 14) (lg : List (Addr × Obj)) (hT : (T, listOf (Value.none :: vs).toArray nn) ∈ lg) (asked : Int) (ta : Tok) : Con w lg 174 [.ref T, .int asked ta, .bool true] 3 40 (fun v n' => ∃ t tn d tv dn u, v = .ref t ∧ n' = (t, ({ cls := .type "tuple", data := .seq [Value.ref d, Value.int (led ns (leP asked) 20 [] 1).2 u].toArray tn } : Obj)) :: (d, listOf tv.toArray dn) :: lg ∧ IntsAre tv (led ns (leP asked) 20 [] 1).1 ∧ d < t ∧ (∀ p ∈ lg, p.1 < d)) :=
  C_led_both.2 w T vs ns nn hi hlen lg hT asked ta
section
open PySem.Calls
theorem Con.perm {w : World} {l1 l2 : List (Addr × Obj)} {f : Addr} {args : List Value} {D U : Nat} {R R2 : Value → List (Addr × Obj) → Prop} (C : Con w l1 f args D U R) (hin : ∀ p ∈ l1, p ∈ l2) (hout : ∀ v n', R v n' → ∃ n2, R2 v n2 ∧ ∀ p ∈ n2, p ∈ n') : Con w l2 f args D U R2 :=
  fun p loose mean mg mb dp un gd cn csn csg csc csm a ccd cl outer A₀ base h₀ L m s Q E hB hF hX hN hT hC1 hC2 hdp hun hret =>
    C p loose mean mg mb dp un gd cn csn csg csc csm a ccd cl outer A₀ base h₀ L m s Q E hB hF hX (fun p hp => hN p (hin p hp)) hT hC1 hC2 hdp hun fun v n' h' tk' hR F N => by
      obtain ⟨n2, h1, h2⟩ := hout v n' hR
      exact hret v n2 h' tk' h1 F fun p hp => N p (h2 p hp)
noncomputable def Full (st : List (Addr × Obj)) : Prop := IsSt st ∧ st.length = 4
theorem C_outF (w : World) (st news : List (Addr × Obj)) (hst : Full st) (hnews : ∀ p ∈ news, p.1 ≠ 37) (heads : List (Addr × Obj)) (hh : ∀ p ∈ heads, p.1 ≠ 37) (way lap steps count : Int) (ta tb tc td : Tok)
  (hs0 : 0 ≤ steps) (hs1 : steps ≤ 10) (hc0 : 3 ≤ count) (hc1' : count ≤ 14) (hl0 : -100 ≤ lap) (hl1 : lap ≤ 100)
  (ha0 : -512 ≤ way - 1 * 2 ^ steps.toNat + lap * (count + 1)) (ha1 : way - 1 * 2 ^ steps.toNat + lap * (count + 1) < 512) :
  Con w (heads ++ (st ++ news)) 153 [.int way ta, .int lap tb, .int steps tc, .int count td] 22 200 (fun v n' => ∃ t nn u1 u2, v = .ref t ∧ n' = (t, ({ cls := .type "tuple", data := .seq [Value.int ((way - 1 * 2 ^ steps.toNat + lap * (count + 1)) / (count + 1)) u1, Value.int ((way - 1 * 2 ^ steps.toNat + lap * (count + 1)) % (count + 1)) u2].toArray nn } : Obj)) :: (heads ++ (st ++ news)) ∧ ∀ p ∈ heads ++ news, p.1 < t) := by
  refine Con.perm (C_out w st (heads ++ news) hst.1 (fun p hp => (List.mem_append.mp hp).elim (hh p) (hnews p)) way lap steps count ta tb tc td hs0 hs1 hc0 hc1' hl0 hl1 ha0 ha1) (fun p hp => ?_) fun v n' hR => ?_
  · rcases List.mem_append.mp hp with h | h
    · exact List.mem_append_right _ (List.mem_append_left _ h)
    · rcases List.mem_append.mp h with h | h
      · exact List.mem_append_left _ h
      · exact List.mem_append_right _ (List.mem_append_right _ h)
  · obtain ⟨t, nn, u1, u2, st', hk, rfl, rfl, hl⟩ := hR
    have e := hk.2.2.1 hst.2
    subst e
    refine ⟨_, ⟨t, nn, u1, u2, rfl, rfl, hl⟩, fun p hp => ?_⟩
    rcases List.mem_cons.mp hp with rfl | h
    · exact .head _
    · refine .tail _ ?_
      rcases List.mem_append.mp h with h | h
      · exact List.mem_append_right _ (List.mem_append_left _ h)
      · rcases List.mem_append.mp h with h | h
        · exact List.mem_append_left _ h
        · exact List.mem_append_right _ (List.mem_append_right _ h)
theorem C_d2iF (w : World) (st news : List (Addr × Obj)) (hst : Full st) (hnews : ∀ p ∈ news, p.1 ≠ 37) (heads : List (Addr × Obj)) (hh : ∀ p ∈ heads, p.1 ≠ 37) (d : Addr) (vs : List Value) (ns : List Int) (nn : Nat) (n : Int) (tn : Tok)
  (hi : IntsAre vs ns) (hlen : ns.length ≤ 10) (hd : (d, listOf vs.toArray nn) ∈ heads) (hn0 : 0 ≤ n) (hn1 : n ≤ 10) (hbnd : ∀ i k, (vd n (seg ns i k)).natAbs < 2 ^ 64) :
  Con w (heads ++ (st ++ news)) 42 [.ref d, .int n tn] 12 96 (fun v n' => (∃ t, v = .int (vd n ns) t) ∧ n' = heads ++ (st ++ news)) := by
  obtain ⟨⟨c1, oc1, o, vs1, t1, rfl, hoc, hv, hc1, hok⟩, hl⟩ := hst
  cases o with
  | none => exact absurd hl (by decide : ¬ (3 = 4))
  | some x =>
    obtain ⟨c2, oc2⟩ := x
    obtain ⟨vs2, t2, h2, h3⟩ := hok
    refine Con.mono (Con.perm (C_d2i_hit w (((30, tab1 c1) :: (c1, oc1) :: heads) ++ news) c2 oc2 vs2 t2 d vs ns nn n tn ?_ h2 h3 hi (by omega) (List.mem_append_left _ (.tail _ (.tail _ hd))) hn0 hn1 hbnd) ?_ fun v n' hR => ?_) (fun _ _ h => h) (by omega) (by omega)
    · intro p hp
      rcases List.mem_append.mp hp with h | h
      · rcases List.mem_cons.mp h with rfl | h
        · exact show (30 : Nat) ≠ 37 by decide
        · rcases List.mem_cons.mp h with rfl | h
          · exact hc1
          · exact hh p h
      · exact hnews p h
    · intro p hp
      simp only [T37, List.mem_append, List.mem_cons, List.not_mem_nil, or_false] at hp ⊢
      rcases hp with h | h | ((h | h | h) | h) <;> simp [h]
    · obtain ⟨h1, rfl⟩ := hR
      refine ⟨_, ⟨h1, rfl⟩, fun p hp => ?_⟩
      simp only [T37, List.mem_append, List.mem_cons, List.not_mem_nil, or_false] at hp ⊢
      rcases hp with h | (h | h | h | h) | h <;> simp [h]
end
section
open PySem.Calls
theorem foldl_filter (p : Int → Bool) : ∀ (ns acc : List Int), ns.foldl (fun l k => if p k = true then l ++ [k] else l) acc = acc ++ ns.filter p
  | [], acc => by simp
  | y :: r, acc => by
    rw [List.foldl_cons, foldl_filter p r]
    by_cases h : p y = true
    · rw [if_pos h, List.filter_cons_of_pos h, List.append_assoc, List.singleton_append]
    · rw [if_neg h, List.filter_cons_of_neg h]
theorem len_cnt {prog : Program} {w : World} {A : Around} {E : Value → Shared → Prop} {s : Shared} {h₀ : Heap} {L D : Addr} {news : List (Addr × Obj)} {ys : List Value} {p : Int → Bool} {ns : List Int} {Q : Value → Shared → Prop}
    (N : News h₀ L s.heap news) (hm : (D, LCg.lst ys) ∈ news) (hi : IntsAre ys (ns.foldl (fun l k => if p k = true then l ++ [k] else l) [])) (hlen : ns.length ≤ 100) (h : Q (.int (cnt p ns) (s.toks + 1)) { s with toks := s.toks + 1 + 1 }) :
    wpAny (model prog w) A (call (.builtin "len") [.ref D]) Q E s := by
  have hl := hi.length
  rw [foldl_filter, List.nil_append] at hl
  have hle := List.length_filter_le p ns
  refine KM.len_K (its := ys.toArray) (c := ys.length) (n := (ns.filter p).length) N hm (by simpa using hl) (by omega) ?_
  exact h
end
theorem getD_map {xs : List Int} {g : Int → Int} {k : Nat} (hk : k < xs.length) : (xs.map g).getD k 0 = g (xs.getD k 0) := by simp [List.getD, List.getElem?_eq_getElem hk]
theorem cut_ex {ns : List Int} {p : Int → Bool} (hS : Srt ns) (hM : Mono p) : ∀ m : Nat, m ≤ ns.length → ∃ n : Nat, n ≤ m ∧ (∀ k : Nat, k < n → p (ns.getD k 0) = true) ∧ (∀ k : Nat, n ≤ k → k < m → p (ns.getD k 0) = false)
  | 0, _ => ⟨0, Nat.le_refl _, fun k hk => absurd hk (Nat.not_lt_zero _), fun k _ hk => absurd hk (Nat.not_lt_zero _)⟩
  | m + 1, hm => by
    obtain ⟨n, h1, h2, h3⟩ := cut_ex hS hM m (Nat.le_of_lt hm)
    cases q : p (ns.getD m 0) with
    | true => exact ⟨m + 1, Nat.le_refl _, fun k hk => hM _ _ (hS k m (Nat.le_of_lt_succ hk) hm) q, fun k hk hl => absurd hl (Nat.not_lt.mpr hk)⟩
    | false =>
      refine ⟨n, Nat.le_succ_of_le h1, h2, fun k hk hl => ?_⟩
      rcases Nat.lt_or_eq_of_le (Nat.le_of_lt_succ hl) with e | e
      · exact h3 k hk e
      · rw [e]; exact q
theorem p_rank {ns : List Int} {p : Int → Bool} (hS : Srt ns) (hM : Mono p) {k : Nat} (hk : k < ns.length) : p (ns.getD k 0) = ltP (cnt p ns) (k : Int) := by
  obtain ⟨n, h1, h2, h3⟩ := cut_ex hS hM ns.length (Nat.le_refl _)
  unfold cnt ltP
  rw [filter_cut p ns n h1 h2 h3]
  by_cases q : k < n
  · rw [h2 k q]; exact (decide_eq_true (Int.ofNat_lt.mpr q)).symm
  · rw [h3 k (Nat.not_lt.mp q) hk]; exact (decide_eq_false fun h => q (Int.ofNat_lt.mp h)).symm
theorem sub1 {w : Int} {n : Nat} (hw : 1 ≤ w) (hl : w < (n : Int) + 1) : (w - 1).toNat < n := by
  obtain ⟨k, rfl⟩ := Int.le.dest hw
  rw [tn_sub]
  rw [Int.add_comm] at hl
  exact Int.ofNat_lt.mp (Int.lt_of_add_lt_add_right hl)
theorem led_map {xs : List Int} {g : Int → Int} {p q : Int → Bool} (h : ∀ k : Nat, k < xs.length → p (g (xs.getD k 0)) = q (xs.getD k 0)) : ∀ (f : Nat) (acc : List Int) (w : Int), 1 ≤ w → led (xs.map g) p f acc w = led xs q f acc w
  | 0, _, _, _ => rfl
  | f + 1, acc, w, hw => by
    unfold led
    rw [List.length_map]
    by_cases hl : w < (xs.length : Int) + 1
    · rw [if_pos hl, if_pos hl]
      have hk := sub1 hw hl
      rw [getD_map hk, h _ hk, led_map h f _ _ (two_w hw).2, led_map h f _ _ (two_w hw).1]
    · rw [if_neg hl, if_neg hl]
theorem thr_map {xs : List Int} {g : Int → Int} : ∀ (f : Nat) (w : Int), 1 ≤ w → thr (xs.map g) f w = (thr xs f w).map g
  | 0, _, _ => rfl
  | f + 1, w, hw => by
    unfold thr
    rw [List.length_map]
    by_cases hl : (xs.length : Int) + 1 ≤ w
    · rw [if_pos hl, if_pos hl]; rfl
    · rw [if_neg hl, if_neg hl, getD_map (sub1 hw (Int.not_le.mp hl)), thr_map f _ (two_w hw).1, thr_map f _ (two_w hw).2, List.map_append, List.map_append]; rfl
noncomputable def stp (c : Nat) : Int := if c ≤ 7 then 3 else 4
noncomputable def idx (c : Nat) : List Int := (List.range c).map fun k : Nat => plc (c : Int) (stp c) (1 + (k : Int))
theorem plcs_idx (c : Nat) : plcs (c : Int) (stp c) c = (c : Int) :: idx c := rfl
noncomputable def spt (W : Int) : Int := W / 2 ^ Int.toNat ((Builtin.Int.intBits (Builtin.bitXor W (W + 1)) : Nat) : Int)
noncomputable def chkR (c r : Nat) (d : List Int × Int) : Bool :=
  decide ((d.2 - 1 * 2 ^ (stp c).toNat) / ((c : Int) + 1) = (d.1.length : Nat) - stp c) && decide ((d.2 - 1 * 2 ^ (stp c).toNat) % ((c : Int) + 1) = (r : Nat)) && decide (d.1.length ≤ 5) && decide (vd 1 (d.1.reverse ++ [1]) = d.2) && d.1.all (fun e => decide (0 ≤ e) && decide (e < 2)) && decide (0 ≤ spt d.2) && decide (spt d.2 ≤ (c : Nat)) && decide (((c : Int) :: idx c).getD (spt d.2).toNat 0 = (r : Nat)) && decide (1 ≤ d.2) && decide (d.2 ≤ 31)
noncomputable def chk (c : Nat) : Bool :=
  (idx c).all (fun i => decide (0 ≤ i) && decide (i < (c : Int))) && decide (thr (idx c) 4 1 = (List.range c).map fun k : Nat => (k : Int)) && (List.range (c + 1)).all fun r => chkR c r (led (idx c) (ltP (r : Int)) 20 [] 1)
theorem chk_all : ∀ c ∈ [4, 5, 6, 7, 8, 9, 10], chk c = true := by decide +kernel
theorem mem7 {c : Nat} (h0 : 4 ≤ c) (h1 : c ≤ 10) : c ∈ [4, 5, 6, 7, 8, 9, 10] := by
  obtain ⟨k, rfl⟩ := Nat.le.dest h0
  have hk : k < 7 := Nat.lt_of_add_lt_add_left (Nat.lt_succ_of_le h1)
  have : ∀ k, k < 7 → 4 + k ∈ [4, 5, 6, 7, 8, 9, 10] := by decide
  exact this k hk
theorem chk_at {c : Nat} (h0 : 4 ≤ c) (h1 : c ≤ 10) : chk c = true := chk_all c (mem7 h0 h1)
noncomputable def tre (ns : List Int) : List Int := (idx ns.length).map fun i => ns.getD i.toNat 0
theorem tre_len (ns : List Int) : (tre ns).length = ns.length := by unfold tre idx; simp
theorem thr_tre {ns : List Int} (h0 : 4 ≤ ns.length) (h1 : ns.length ≤ 10) : thr (tre ns) 4 1 = ns := by
  have hc := chk_at h0 h1
  unfold chk at hc
  simp only [Bool.and_eq_true, decide_eq_true_eq] at hc
  unfold tre
  rw [thr_map _ _ (by omega), hc.1.2, List.map_map]
  apply List.ext_getElem?
  intro i
  rw [List.getElem?_map]
  by_cases hi : i < ns.length
  · simp [hi]
  · simp [hi]
noncomputable def FD (c : Nat) (st asked r : Int) (d : List Int × Int) : Prop :=
  (-512 ≤ d.2 - 1 * 2 ^ st.toNat + asked * ((c : Nat) + 1)) ∧ (d.2 - 1 * 2 ^ st.toNat + asked * ((c : Nat) + 1) < 512) ∧ ((d.2 - 1 * 2 ^ st.toNat + asked * ((c : Nat) + 1)) / ((c : Nat) + 1) = asked + ((d.1.length : Nat) - st)) ∧ ((d.2 - 1 * 2 ^ st.toNat + asked * ((c : Nat) + 1)) % ((c : Nat) + 1) = r) ∧ (d.1.length ≤ 5) ∧ (vd 1 (d.1.reverse ++ [1]) = d.2) ∧ (∀ i k, (Mine.vd 1 (seg (d.1.reverse ++ [1]) i k)).natAbs < 2 ^ 64) ∧ (0 ≤ spt d.2) ∧ (spt d.2 ≤ (c : Nat)) ∧ (((c : Int) :: idx c).getD (spt d.2).toNat 0 = r) ∧ (1 ≤ d.2) ∧ (d.2 ≤ 31)
theorem fd_bnd {x p l : Int} (h1 : 1 ≤ x) (h2 : x ≤ 31) (h3 : p ≤ 16) (h4 : 1 ≤ p) (h5 : -220 ≤ l) (h6 : l ≤ 220) : -512 ≤ x - 1 * p + l ∧ x - 1 * p + l < 512 := by
  rw [Int.one_mul]
  exact ⟨Int.le_trans (by decide : (-512 : Int) ≤ 1 - 16 + -220) (Int.add_le_add (Int.sub_le_sub h1 h3) h5), Int.lt_of_le_of_lt (Int.add_le_add (Int.sub_le_sub h2 h4) h6) (by decide)⟩
theorem mul_rng {a : Int} {n : Nat} (k0 : -20 ≤ a) (k1 : a ≤ 20) (h1 : n ≤ 10) : -220 ≤ a * ((n : Nat) + 1) ∧ a * ((n : Nat) + 1) ≤ 220 := by
  have hn : (0 : Int) ≤ (n : Nat) + 1 := Int.add_nonneg (Int.natCast_nonneg n) (by decide)
  have hn2 : ((n : Nat) : Int) + 1 ≤ 11 := Int.add_le_add_right (Int.ofNat_le.mpr h1) 1
  have a1 : a * ((n : Nat) + 1) ≤ 20 * ((n : Nat) + 1) := Int.mul_le_mul_of_nonneg_right k1 hn
  have a2 : -20 * ((n : Nat) + 1) ≤ a * ((n : Nat) + 1) := Int.mul_le_mul_of_nonneg_right k0 hn
  have a3 : (20 : Int) * ((n : Nat) + 1) ≤ 20 * 11 := Int.mul_le_mul_of_nonneg_left hn2 (by decide)
  refine ⟨Int.le_trans ?_ a2, Int.le_trans a1 a3⟩
  rw [Int.neg_mul]
  exact Int.neg_le_neg a3
theorem stp_p (c : Nat) : (2 : Int) ^ (stp c).toNat ≤ 16 ∧ (1 : Int) ≤ 2 ^ (stp c).toNat := by unfold stp; split <;> decide
theorem found_math {ns : List Int} {p : Int → Bool} (h0 : 4 ≤ ns.length) (h1 : ns.length ≤ 10) (hS : Srt ns) (hM : Mono p) {asked : Int} (k0 : -20 ≤ asked) (k1 : asked ≤ 20) :
    FD ns.length (stp ns.length) asked (cnt p ns) (led (tre ns) p 20 [] 1) := by
  have hc := chk_at h0 h1
  unfold chk at hc
  simp only [Bool.and_eq_true, decide_eq_true_eq] at hc
  obtain ⟨⟨hin, -⟩, hR⟩ := hc
  have hr1 := cnt_le p ns
  obtain ⟨r, hr⟩ := Int.eq_ofNat_of_zero_le (cnt_nonneg p ns)
  have e : led (tre ns) p 20 [] 1 = led (idx ns.length) (ltP (cnt p ns)) 20 [] 1 := by
    refine led_map (fun k hk => ?_) _ _ _ (Int.le_refl _)
    have hm : (idx ns.length).getD k 0 ∈ idx ns.length := by rw [List.getD_eq_getElem?_getD, List.getElem?_eq_getElem hk]; exact List.getElem_mem hk
    have hb := List.all_eq_true.mp hin _ hm
    simp only [Bool.and_eq_true, decide_eq_true_eq] at hb
    obtain ⟨j, hj⟩ := Int.eq_ofNat_of_zero_le hb.1
    rw [hj] at hb ⊢
    exact p_rank hS hM (Int.ofNat_lt.mp hb.2)
  rw [e, hr]
  rw [hr] at hr1
  have hq := List.all_eq_true.mp hR r (List.mem_range.mpr (Nat.lt_succ_of_le (Int.ofNat_le.mp hr1)))
  generalize led (idx ns.length) (ltP ((r : Nat) : Int)) 20 [] 1 = d at hq
  unfold chkR at hq
  simp only [Bool.and_eq_true, decide_eq_true_eq] at hq
  obtain ⟨⟨⟨⟨⟨⟨⟨⟨⟨g1, g2⟩, g3⟩, g4⟩, g5⟩, g6⟩, g7⟩, g8⟩, g9⟩, g10⟩ := hq
  have hst := stp_p ns.length
  have hl := mul_rng k0 k1 h1
  have hb := fd_bnd g9 g10 hst.1 hst.2 hl.1 hl.2
  have hz : ((ns.length : Nat) : Int) + 1 ≠ 0 := Int.ne_of_gt (Int.lt_add_one_of_le (Int.natCast_nonneg _))
  unfold FD
  refine ⟨hb.1, hb.2, ?_, ?_, g3, g4, ?_, g6, g7, g8, g9, g10⟩
  · rw [Int.add_mul_ediv_right _ _ hz, g1, Int.add_comm]
  · rw [Int.add_mul_emod_self_right, g2]
  · refine vd_seg_bnd (by decide) (by decide) (by rw [List.length_append, List.length_reverse]; exact Nat.succ_le_succ g3) fun x hx => ?_
    rcases List.mem_append.mp hx with h | h
    · have := List.all_eq_true.mp g5 x (List.mem_reverse.mp h)
      simp only [Bool.and_eq_true, decide_eq_true_eq] at this
      exact this
    · rw [List.mem_singleton.mp h]; decide
theorem tre_in {ns : List Int} (h0 : 4 ≤ ns.length) (h1 : ns.length ≤ 10) : ∀ i ∈ idx ns.length, 0 ≤ i ∧ i < (ns.length : Nat) := fun i hi => by
  have hc := chk_at h0 h1
  unfold chk at hc
  simp only [Bool.and_eq_true, decide_eq_true_eq] at hc
  have := List.all_eq_true.mp hc.1.1 i hi
  simpa using this
theorem srt_of {ns : List Int} (h : ns.Pairwise (· ≤ ·)) : Srt ns := fun i j hij hj => by
  have hi : i < ns.length := Nat.lt_of_le_of_lt hij hj
  rw [List.getD_eq_getElem?_getD, List.getD_eq_getElem?_getD, List.getElem?_eq_getElem hi, List.getElem?_eq_getElem hj]
  rcases Nat.lt_or_eq_of_le hij with e | e
  · exact List.pairwise_iff_getElem.mp h i j hi hj e
  · subst e; exact Int.le_refl _
theorem of_srt {ns : List Int} (h : Srt ns) : ns.Pairwise (· ≤ ·) := by
  refine List.pairwise_iff_getElem.mpr fun i j hi hj hij => ?_
  have := h i j (Nat.le_of_lt hij) hj
  rw [List.getD_eq_getElem?_getD, List.getD_eq_getElem?_getD, List.getElem?_eq_getElem hi, List.getElem?_eq_getElem hj] at this
  exact this
theorem ins_perm (x : Int) (ns : List Int) : (ins x ns).Perm (x :: ns) := by
  unfold ins
  refine List.perm_middle.trans ?_
  rw [List.take_append_drop]
theorem ins_len (x : Int) (ns : List Int) : (ins x ns).length = ns.length + 1 := by have := (ins_perm x ns).length_eq; simpa using this
theorem ins_srt {x : Int} {ns : List Int} (h : Srt ns) : Srt (ins x ns) := by
  have hp := of_srt h
  have key : ∀ k : Nat, k < ns.length → ltP x (ns.getD k 0) = ltP (cnt (ltP x) ns) (k : Int) := fun k hk => p_rank h (ltP_mono x) hk
  obtain ⟨r, hr⟩ := Int.eq_ofNat_of_zero_le (cnt_nonneg (ltP x) ns)
  refine srt_of ?_
  unfold ins
  rw [hr] at key ⊢
  have lo : ∀ y ∈ List.take r ns, y < x := fun y hy => by
    obtain ⟨k, hk, rfl⟩ := List.mem_iff_getElem.mp hy
    rw [List.length_take] at hk
    have hk2 : k < ns.length := Nat.lt_of_lt_of_le hk (Nat.min_le_right _ _)
    have := (key k hk2).trans (decide_eq_true (Int.ofNat_lt.mpr (Nat.lt_of_lt_of_le hk (Nat.min_le_left _ _))))
    rw [List.getD_eq_getElem?_getD, List.getElem?_eq_getElem hk2, Option.getD_some] at this
    rw [List.getElem_take]
    exact of_decide_eq_true this
  have hi : ∀ z ∈ List.drop r ns, x ≤ z := fun y hy => by
    obtain ⟨k, hk, rfl⟩ := List.mem_iff_getElem.mp hy
    rw [List.length_drop] at hk
    have hk2 : r + k < ns.length := by rw [Nat.add_comm]; exact Nat.add_lt_of_lt_sub hk
    have := (key (r + k) hk2).trans (decide_eq_false fun h => absurd (Int.ofNat_lt.mp h) (Nat.not_lt.mpr (Nat.le_add_right _ _)))
    rw [List.getD_eq_getElem?_getD, List.getElem?_eq_getElem hk2, Option.getD_some] at this
    rw [List.getElem_drop]
    exact Int.not_lt.mp (of_decide_eq_false this)
  refine List.pairwise_append.mpr ⟨hp.sublist (List.take_sublist _ _), List.pairwise_cons.mpr ⟨hi, hp.sublist (List.drop_sublist _ _)⟩, fun y hy z hz => ?_⟩
  rcases List.mem_cons.mp hz with rfl | hz
  · exact Int.le_of_lt (lo y hy)
  · exact Int.le_trans (Int.le_of_lt (lo y hy)) (hi z hz)
noncomputable def insAll (vs : List Int) : List Int := vs.foldl (fun l x => ins x l) []
theorem insAll_snoc (vs : List Int) (x : Int) : insAll (vs ++ [x]) = ins x (insAll vs) := by unfold insAll; rw [List.foldl_append]; rfl
theorem insAll_ok : ∀ vs : List Int, Srt (insAll vs) ∧ (insAll vs).Perm vs := by
  intro vs
  suffices h : ∀ (vs l : List Int), Srt l → Srt (vs.foldl (fun l x => ins x l) l) ∧ (vs.foldl (fun l x => ins x l) l).Perm (l ++ vs) by
    have := h vs [] (fun i j _ hj => absurd hj (by simp))
    simpa [insAll] using this
  intro vs
  induction vs with
  | nil => intro l hl; exact ⟨hl, by simp⟩
  | cons x r ih =>
    intro l hl
    obtain ⟨a, b⟩ := ih (ins x l) (ins_srt hl)
    refine ⟨a, b.trans ?_⟩
    have := (ins_perm x l).append_right r
    refine this.trans ?_
    simpa using (List.perm_middle (a := x) (l₁ := l) (l₂ := r)).symm
theorem perm_sorted_eq {a b : List Int} (h : a.Perm b) (ha : a.Pairwise (· ≤ ·)) (hb : b.Pairwise (· ≤ ·)) : a = b :=
  h.eq_of_pairwise (fun x y _ _ h1 h2 => Int.le_antisymm h1 h2) ha hb
theorem stp_bits {c : Nat} (h0 : 4 ≤ c) (h1 : c ≤ 10) : ((Builtin.Int.intBits ((c : Int) * 2 ^ Int.toNat 1 + 1) : Nat) : Int) = stp c + 1 := by
  have : ∀ c ∈ [4, 5, 6, 7, 8, 9, 10], ((Builtin.Int.intBits (((c : Nat) : Int) * 2 ^ Int.toNat 1 + 1) : Nat) : Int) = stp c + 1 := by decide +kernel
  exact this c (mem7 h0 h1)
section
open PySem.Calls
section
variable {prog : Program} {w : World} {A : Around} {E : Value → Shared → Prop} {s : Shared}
theorem row_item {value slice : PySem.Expr} {l : Addr} {vs : List Value} {ns : List Int} {k : Int} {u : Tok} {Q : Value → Shared → Prop}
    (hl : s.heap.IsList l vs.toArray) (hi : IntsAre vs ns) (h0 : 0 ≤ k) (hk : k < (ns.length : Nat)) (hhi : k < 2 ^ 63) (h : ∀ t, Q (.int (ns.getD k.toNat 0) t) s)
    (hs : subscripted slice false (.ref l) (.int k u) = operate [.ref l, .int k u] (getItem (.ref l) (.int k u)) := by with_unfolding_all rfl) :
    wpAny (model prog w) A (subscriptTail value slice (.ref l) (.int k u)) Q E s := by
  have hlen := hi.length
  obtain ⟨v, hv⟩ : ∃ v, vs[k.toNat]? = some v := ⟨_, List.getElem?_eq_getElem (by omega : k.toNat < vs.length)⟩
  obtain ⟨t, rfl⟩ := hi.int_at k.toNat v hv
  exact tail_any hl.typeIs PySem.F.slot_list_getitem.lookup (wpAny_getItem_list hl h0 hhi (by simpa using hv) (h t)) hs
theorem rshift_spt {W : Int} {t u : Tok} {Q : Value → Shared → Prop} (h : Q (.int (spt W) s.toks) { s with toks := s.toks + 1 }) :
    wpAny (model prog w) A (binaryOp .RShift (.int W t) (.int ((Builtin.Int.intBits (Builtin.bitXor W (W + 1)) : Nat) : Int) u)) Q E s := by
  refine rshift_int (Int.natCast_nonneg _) ?_
  rw [Int.fdiv_eq_ediv_of_nonneg _ (Int.le_of_lt (pow_pos _))]
  exact h
theorem len_cntT {h₀ : Heap} {L D : Addr} {news : List (Addr × Obj)} {ys : List Value} {p : Int → Bool} {ns : List Int} {r : Int} {Q : Value → Shared → Prop}
    (N : News h₀ L s.heap news) (hm : (D, LCg.lst ys) ∈ news) (hi : IntsAre ys (ns.foldl (fun l k => if p k = true then l ++ [k] else l) [])) (hr : cnt p ns = r) (hlen : ns.length ≤ 100) (h : Q (.int r (s.toks + 1)) { s with toks := s.toks + 1 + 1 }) :
    wpAny (model prog w) A (call (.builtin "len") [.ref D]) Q E s := by
  subst hr; exact len_cnt N hm hi hlen h
end
abbrev tup2 (a b : Value) (n : Nat) : Obj := { cls := .type "tuple", data := .seq [a, b].toArray n }
theorem C_ledT_lt (w : World) (T : Addr) (vs : List Value) (ns : List Int) (nn : Nat) (hi : IntsAre vs ns) (hlen : ns.length ≤ 14) (lg : List (Addr × Obj)) (hT : (T, listOf (Value.none :: vs).toArray nn) ∈ lg) (asked : Int) (ta : Tok) {TL : List Int} {W : Int} (hled : led ns (ltP asked) 20 [] 1 = (TL, W)) :
    Con w lg 174 [.ref T, .int asked ta, .bool false] 3 40 (fun v n' => ∃ t tn d tv dn u, v = .ref t ∧ n' = (t, tup2 (.ref d) (.int W u) tn) :: (d, listOf tv.toArray dn) :: lg ∧ IntsAre tv TL ∧ d < t ∧ (∀ p ∈ lg, p.1 < d)) := by
  have h := C_led_lt w T vs ns nn hi hlen lg hT asked ta
  rw [hled] at h; exact h
theorem C_ledT_le (w : World) (T : Addr) (vs : List Value) (ns : List Int) (nn : Nat) (hi : IntsAre vs ns) (hlen : ns.length ≤ 14) (lg : List (Addr × Obj)) (hT : (T, listOf (Value.none :: vs).toArray nn) ∈ lg) (asked : Int) (ta : Tok) {TL : List Int} {W : Int} (hled : led ns (leP asked) 20 [] 1 = (TL, W)) :
    Con w lg 174 [.ref T, .int asked ta, .bool true] 3 40 (fun v n' => ∃ t tn d tv dn u, v = .ref t ∧ n' = (t, tup2 (.ref d) (.int W u) tn) :: (d, listOf tv.toArray dn) :: lg ∧ IntsAre tv TL ∧ d < t ∧ (∀ p ∈ lg, p.1 < d)) := by
  have h := C_led_le w T vs ns nn hi hlen lg hT asked ta
  rw [hled] at h; exact h
theorem C_outT (w : World) (st news : List (Addr × Obj)) (hst : Full st) (hnews : ∀ p ∈ news, p.1 ≠ 37) (heads : List (Addr × Obj)) (hh : ∀ p ∈ heads, p.1 ≠ 37) (way lap steps count : Int) (ta tb tc td : Tok)
  (hs0 : 0 ≤ steps) (hs1 : steps ≤ 10) (hc0 : 3 ≤ count) (hc1' : count ≤ 14) (hl0 : -100 ≤ lap) (hl1 : lap ≤ 100)
  (ha0 : -512 ≤ way - 1 * 2 ^ steps.toNat + lap * (count + 1)) (ha1 : way - 1 * 2 ^ steps.toNat + lap * (count + 1) < 512)
  {q r : Int} (hq : (way - 1 * 2 ^ steps.toNat + lap * (count + 1)) / (count + 1) = q) (hr : (way - 1 * 2 ^ steps.toNat + lap * (count + 1)) % (count + 1) = r) :
  Con w (heads ++ (st ++ news)) 153 [.int way ta, .int lap tb, .int steps tc, .int count td] 22 200 (fun v n' => ∃ t nn u1 u2, v = .ref t ∧ n' = (t, tup2 (.int q u1) (.int r u2) nn) :: (heads ++ (st ++ news)) ∧ ∀ p ∈ heads ++ news, p.1 < t) := by
  have h := C_outF w st news hst hnews heads hh way lap steps count ta tb tc td hs0 hs1 hc0 hc1' hl0 hl1 ha0 ha1
  rw [hq, hr] at h; exact h
theorem C_bl2T (w : World) (news : List (Addr × Obj)) (row : Addr) (vs : List Value) (ns : List Int) (nn : Nat) (x : Int) (tx : Tok)
  (hrow : (row, listOf vs.toArray nn) ∈ news) (hI : IntsAre vs ns) (hlen : ns.length ≤ 100) (hS : Srt ns) {r : Int} (hr : cnt (ltP x) ns = r) :
  Con w news 83 [.ref row, .int x tx] 1 8 (fun v news' => (∃ t, v = .int r t) ∧ news' = news) := by
  subst hr; exact C_bl2 w news row vs ns nn x tx hrow hI hlen hS
theorem C_br2T (w : World) (news : List (Addr × Obj)) (row : Addr) (vs : List Value) (ns : List Int) (nn : Nat) (x : Int) (tx : Tok)
  (hrow : (row, listOf vs.toArray nn) ∈ news) (hI : IntsAre vs ns) (hlen : ns.length ≤ 100) (hS : Srt ns) {r : Int} (hr : cnt (leP x) ns = r) :
  Con w news 65 [.ref row, .int x tx] 1 8 (fun v news' => (∃ t, v = .int r t) ∧ news' = news) := by
  subst hr; exact C_br2 w news row vs ns nn x tx hrow hI hlen hS
theorem C_d2iT (w : World) (st news : List (Addr × Obj)) (hst : Full st) (hnews : ∀ p ∈ news, p.1 ≠ 37) (heads : List (Addr × Obj)) (hh : ∀ p ∈ heads, p.1 ≠ 37) (d : Addr) (vs : List Value) (ns : List Int) (nn : Nat) (n : Int) (tn : Tok)
  (hi : IntsAre vs ns) (hlen : ns.length ≤ 10) (hd : (d, listOf vs.toArray nn) ∈ heads) (hn0 : 0 ≤ n) (hn1 : n ≤ 10) (hbnd : ∀ i k, (vd n (seg ns i k)).natAbs < 2 ^ 64) {W : Int} (hW : vd n ns = W) :
  Con w (heads ++ (st ++ news)) 42 [.ref d, .int n tn] 12 96 (fun v n' => (∃ t, v = .int W t) ∧ n' = heads ++ (st ++ news)) := by
  subst hW; exact C_d2iF w st news hst hnews heads hh d vs ns nn n tn hi hlen hd hn0 hn1 hbnd
theorem sub4 {a b c d : Addr × Obj} {l led : List (Addr × Obj)} (h1 : a ∈ led) (h2 : b ∈ led) (h3 : c ∈ led) (h4 : d ∈ led) (h5 : ∀ p ∈ l, p ∈ led) : ∀ p ∈ [a, b, c, d] ++ l, p ∈ led :=
  sub2 h1 h2 (sub2 h3 h4 h5)
theorem st37_lt {st rest : List (Addr × Obj)} {a : Addr} (hst : Full st) (h : AllLt a (st ++ rest)) : 37 < a := by
  obtain ⟨x, hx⟩ := st37 hst.1
  exact ktn_ltOf h _ (List.mem_append_left _ hx)
theorem d37_ok {st rest : List (Addr × Obj)} {a : Addr} {x1 x2 x3 x4 x5 : Addr × Obj} (hst : Full st) (h : AllLt a (x1 :: x2 :: x3 :: x4 :: x5 :: (st ++ rest))) : 37 < a := by
  obtain ⟨x, hx⟩ := st37 hst.1
  exact ktn_ltOf h _ (.tail _ (.tail _ (.tail _ (.tail _ (.tail _ (List.mem_append_left _ hx))))))
end
theorem C_found_both : (∀ (w : World) (st rest : List (Addr × Obj)) (hst : Full st) (hrest : ∀ p ∈ rest, p.1 ≠ 37) (row T P : Addr) (rv tv pv : List Value) (ns ns2 pl : List Int) (rn tn pn : Nat)
  (hr37 : row ≠ 37) (hT37 : T ≠ 37) (hP37 : P ≠ 37) (hi1 : IntsAre rv ns) (hi2 : IntsAre tv ns2) (hi3 : IntsAre pv pl)
  (hl2 : ns2.length = ns.length) (hl3 : pl.length = ns.length + 1) (hc0 : 3 ≤ ns.length) (hc1 : ns.length ≤ 14) (hS : Srt ns) (steps asked : Int) (ts ta : Tok) (hs0 : 0 ≤ steps) (hs1 : steps ≤ 10) (hk0 : -20 ≤ asked) (hk1 : asked ≤ 20)
  (TL : List Int) (W r : Int) (hled : led ns2 (ltP asked) 20 [] 1 = (TL, W)) (hr : cnt (ltP asked) ns = r)
  (HA0 : -512 ≤ W - 1 * 2 ^ steps.toNat + asked * ((ns.length : Nat) + 1)) (HA1 : W - 1 * 2 ^ steps.toNat + asked * ((ns.length : Nat) + 1) < 512)
  (Hq : (W - 1 * 2 ^ steps.toNat + asked * ((ns.length : Nat) + 1)) / ((ns.length : Nat) + 1) = asked + ((TL.length : Nat) - steps)) (Hm : (W - 1 * 2 ^ steps.toNat + asked * ((ns.length : Nat) + 1)) % ((ns.length : Nat) + 1) = r) (HT : TL.length ≤ 5)
  (H3 : vd 1 (TL.reverse ++ [1]) = W) (HB : ∀ i k, (vd 1 (seg (TL.reverse ++ [1]) i k)).natAbs < 2 ^ 64) (HS0 : 0 ≤ spt W) (HS1 : spt W ≤ (ns.length : Nat)) (H4 : pl.getD (spt W).toNat 0 = r) (HW0 : 1 ≤ W) (HW1 : W ≤ 31), Con w ((row, listOf rv.toArray rn) :: (T, listOf (Value.none :: tv).toArray tn) :: (P, listOf pv.toArray pn) :: (st ++ rest)) 179 [.ref row, .ref T, .ref P, .int steps ts, .int asked ta, .bool false] 30 300 (fun v n' => v = .bool true ∧ n' = (row, listOf rv.toArray rn) :: (T, listOf (Value.none :: tv).toArray tn) :: (P, listOf pv.toArray pn) :: (st ++ rest))) ∧ (∀ (w : World) (st rest : List (Addr × Obj)) (hst : Full st) (hrest : ∀ p ∈ rest, p.1 ≠ 37) (row T P : Addr) (rv tv pv : List Value) (ns ns2 pl : List Int) (rn tn pn : Nat)
  (hr37 : row ≠ 37) (hT37 : T ≠ 37) (hP37 : P ≠ 37) (hi1 : IntsAre rv ns) (hi2 : IntsAre tv ns2) (hi3 : IntsAre pv pl)
  (hl2 : ns2.length = ns.length) (hl3 : pl.length = ns.length + 1) (hc0 : 3 ≤ ns.length) (hc1 : ns.length ≤ 14) (hS : Srt ns) (steps asked : Int) (ts ta : Tok) (hs0 : 0 ≤ steps) (hs1 : steps ≤ 10) (hk0 : -20 ≤ asked) (hk1 : asked ≤ 20)
  (TL : List Int) (W r : Int) (hled : led ns2 (leP asked) 20 [] 1 = (TL, W)) (hr : cnt (leP asked) ns = r)
  (HA0 : -512 ≤ W - 1 * 2 ^ steps.toNat + asked * ((ns.length : Nat) + 1)) (HA1 : W - 1 * 2 ^ steps.toNat + asked * ((ns.length : Nat) + 1) < 512)
  (Hq : (W - 1 * 2 ^ steps.toNat + asked * ((ns.length : Nat) + 1)) / ((ns.length : Nat) + 1) = asked + ((TL.length : Nat) - steps)) (Hm : (W - 1 * 2 ^ steps.toNat + asked * ((ns.length : Nat) + 1)) % ((ns.length : Nat) + 1) = r) (HT : TL.length ≤ 5)
  (H3 : vd 1 (TL.reverse ++ [1]) = W) (HB : ∀ i k, (vd 1 (seg (TL.reverse ++ [1]) i k)).natAbs < 2 ^ 64) (HS0 : 0 ≤ spt W) (HS1 : spt W ≤ (ns.length : Nat)) (H4 : pl.getD (spt W).toNat 0 = r) (HW0 : 1 ≤ W) (HW1 : W ≤ 31), Con w ((row, listOf rv.toArray rn) :: (T, listOf (Value.none :: tv).toArray tn) :: (P, listOf pv.toArray pn) :: (st ++ rest)) 179 [.ref row, .ref T, .ref P, .int steps ts, .int asked ta, .bool true] 30 300 (fun v n' => v = .bool true ∧ n' = (row, listOf rv.toArray rn) :: (T, listOf (Value.none :: tv).toArray tn) :: (P, listOf pv.toArray pn) :: (st ++ rest))) := by
  refine ⟨?_, ?_⟩
  · intro w st rest hst hrest row T P rv tv pv ns ns2 pl rn tn pn hr37 hT37 hP37 hi1 hi2 hi3 hl2 hl3 hc0 hc1 hS steps asked ts ta hs0 hs1 hk0 hk1 TL W r hled hr HA0 HA1 Hq Hm HT H3 HB HS0 HS1 H4 HW0 HW1
    unfold Con
    w_top off
    k_with_none
    k_with "mem" => first | (with_reducible assumption) | ((repeat (first | exact List.Mem.head _ | refine List.Mem.tail _ ?_)); (try assumption); done)
    k_with "all" => first | assumption | exact ne_of_gt37 (by assumption) | exact ne_of_gt30 (by assumption) | ((with_reducible rename AllLt _ _ => hA9); first | exact allLt_ne hA9 (by omega) | exact ktn_ltOf hA9 | (clear hA9; k_all)) | ((with_reducible rename _ ∧ _ => hA9); obtain ⟨hA1, hA2⟩ := hA9; k_all)
    k_with "all" => ((with_reducible rename AllLt _ _ => hA9); first | exact lt_tail3 hA9 | exact t37_ne hA9)
    k_with "CompEnd" => k_dflt (first | exact ⟨_, _, _, rfl, by k_asm, by k_asm, off7, .inr ⟨_, by k_mem, rfl, _, rfl⟩, kci_el (by rw [if_pos (ltP_t (by assumption))]) rfl rfl⟩ | exact ⟨_, _, _, rfl, by k_asm, by k_asm, off7, .inr ⟨_, by k_mem, rfl, _, rfl⟩, kci_no (by rw [ltP_f (by assumption)]; exact if_neg Bool.false_ne_true) rfl⟩)
    k_with "call builtin:len" => k_dflt (refine len_cntT (by k_asm) (by k_mem) (by assumption) hr (by omega) ?_)
    k_with "eval ListComp" => (lcg_calm; k_dflt (refine LCt.ListComp_T (F₀ := by k_asm) (by with_unfolding_all rfl) (by decide) (by rfl) (by decide) (by rfl) ?_))
    k_with "CompSrcT" => k_dflt ((refine LCt.CompSrcT.ledger (k := rn) (its := rv.toArray) (by rfl) (by k_asm) (by k_asm) (by k_mem) (room_ints hi1 (by omega)) ?_); intro g7; (refine' kci_list (fun l k => if ltP asked k = true then l ++ [k] else l) hi1 (fun k7 t7 I7 oI7 C7 oC7 D7 m7 ys7 l7 h7 tk7 E7 hk7 hI7 hC7 hx7 F7 N7 off7 ne7 mk7 => ?_) ?_ ?_))
    k_with "binaryOp RShift int int" => k_dflt (refine rshift_spt ?_)
    k_with "subscriptTail" => ((with_reducible show wpAny _ _ (subscriptTail (Expr.Name (Str.ofString "a") _) _ (Value.ref _) (Value.int (spt _) _)) _ _ _); k_dflt (refine' row_item ?k1 hi3 HS0 (by omega) (by omega) ?_; (case k1 => exact News.isList (by k_asm) (by k_mem))); intro t8; rw [H4])
    k_fill
    intro p loose mean mg mb dp un gd cn csn csg csc csm a ccd cl outer A₀ base h₀ L m s Q E hB hF hX hN hT' hC1 hC2 hdp hun hret
    walk1
    rename (_ ∧ _ ∧ _ ∧ AllLt _ (st ++ rest)) => l5
    have h37 := ltN (st37_lt hst l5.2.2.2)
    k_with "call ref" => first | ((with_reducible show wpAny _ _ (call (Value.ref 174) _) _ _ _); ((with_reducible show wpAny _ _ (call (Value.ref _) [Value.ref _, Value.int _ _, Value.bool _]) _ _ _); k_dflt (refine' Con.use (C_ledT_lt w T tv ns2 tn hi2 (by omega) _ ?m asked _ hled) ?k1 ?k2 ?k3 ?k4 ?k5 ?k6 ?k7 ?k8 ?k9 ?_; (case k1 => k_asm); (case k2 => k_asm); (case k3 => k_asm); (case k4 => k_asm); (case k5 => k_asm); (case k6 => k_asm); (case k7 => k_asm); (case m => k_mem); (case k8 => ktr_room); (case k9 => ktr_units); k_whole); intro v9 n9 h9 tk9 hR9 F9 N9; obtain ⟨t9, tn9, d9, tv9, dn9, u9, e9, f9, hi9, ld9, l9⟩ := hR9; subst e9; subst f9; replace ld9 := ltN ld9; replace l9 := allLt_of l9; (have hd37 := ltN (d37_ok hst l9)); (try dsimp only); (try k_fold))) | ((with_reducible show wpAny _ _ (call (Value.ref 153) _) _ _ _); ((with_reducible show wpAny _ _ (call (Value.ref _) [Value.int _ _, Value.int _ _, Value.int _ _, Value.int _ _]) _ _ _); k_dflt (refine' Con.use (C_outT w st rest hst hrest [_, _, _, _, _, _, _] ?hh _ _ _ _ _ _ _ _ hs0 hs1 (by omega) (by omega) (by omega) (by omega) HA0 HA1 Hq Hm) ?k1 ?k2 ?k3 ?k4 ?k5 ?k6 ?k7 ?k8 ?k9 ?_; (case k1 => k_asm); (case k2 => k_asm); (case k3 => k_asm); (case k4 => exact cb_drop (by k_asm) (fun p hp => List.Mem.tail _ hp)); (case k5 => k_asm); (case k6 => k_asm); (case k7 => k_asm); (case hh => exact (List.forall_mem_cons.mpr ⟨(by refine neN ?_; omega), (List.forall_mem_cons.mpr ⟨(by refine neN ?_; omega), (List.forall_mem_cons.mpr ⟨(by refine neN ?_; omega), (List.forall_mem_cons.mpr ⟨(by refine neN ?_; omega), (List.forall_mem_cons.mpr ⟨hr37, (List.forall_mem_cons.mpr ⟨hT37, (List.forall_mem_cons.mpr ⟨hP37, (fun _ h => nomatch h)⟩)⟩)⟩)⟩)⟩)⟩)⟩)); (case k8 => ktr_room); (case k9 => ktr_units); k_whole); intro v9 n9 h9 tk9 hR9 F9 N9; obtain ⟨t8, nn8, u8, v8, e9, f9, l8⟩ := hR9; subst e9; subst f9; simp only [List.cons_append, List.nil_append] at N9; clear l8; (try dsimp only); (try k_fold))) | ((with_reducible show wpAny _ _ (call (Value.ref 83) _) _ _ _); ((with_reducible show wpAny _ _ (call (Value.ref _) [Value.ref _, Value.int _ _]) _ _ _); k_dflt (refine' Con.use (C_bl2T w _ row rv ns rn asked _ ?m hi1 (by omega) hS hr) ?k1 ?k2 ?k3 ?k4 ?k5 ?k6 ?k7 ?k8 ?k9 ?_; (case k1 => k_asm); (case k2 => k_asm); (case k3 => k_asm); (case k4 => k_asm); (case k5 => k_asm); (case k6 => k_asm); (case k7 => k_asm); (case m => k_mem); (case k8 => ktr_room); (case k9 => ktr_units); k_whole); intro v9 n9 h9 tk9 hR9 F9 N9; obtain ⟨⟨t9, e9⟩, f9⟩ := hR9; subst e9; subst f9; (try dsimp only); (try k_fold))) | k_dflt ((with_reducible show wpAny _ _ (call (Value.ref 42) _) _ _ _); ((with_reducible show wpAny _ _ (call (Value.ref _) [Value.ref _, Value.int _ _]) _ _ _); k_dflt (refine' Con.use (C_d2iT w st rest hst hrest [(_, listOf _ _), (row, listOf rv.toArray rn), (T, listOf (Value.none :: tv).toArray tn), (P, listOf pv.toArray pn)] ?hh _ _ _ _ _ _ ?hi ?hl (List.Mem.head _) (by omega) (by omega) HB H3) ?k1 ?k2 ?k3 ?k4 ?k5 ?k6 ?k7 ?k8 ?k9 ?_; (case k1 => k_asm); (case k2 => k_asm); (case k3 => k_asm); (case k4 => refine' cb_drop ?kN (sub4 ?s1 ?s2 ?s3 ?s4 ?s5); (case kN => k_asm); (case s1 => k_mem); (case s2 => k_mem); (case s3 => k_mem); (case s4 => k_mem); (case s5 => intro p hp; repeat (first | exact hp | refine List.Mem.tail _ ?_))); (case k5 => k_asm); (case k6 => k_asm); (case k7 => k_asm); (case hi => l_ints); (case hl => (simp only [List.length_append, List.length_reverse, List.length_cons, List.length_nil]; omega)); (case hh => exact (List.forall_mem_cons.mpr ⟨(by refine neN ?_; omega), List.forall_mem_cons.mpr ⟨hr37, List.forall_mem_cons.mpr ⟨hT37, List.forall_mem_cons.mpr ⟨hP37, (fun _ h => nomatch h)⟩⟩⟩⟩)); (case k8 => ktr_room); (case k9 => ktr_units); k_whole); intro v9 n9 h9 tk9 hR9 F9 N9; obtain ⟨⟨t9, e9⟩, f9⟩ := hR9; subst e9; subst f9; simp only [List.cons_append, List.nil_append] at N9; (try dsimp only); (try k_fold)))
    k_steps
    · exact absurd rfl (by assumption)
    · exact absurd rfl (by assumption)
    · refine hret _ _ _ _ ⟨by rw [H4]; simp, rfl⟩ (by k_asm) (cb_drop (by k_asm) (sub3 (by k_mem) (by k_mem) (by k_mem) (fun p hp => by (repeat (first | exact hp | refine List.Mem.tail _ ?_)))))
  · intro w st rest hst hrest row T P rv tv pv ns ns2 pl rn tn pn hr37 hT37 hP37 hi1 hi2 hi3 hl2 hl3 hc0 hc1 hS steps asked ts ta hs0 hs1 hk0 hk1 TL W r hled hr HA0 HA1 Hq Hm HT H3 HB HS0 HS1 H4 HW0 HW1
    unfold Con
    w_top off
    k_with_none
    k_with "mem" => first | (with_reducible assumption) | ((repeat (first | exact List.Mem.head _ | refine List.Mem.tail _ ?_)); (try assumption); done)
    k_with "all" => first | assumption | exact ne_of_gt37 (by assumption) | exact ne_of_gt30 (by assumption) | ((with_reducible rename AllLt _ _ => hA9); first | exact allLt_ne hA9 (by omega) | exact ktn_ltOf hA9 | (clear hA9; k_all)) | ((with_reducible rename _ ∧ _ => hA9); obtain ⟨hA1, hA2⟩ := hA9; k_all)
    k_with "all" => ((with_reducible rename AllLt _ _ => hA9); first | exact lt_tail3 hA9 | exact t37_ne hA9)
    k_with "CompEnd" => k_dflt (first | exact ⟨_, _, _, rfl, by k_asm, by k_asm, off7, .inr ⟨_, by k_mem, rfl, _, rfl⟩, kci_el (by rw [if_pos (leP_t2 (x := asked) (y := k7) (by omega))]) rfl rfl⟩ | exact ⟨_, _, _, rfl, by k_asm, by k_asm, off7, .inr ⟨_, by k_mem, rfl, _, rfl⟩, kci_no (by rw [leP_f2 (x := asked) (y := k7) (by omega)]; exact if_neg Bool.false_ne_true) rfl⟩)
    k_with "call builtin:len" => k_dflt (refine len_cntT (by k_asm) (by k_mem) (by assumption) hr (by omega) ?_)
    k_with "eval ListComp" => (lcg_calm; k_dflt (refine LCt.ListComp_T (F₀ := by k_asm) (by with_unfolding_all rfl) (by decide) (by rfl) (by decide) (by rfl) ?_))
    k_with "CompSrcT" => k_dflt ((refine LCt.CompSrcT.ledger (k := rn) (its := rv.toArray) (by rfl) (by k_asm) (by k_asm) (by k_mem) (room_ints hi1 (by omega)) ?_); intro g7; (refine' kci_list (fun l k => if leP asked k = true then l ++ [k] else l) hi1 (fun k7 t7 I7 oI7 C7 oC7 D7 m7 ys7 l7 h7 tk7 E7 hk7 hI7 hC7 hx7 F7 N7 off7 ne7 mk7 => ?_) ?_ ?_))
    k_with "binaryOp RShift int int" => k_dflt (refine rshift_spt ?_)
    k_with "subscriptTail" => ((with_reducible show wpAny _ _ (subscriptTail (Expr.Name (Str.ofString "a") _) _ (Value.ref _) (Value.int (spt _) _)) _ _ _); k_dflt (refine' row_item ?k1 hi3 HS0 (by omega) (by omega) ?_; (case k1 => exact News.isList (by k_asm) (by k_mem))); intro t8; rw [H4])
    k_fill
    intro p loose mean mg mb dp un gd cn csn csg csc csm a ccd cl outer A₀ base h₀ L m s Q E hB hF hX hN hT' hC1 hC2 hdp hun hret
    walk1
    rename (_ ∧ _ ∧ _ ∧ AllLt _ (st ++ rest)) => l5
    have h37 := ltN (st37_lt hst l5.2.2.2)
    k_with "call ref" => first | ((with_reducible show wpAny _ _ (call (Value.ref 174) _) _ _ _); ((with_reducible show wpAny _ _ (call (Value.ref _) [Value.ref _, Value.int _ _, Value.bool _]) _ _ _); k_dflt (refine' Con.use (C_ledT_le w T tv ns2 tn hi2 (by omega) _ ?m asked _ hled) ?k1 ?k2 ?k3 ?k4 ?k5 ?k6 ?k7 ?k8 ?k9 ?_; (case k1 => k_asm); (case k2 => k_asm); (case k3 => k_asm); (case k4 => k_asm); (case k5 => k_asm); (case k6 => k_asm); (case k7 => k_asm); (case m => k_mem); (case k8 => ktr_room); (case k9 => ktr_units); k_whole); intro v9 n9 h9 tk9 hR9 F9 N9; obtain ⟨t9, tn9, d9, tv9, dn9, u9, e9, f9, hi9, ld9, l9⟩ := hR9; subst e9; subst f9; replace ld9 := ltN ld9; replace l9 := allLt_of l9; (have hd37 := ltN (d37_ok hst l9)); (try dsimp only); (try k_fold))) | ((with_reducible show wpAny _ _ (call (Value.ref 153) _) _ _ _); ((with_reducible show wpAny _ _ (call (Value.ref _) [Value.int _ _, Value.int _ _, Value.int _ _, Value.int _ _]) _ _ _); k_dflt (refine' Con.use (C_outT w st rest hst hrest [_, _, _, _, _, _, _] ?hh _ _ _ _ _ _ _ _ hs0 hs1 (by omega) (by omega) (by omega) (by omega) HA0 HA1 Hq Hm) ?k1 ?k2 ?k3 ?k4 ?k5 ?k6 ?k7 ?k8 ?k9 ?_; (case k1 => k_asm); (case k2 => k_asm); (case k3 => k_asm); (case k4 => exact cb_drop (by k_asm) (fun p hp => List.Mem.tail _ hp)); (case k5 => k_asm); (case k6 => k_asm); (case k7 => k_asm); (case hh => exact (List.forall_mem_cons.mpr ⟨(by refine neN ?_; omega), (List.forall_mem_cons.mpr ⟨(by refine neN ?_; omega), (List.forall_mem_cons.mpr ⟨(by refine neN ?_; omega), (List.forall_mem_cons.mpr ⟨(by refine neN ?_; omega), (List.forall_mem_cons.mpr ⟨hr37, (List.forall_mem_cons.mpr ⟨hT37, (List.forall_mem_cons.mpr ⟨hP37, (fun _ h => nomatch h)⟩)⟩)⟩)⟩)⟩)⟩)⟩)); (case k8 => ktr_room); (case k9 => ktr_units); k_whole); intro v9 n9 h9 tk9 hR9 F9 N9; obtain ⟨t8, nn8, u8, v8, e9, f9, l8⟩ := hR9; subst e9; subst f9; simp only [List.cons_append, List.nil_append] at N9; clear l8; (try dsimp only); (try k_fold))) | ((with_reducible show wpAny _ _ (call (Value.ref 65) _) _ _ _); ((with_reducible show wpAny _ _ (call (Value.ref _) [Value.ref _, Value.int _ _]) _ _ _); k_dflt (refine' Con.use (C_br2T w _ row rv ns rn asked _ ?m hi1 (by omega) hS hr) ?k1 ?k2 ?k3 ?k4 ?k5 ?k6 ?k7 ?k8 ?k9 ?_; (case k1 => k_asm); (case k2 => k_asm); (case k3 => k_asm); (case k4 => k_asm); (case k5 => k_asm); (case k6 => k_asm); (case k7 => k_asm); (case m => k_mem); (case k8 => ktr_room); (case k9 => ktr_units); k_whole); intro v9 n9 h9 tk9 hR9 F9 N9; obtain ⟨⟨t9, e9⟩, f9⟩ := hR9; subst e9; subst f9; (try dsimp only); (try k_fold))) | k_dflt ((with_reducible show wpAny _ _ (call (Value.ref 42) _) _ _ _); ((with_reducible show wpAny _ _ (call (Value.ref _) [Value.ref _, Value.int _ _]) _ _ _); k_dflt (refine' Con.use (C_d2iT w st rest hst hrest [(_, listOf _ _), (row, listOf rv.toArray rn), (T, listOf (Value.none :: tv).toArray tn), (P, listOf pv.toArray pn)] ?hh _ _ _ _ _ _ ?hi ?hl (List.Mem.head _) (by omega) (by omega) HB H3) ?k1 ?k2 ?k3 ?k4 ?k5 ?k6 ?k7 ?k8 ?k9 ?_; (case k1 => k_asm); (case k2 => k_asm); (case k3 => k_asm); (case k4 => refine' cb_drop ?kN (sub4 ?s1 ?s2 ?s3 ?s4 ?s5); (case kN => k_asm); (case s1 => k_mem); (case s2 => k_mem); (case s3 => k_mem); (case s4 => k_mem); (case s5 => intro p hp; repeat (first | exact hp | refine List.Mem.tail _ ?_))); (case k5 => k_asm); (case k6 => k_asm); (case k7 => k_asm); (case hi => l_ints); (case hl => (simp only [List.length_append, List.length_reverse, List.length_cons, List.length_nil]; omega)); (case hh => exact (List.forall_mem_cons.mpr ⟨(by refine neN ?_; omega), List.forall_mem_cons.mpr ⟨hr37, List.forall_mem_cons.mpr ⟨hT37, List.forall_mem_cons.mpr ⟨hP37, (fun _ h => nomatch h)⟩⟩⟩⟩)); (case k8 => ktr_room); (case k9 => ktr_units); k_whole); intro v9 n9 h9 tk9 hR9 F9 N9; obtain ⟨⟨t9, e9⟩, f9⟩ := hR9; subst e9; subst f9; simp only [List.cons_append, List.nil_append] at N9; (try dsimp only); (try k_fold)))
    k_steps
    · exact absurd rfl (by assumption)
    · exact absurd rfl (by assumption)
    · refine hret _ _ _ _ ⟨by rw [H4]; simp, rfl⟩ (by k_asm) (cb_drop (by k_asm) (sub3 (by k_mem) (by k_mem) (by k_mem) (fun p hp => by (repeat (first | exact hp | refine List.Mem.tail _ ?_)))))
theorem C_found_false (w : World) (st rest : List (Addr × Obj)) (hst : Full st) (hrest : ∀ p ∈ rest, p.1 ≠ 37) (row T P : Addr) (rv tv pv : List Value) (ns ns2 pl : List Int) (rn tn pn : Nat)
  (hr37 : row ≠ 37) (hT37 : T ≠ 37) (hP37 : P ≠ 37) (hi1 : IntsAre rv ns) (hi2 : IntsAre tv ns2) (hi3 : IntsAre pv pl)
  (hl2 : ns2.length = ns.length) (hl3 : pl.length = ns.length + 1) (hc0 : 3 ≤ ns.length) (hc1 : ns.length ≤ 14) (hS : Srt ns) (steps asked : Int) (ts ta : Tok) (hs0 : 0 ≤ steps) (hs1 : steps ≤ 10) (hk0 : -20 ≤ asked) (hk1 : asked ≤ 20)
  (TL : List Int) (W r : Int) (hled : led ns2 (ltP asked) 20 [] 1 = (TL, W)) (hr : cnt (ltP asked) ns = r)
  (HA0 : -512 ≤ W - 1 * 2 ^ steps.toNat + asked * ((ns.length : Nat) + 1)) (HA1 : W - 1 * 2 ^ steps.toNat + asked * ((ns.length : Nat) + 1) < 512)
  (Hq : (W - 1 * 2 ^ steps.toNat + asked * ((ns.length : Nat) + 1)) / ((ns.length : Nat) + 1) = asked + ((TL.length : Nat) - steps)) (Hm : (W - 1 * 2 ^ steps.toNat + asked * ((ns.length : Nat) + 1)) % ((ns.length : Nat) + 1) = r) (HT : TL.length ≤ 5)
  (H3 : vd 1 (TL.reverse ++ [1]) = W) (HB : ∀ i k, (vd 1 (seg (TL.reverse ++ [1]) i k)).natAbs < 2 ^ 64) (HS0 : 0 ≤ spt W) (HS1 : spt W ≤ (ns.length : Nat)) (H4 : pl.getD (spt W).toNat 0 = r) (HW0 : 1 ≤ W) (HW1 : W ≤ 31) : Con w ((row, listOf rv.toArray rn) :: (T, listOf (Value.none :: tv).toArray tn) :: (P, listOf pv.toArray pn) :: (st ++ rest)) 179 [.ref row, .ref T, .ref P, .int steps ts, .int asked ta, .bool false] 30 300 (fun v n' => v = .bool true ∧ n' = (row, listOf rv.toArray rn) :: (T, listOf (Value.none :: tv).toArray tn) :: (P, listOf pv.toArray pn) :: (st ++ rest)) :=
  C_found_both.1 w st rest hst hrest row T P rv tv pv ns ns2 pl rn tn pn hr37 hT37 hP37 hi1 hi2 hi3 hl2 hl3 hc0 hc1 hS steps asked ts ta hs0 hs1 hk0 hk1 TL W r hled hr HA0 HA1 Hq Hm HT H3 HB HS0 HS1 H4 HW0 HW1
theorem C_found_true (w : World) (st rest : List (Addr × Obj)) (hst : Full st) (hrest : ∀ p ∈ rest, p.1 ≠ 37) (row T P : Addr) (rv tv pv : List Value) (ns ns2 pl : List Int) (rn tn pn : Nat)
  (hr37 : row ≠ 37) (hT37 : T ≠ 37) (hP37 : P ≠ 37) (hi1 : IntsAre rv ns) (hi2 : IntsAre tv ns2) (hi3 : IntsAre pv pl)
  (hl2 : ns2.length = ns.length) (hl3 : pl.length = ns.length + 1) (hc0 : 3 ≤ ns.length) (hc1 : ns.length ≤ 14) (hS : Srt ns) (steps asked : Int) (ts ta : Tok) (hs0 : 0 ≤ steps) (hs1 : steps ≤ 10) (hk0 : -20 ≤ asked) (hk1 : asked ≤ 20)
  (TL : List Int) (W r : Int) (hled : led ns2 (leP asked) 20 [] 1 = (TL, W)) (hr : cnt (leP asked) ns = r)
  (HA0 : -512 ≤ W - 1 * 2 ^ steps.toNat + asked * ((ns.length : Nat) + 1)) (HA1 : W - 1 * 2 ^ steps.toNat + asked * ((ns.length : Nat) + 1) < 512)
  (Hq : (W - 1 * 2 ^ steps.toNat + asked * ((ns.length : Nat) + 1)) / ((ns.length : Nat) + 1) = asked + ((TL.length : Nat) - steps)) (Hm : (W - 1 * 2 ^ steps.toNat + asked * ((ns.length : Nat) + 1)) % ((ns.length : Nat) + 1) = r) (HT : TL.length ≤ 5)
  (H3 : vd 1 (TL.reverse ++ [1]) = W) (HB : ∀ i k, (vd 1 (seg (TL.reverse ++ [1]) i k)).natAbs < 2 ^ 64) (HS0 : 0 ≤ spt W) (HS1 : spt W ≤ (ns.length : Nat)) (H4 : pl.getD (spt W).toNat 0 = r) (HW0 : 1 ≤ W) (HW1 : W ≤ 31) : Con w ((row, listOf rv.toArray rn) :: (T, listOf (Value.none :: tv).toArray tn) :: (P, listOf pv.toArray pn) :: (st ++ rest)) 179 [.ref row, .ref T, .ref P, .int steps ts, .int asked ta, .bool true] 30 300 (fun v n' => v = .bool true ∧ n' = (row, listOf rv.toArray rn) :: (T, listOf (Value.none :: tv).toArray tn) :: (P, listOf pv.toArray pn) :: (st ++ rest)) :=
  C_found_both.2 w st rest hst hrest row T P rv tv pv ns ns2 pl rn tn pn hr37 hT37 hP37 hi1 hi2 hi3 hl2 hl3 hc0 hc1 hS steps asked ts ta hs0 hs1 hk0 hk1 TL W r hled hr HA0 HA1 Hq Hm HT H3 HB HS0 HS1 H4 HW0 HW1
section
open PySem.Calls
noncomputable def val (n : Int) : Int := (n.fdiv 3).fmod 20 - 8
noncomputable def RowJ (row : Addr) (news : List (Addr × Obj)) (x : Str) (m₀ : Str → Option Value) (pre : List Int) (m : Str → Option Value) (nx : List (Addr × Obj)) : Prop :=
  ∃ rv rn, nx = (row, listOf rv.toArray rn) :: news ∧ IntsAre rv (insAll (pre.map val)) ∧ ∀ z, z ≠ x → m z = m₀ z
section
variable {prog : Program} {w : World} {A : Around} {E : Value → Shared → Prop} {s : Shared} {env : Env} {h₀ : Heap} {x : Str} {body : List Stmt} {Q : Flow → Shared → Prop}
theorem fr_same {L : Addr} {h : Heap} {m₁ m₀ : Str → Option Value} {v : Option Value} (hm : ∀ z, z ≠ x → m₁ z = m₀ z) (F : Fr h₀ L h (fun y => if y = x then v else m₁ y)) : Fr h₀ L h (fun y => if y = x then v else m₀ y) := by
  have e : (fun y => if y = x then v else m₁ y) = fun y => if y = x then v else m₀ y := by
    funext z
    by_cases h1 : z = x
    · simp [h1]
    · simp only [if_neg h1]; exact hm z h1
  rw [← e]; exact F
theorem fr_out {L : Addr} {h : Heap} {m₁ m₀ : Str → Option Value} (hm : ∀ z, z ≠ x → m₁ z = m₀ z) (F : Fr h₀ L h m₁) : Fr h₀ L h (fun y => if y = x then m₁ x else m₀ y) := by
  have e : m₁ = fun y => if y = x then m₁ x else m₀ y := by
    funext z
    by_cases h1 : z = x
    · simp [h1]
    · simp only [if_neg h1]; exact hm z h1
  rw [e] at F; simpa using F
theorem row_loop {row l : Addr} {vs : List Value} {ns : List Int} {nn n0 : Nat} {m₀ : Str → Option Value} {news : List (Addr × Obj)}
    (hh : A.handled = none) (hl : (l, listOf vs.toArray nn) ∈ news) (hi : IntsAre vs ns) (F : Fr h₀ env.locals s.heap m₀) (N : News h₀ env.locals s.heap ((row, listOf #[] n0) :: news))
    (turn : ∀ rv rn pre n t h tk own, pre.length < ns.length → OwnOff own (row :: news.map (·.1)) → IntsAre rv (insAll (pre.map val)) →
      Fr h₀ env.locals h (fun y => if y = x then some (.int n t) else m₀ y) → News h₀ env.locals h ((row, listOf rv.toArray rn) :: (news ++ own)) →
      wpAny (model prog w) A (execs body env) (InvPostN h₀ env.locals (RowJ row news x m₀ (pre ++ [n])) own (row :: news.map (·.1)) { s with heap := h, toks := tk } Q) E { s with heap := h, toks := tk })
    (done : ∀ rv rn u h tk, IntsAre rv (insAll (ns.map val)) → Fr h₀ env.locals h (fun y => if y = x then u else m₀ y) → News h₀ env.locals h ((row, listOf rv.toArray rn) :: news) → Q .next { s with heap := h, toks := tk }) :
    wpAny (model prog w) A (pyIter (.ref l)) (fun it s₂ => LoopAtV prog w A h₀ env x body Q E it s₂) E s := by
  refine iter_invNL (fun i m nx => RowJ row news x m₀ (ns.take i) m nx) hh (List.Mem.tail _ hl) hi F N ⟨[], n0, rfl, .nil, fun _ _ => rfl⟩ ?_ ?_
  · rintro i n t m₁ nx h tk own hn _ hoff _ ⟨rv, rn, rfl, hi', hm⟩ F₁ N₁
    have hs : ns.take (i + 1) = ns.take i ++ [n] := by simp [List.take_add_one, hn]
    have hlt : i < ns.length := (List.getElem?_eq_some_iff.mp hn).1
    rw [hs]
    refine wpAny_mono (turn rv rn (ns.take i) n t h tk own (by rw [List.length_take]; omega) hoff hi' (fr_same hm F₁) (by simpa using N₁)) (fun f s₂ p => ?_) fun _ _ x => x
    have up : InvEndN h₀ env.locals (RowJ row news x m₀ (ns.take i ++ [n])) own (row :: news.map (·.1)) { s with heap := h, toks := tk } s₂ →
        InvEndN h₀ env.locals (fun m' nx => (l, listOf vs.toArray nn) ∈ nx ∧ RowJ row news x m₀ (ns.take i ++ [n]) m' nx) own (row :: news.map (·.1)) { s with heap := h, toks := tk } s₂ := by
      rintro ⟨h', tk', m', news', nx', e', F', N', hn', ho', ha, hS⟩
      refine ⟨h', tk', m', news', nx', e', F', N', hn', ho', ha, ?_, hS⟩
      obtain ⟨_, _, rfl, _⟩ := hS
      exact .tail _ hl
    cases f with
    | ret v => exact p
    | brk => exact p
    | next => exact up p
    | cont => exact up p
  · rintro m₁ nx h tk _ ⟨rv, rn, rfl, hi', hm⟩ F₁ N₁
    rw [List.take_length] at hi'
    exact done rv rn (m₁ x) h tk hi' (fr_out hm F₁) N₁
theorem row_end {row : Addr} {news own news' : List (Addr × Obj)} {m₀ m' : Str → Option Value} {pre : List Int} {L : Addr} {rv : List Value} {rn : Nat} {s₁ : Shared} {h' : Heap} {tk : Nat}
    (F : Fr h₀ L h' m') (N : News h₀ L h' news') (hi : IntsAre rv (insAll (pre.map val))) (h1 : (row, listOf rv.toArray rn) ∈ news') (h2 : ∀ p ∈ news, p ∈ news') (h3 : ∀ p ∈ own, p ∈ news') (hm : ∀ z, z ≠ x → m' z = m₀ z) :
    InvEndN h₀ L (RowJ row news x m₀ pre) own (row :: news.map (·.1)) s₁ { s₁ with heap := h', toks := tk } :=
  ⟨h', tk, m', news', (row, listOf rv.toArray rn) :: news, rfl, F, N, List.forall_mem_cons.mpr ⟨h1, h2⟩, h3, rfl, rv, rn, rfl, hi, hm⟩
/-- the last loop: it stores asked and like, and leaves the ledger as it is -/
noncomputable def FndJ (news : List (Addr × Obj)) (x a b : Str) (m₀ : Str → Option Value) (m : Str → Option Value) (nx : List (Addr × Obj)) : Prop :=
  nx = news ∧ ∀ z, z ≠ x → z ≠ a → z ≠ b → m z = m₀ z
theorem fnd_fr {a b : Str} {L : Addr} {h : Heap} {m₁ m₀ : Str → Option Value} {v : Option Value} (hm : ∀ z, z ≠ x → z ≠ a → z ≠ b → m₁ z = m₀ z) (F : Fr h₀ L h (fun y => if y = x then v else m₁ y)) : Fr h₀ L h (fun y => if y = x then v else if y = a then m₁ a else if y = b then m₁ b else m₀ y) := by
  have e : (fun y => if y = x then v else m₁ y) = fun y => if y = x then v else if y = a then m₁ a else if y = b then m₁ b else m₀ y := by
    funext z
    by_cases h1 : z = x
    · simp [h1]
    · by_cases h2 : z = a
      · subst h2; simp [h1]
      · by_cases h3 : z = b
        · subst h3; simp [h1, h2]
        · simp only [if_neg h1, if_neg h2, if_neg h3]; exact hm z h1 h2 h3
  rw [← e]; exact F
theorem found_loop {a b : Str} {l : Addr} {vs : List Value} {ns : List Int} {nn : Nat} {m₀ : Str → Option Value} {news : List (Addr × Obj)}
    (hh : A.handled = none) (hl : (l, listOf vs.toArray nn) ∈ news) (hi : IntsAre vs ns) (F : Fr h₀ env.locals s.heap m₀) (N : News h₀ env.locals s.heap news)
    (turn : ∀ n t u1 u2 h tk own, OwnOff own (news.map (·.1)) →
      Fr h₀ env.locals h (fun y => if y = x then some (.int n t) else if y = a then u1 else if y = b then u2 else m₀ y) → News h₀ env.locals h (news ++ own) →
      wpAny (model prog w) A (execs body env) (InvPostN h₀ env.locals (FndJ news x a b m₀) own (news.map (·.1)) { s with heap := h, toks := tk } Q) E { s with heap := h, toks := tk })
    (done : ∀ m h tk, Fr h₀ env.locals h m → News h₀ env.locals h news → Q .next { s with heap := h, toks := tk }) :
    wpAny (model prog w) A (pyIter (.ref l)) (fun it s₂ => LoopAtV prog w A h₀ env x body Q E it s₂) E s := by
  refine iter_invNL (fun _ m nx => FndJ news x a b m₀ m nx) hh hl hi F N ⟨rfl, fun _ _ _ _ => rfl⟩ ?_ ?_
  · rintro i n t m₁ nx h tk own hn _ hoff _ ⟨rfl, hm⟩ F₁ N₁
    refine wpAny_mono (turn n t _ _ h tk own hoff (fnd_fr hm F₁) N₁) (fun f s₂ p => ?_) fun _ _ x => x
    have up : InvEndN h₀ env.locals (FndJ nx x a b m₀) own (nx.map (·.1)) { s with heap := h, toks := tk } s₂ →
        InvEndN h₀ env.locals (fun m' nx' => (l, listOf vs.toArray nn) ∈ nx' ∧ FndJ nx x a b m₀ m' nx') own (nx.map (·.1)) { s with heap := h, toks := tk } s₂ := by
      rintro ⟨h', tk', m', news', nx', e', F', N', hn', ho', ha, hS⟩
      refine ⟨h', tk', m', news', nx', e', F', N', hn', ho', ha, ?_, hS⟩
      obtain ⟨rfl, _⟩ := hS
      exact hl
    cases f with
    | ret v => exact p
    | brk => exact p
    | next => exact up p
    | cont => exact up p
  · rintro m₁ nx h tk _ ⟨rfl, hm⟩ F₁ N₁
    exact done m₁ h tk F₁ N₁
theorem found_end {a b : Str} {news own news' : List (Addr × Obj)} {m₀ m' : Str → Option Value} {L : Addr} {s₁ : Shared} {h' : Heap} {tk : Nat}
    (F : Fr h₀ L h' m') (N : News h₀ L h' news') (h2 : ∀ p ∈ news, p ∈ news') (h3 : ∀ p ∈ own, p ∈ news') (hm : ∀ z, z ≠ x → z ≠ a → z ≠ b → m' z = m₀ z) :
    InvEndN h₀ L (FndJ news x a b m₀) own (news.map (·.1)) s₁ { s₁ with heap := h', toks := tk } :=
  ⟨h', tk, m', news', news, rfl, F, N, h2, h3, rfl, rfl, hm⟩
end
end
section
open PySem.Calls
theorem insAll_len (vs : List Int) : (insAll vs).length = vs.length := (insAll_ok vs).2.length_eq
theorem ins_step {v : List Value} {pre : List Int} {n x : Int} (hx : x = val n) (h : IntsAre v (ins x (insAll (pre.map val)))) : IntsAre v (insAll ((pre ++ [n]).map val)) := by
  rw [List.map_append, List.map_singleton, insAll_snoc, ← hx]; exact h
theorem nums_ok {ws : List Value} {f : Int → Int} {xs : List Int} (h : IntsAre ws (List.map f (List.take 6 xs) ++ [27, 4, 46, 28])) : ∃ NS, IntsAre ws NS ∧ 4 ≤ NS.length ∧ NS.length ≤ 10 :=
  ⟨_, h, by simp, by simp; omega⟩
theorem row_ok {rv : List Value} {NS : List Int} (h : IntsAre rv (insAll (NS.map val))) (h0 : 4 ≤ NS.length) (h1 : NS.length ≤ 10) : ∃ R, IntsAre rv R ∧ Srt R ∧ R.Perm (NS.map val) ∧ 4 ≤ R.length ∧ R.length ≤ 10 := by
  obtain ⟨a, b⟩ := insAll_ok (NS.map val)
  have hl := b.length_eq
  rw [List.length_map] at hl
  exact ⟨_, h, a, b, by omega, by omega⟩
theorem law_names {G : Prop} {h₀ h : Heap} {L : Addr} {ra na ca : Addr} {x3 x4 x5 : Addr × Obj} {cob : Obj} {nv : List Value} {nn rn : Nat}
    (N : News h₀ L h [(ra, listOf #[] rn), (na, listOf nv.toArray nn), x3, x4, x5, (ca, cob), (37, tabObj #[]), (30, tabObj #[])])
    (k : ∀ (ROW NUM CEL : Addr) (CO : Obj) (nv' : List Value) (nn' : Nat), ROW = ra → NUM = na → CEL = ca → CO = cob → nv' = nv → nn' = nn → News h₀ L h ((ROW, listOf #[] rn) :: [(NUM, listOf nv'.toArray nn'), (CEL, CO), (37, tabObj #[]), (30, tabObj #[])]) → G) : G :=
  k _ _ _ _ _ _ rfl rfl rfl rfl rfl rfl fun p hp => N p (by
    simp only [List.mem_cons, List.not_mem_nil, or_false] at hp ⊢
    rcases hp with h | h | h | h | h <;> simp [h])
theorem ne5 {a b c d : Addr × Obj} {own : List (Addr × Obj)} {row : Addr} {adr : List Addr} (h1 : a.1 ≠ row) (h2 : b.1 ≠ row) (h3 : c.1 ≠ row) (h4 : d.1 ≠ row) (h : OwnOff own (row :: adr)) : ∀ p ∈ a :: b :: c :: d :: own, p.1 ≠ row :=
  List.forall_mem_cons.mpr ⟨h1, List.forall_mem_cons.mpr ⟨h2, List.forall_mem_cons.mpr ⟨h3, List.forall_mem_cons.mpr ⟨h4, h.ne (.head _)⟩⟩⟩⟩
theorem c_cases {c : Nat} (h0 : 4 ≤ c) (h1 : c ≤ 10) {P : Nat → Prop} (h : ∀ k ∈ [4, 5, 6, 7, 8, 9, 10], P k) : P c := h c (mem7 h0 h1)
theorem stp_rng (c : Nat) : 3 ≤ stp c ∧ stp c ≤ 4 ∧ (1 : Int) ≤ 2 ^ (stp c).toNat ∧ (2 : Int) ^ (stp c).toNat ≤ 32 := by unfold stp; split <;> decide
noncomputable def I2 (a k : Int) : Prop := 0 ≤ a ∧ a < 2 ^ 60 ∧ a ≠ 0 ∧ Int.fdiv ((Builtin.Int.intBits a : Nat) + 1 - 1) 1 = (k.toNat : Nat) ∧ k.toNat ≤ 100 ∧ a < 2 ^ ((1 : Int).toNat * k.toNat) ∧ 0 < k.toNat ∧ k.toNat + 2 ≤ 10 ∧ 8 * (k.toNat + 2) ≤ 100 ∧ (k.toNat : Int) = k
theorem i2_ok {c : Nat} (h0 : 4 ≤ c) (h1 : c ≤ 10) : I2 ((c : Nat) * 2 ^ Int.toNat 1 + 1) (stp c + 1) := by
  have : ∀ c ∈ [4, 5, 6, 7, 8, 9, 10], I2 ((c : Nat) * 2 ^ Int.toNat 1 + 1) (stp c + 1) := by unfold I2; decide +kernel
  exact this c (mem7 h0 h1)
theorem C_i2dL (w : World) (news : List (Addr × Obj)) (hne : ∀ p ∈ news, p.1 ≠ 30) (c : Nat) (h0 : 4 ≤ c) (h1 : c ≤ 10) (ta tn : Tok) :
    Con w ((30, tabObj #[]) :: news) 35 [.int ((c : Nat) * 2 ^ Int.toNat 1 + 1) ta, .int 1 tn] 10 100 (fun v n' => ∃ d vs' nn ds c' oc vs0 t0, v = .ref d ∧ n' = (d, listOf vs'.toArray nn) :: (30, tab1 c') :: (c', oc) :: news ∧ IntsAre vs' ds ∧ (ds.length : Int) = stp c + 1 ∧ oc.data = .fields vs0 ∧ vs0[1]? = some (.str q1 t0) ∧ 30 < c' ∧ (∀ p ∈ news, p.1 < c') ∧ (∀ p ∈ news, p.1 < d)) := by
  obtain ⟨b1, b2, b3, b4, b5, b6, b7, b8, b9, b10⟩ := i2_ok h0 h1
  refine Con.mono (C_i2d_first w news _ 1 ta tn (stp c + 1).toNat hne b1 b2 (by decide) (by decide) (by decide) b4 b5 b6 (fun e => absurd e b3) (fun _ => b7)) (fun v n' hR => ?_) b8 b9
  obtain ⟨d, vs', nn, ds, c', oc, vs0, t0, rfl, rfl, a1, a2, a3, a4, a5, a6, a7, a8⟩ := hR
  exact ⟨d, vs', nn, ds, c', oc, vs0, t0, rfl, rfl, a1, (congrArg Int.ofNat a2).trans b10, a4, a5, a6, a7, a8⟩
theorem st3 {c' : Addr} {oc : Obj} {vs0 : Array Value} {t0 : Tok} (h1 : oc.data = .fields vs0) (h2 : vs0[1]? = some (.str q1 t0)) (h3 : 37 < c') : IsSt [(30, tab1 c'), (c', oc), (37, tabObj #[])] :=
  ⟨c', oc, none, vs0, t0, rfl, h1, h2, Nat.ne_of_gt h3, trivial⟩
theorem C_placesL (w : World) (st news : List (Addr × Obj)) (hst : IsSt st) (hnews : ∀ p ∈ news, p.1 ≠ 37) (c : Nat) (h0 : 4 ≤ c) (h1 : c ≤ 10) (s : Int) (hs : s = stp c) (tc ts : Tok) :
    Con w (st ++ news) 160 [.int (c : Nat) tc, .int s ts] 26 240 (fun v n' => ∃ P pv pn st', v = .ref P ∧ n' = (P, listOf pv.toArray pn) :: (st' ++ news) ∧ Full st' ∧ IntsAre pv ((c : Int) :: idx c) ∧ (∀ p ∈ st ++ news, p.1 < P)) := by
  subst hs
  have hs := stp_rng c
  refine Con.mono (C_places w st news hst hnews (c : Int) (stp c) tc ts (by omega) (by omega) (by omega) (by omega) hs.2.2.1 hs.2.2.2) (fun v n' hR => ?_) (Nat.le_refl _) (Nat.le_refl _)
  obtain ⟨P, pv, pn, st', rfl, rfl, a1, a2, a3, a4, a5⟩ := hR
  have e : (c : Int).toNat = c := by omega
  rw [e] at a4
  exact ⟨P, pv, pn, st', rfl, rfl, ⟨a1, a2⟩, a4, a5⟩
theorem cov_filter {led st : List (Addr × Obj)} (hcov : ∀ p ∈ led, p.1 ≠ 37 ∨ p ∈ st) : ∀ p ∈ led, p ∈ st ++ led.filter (fun p => decide (p.1 ≠ 37)) := fun p hp =>
  (hcov p hp).elim (fun h => List.mem_append_right _ (List.mem_filter.mpr ⟨hp, by simpa using h⟩)) fun h => List.mem_append_left _ h
theorem filt37 (led : List (Addr × Obj)) : ∀ p ∈ led.filter (fun p => decide (p.1 ≠ 37)), p.1 ≠ 37 := fun p hp => by simpa using (List.mem_filter.mp hp).2
theorem C_fndL_false (w : World) (led st : List (Addr × Obj)) (hst : Full st) (hcov : ∀ p ∈ led, p.1 ≠ 37 ∨ p ∈ st) (hsub : ∀ p ∈ st, p ∈ led) (row T P : Addr) (rv tv pv : List Value) (R : List Int) (rn tn pn : Nat)
  (m1 : (row, listOf rv.toArray rn) ∈ led) (m2 : (T, listOf (Value.none :: tv).toArray tn) ∈ led) (m3 : (P, listOf pv.toArray pn) ∈ led)
  (hr37 : row ≠ 37) (hT37 : T ≠ 37) (hP37 : P ≠ 37) (hi1 : IntsAre rv R) (hi2 : IntsAre tv (tre R)) (hi3 : IntsAre pv ((R.length : Int) :: idx R.length))
  (hc0 : 4 ≤ R.length) (hc1 : R.length ≤ 10) (hS : Srt R) (steps asked : Int) (hs : steps = stp R.length) (ts ta : Tok) (hk0 : -20 ≤ asked) (hk1 : asked ≤ 20) :
  Con w led 179 [.ref row, .ref T, .ref P, .int steps ts, .int asked ta, .bool false] 30 300 (fun v n' => v = .bool true ∧ n' = led) := by
  subst hs
  have hq := stp_rng R.length
  obtain ⟨f1, f2, f3, f4, f5, f6, f7, f8, f9, f10, f11, f12⟩ := found_math hc0 hc1 hS (ltP_mono asked) hk0 hk1
  refine Con.perm (C_found_false w st (led.filter fun p => decide (p.1 ≠ 37)) hst (filt37 led) row T P rv tv pv R (tre R) _ rn tn pn hr37 hT37 hP37 hi1 hi2 hi3 (tre_len R) (by simp [idx]) (by omega) (by omega) hS (stp R.length) asked ts ta (by omega) (by omega) hk0 hk1 (Mine.led (tre R) (ltP asked) 20 [] 1).1 (Mine.led (tre R) (ltP asked) 20 [] 1).2 (cnt (ltP asked) R) rfl rfl f1 f2 f3 f4 f5 f6 f7 f8 f9 f10 f11 f12) ?_ fun v n' hR => ?_
  · refine List.forall_mem_cons.mpr ⟨m1, List.forall_mem_cons.mpr ⟨m2, List.forall_mem_cons.mpr ⟨m3, fun p hp => (List.mem_append.mp hp).elim (hsub p) fun h => (List.mem_filter.mp h).1⟩⟩⟩
  · obtain ⟨rfl, rfl⟩ := hR
    exact ⟨led, ⟨rfl, rfl⟩, fun p hp => .tail _ (.tail _ (.tail _ (cov_filter hcov p hp)))⟩
theorem C_fndL_true (w : World) (led st : List (Addr × Obj)) (hst : Full st) (hcov : ∀ p ∈ led, p.1 ≠ 37 ∨ p ∈ st) (hsub : ∀ p ∈ st, p ∈ led) (row T P : Addr) (rv tv pv : List Value) (R : List Int) (rn tn pn : Nat)
  (m1 : (row, listOf rv.toArray rn) ∈ led) (m2 : (T, listOf (Value.none :: tv).toArray tn) ∈ led) (m3 : (P, listOf pv.toArray pn) ∈ led)
  (hr37 : row ≠ 37) (hT37 : T ≠ 37) (hP37 : P ≠ 37) (hi1 : IntsAre rv R) (hi2 : IntsAre tv (tre R)) (hi3 : IntsAre pv ((R.length : Int) :: idx R.length))
  (hc0 : 4 ≤ R.length) (hc1 : R.length ≤ 10) (hS : Srt R) (steps asked : Int) (hs : steps = stp R.length) (ts ta : Tok) (hk0 : -20 ≤ asked) (hk1 : asked ≤ 20) :
  Con w led 179 [.ref row, .ref T, .ref P, .int steps ts, .int asked ta, .bool true] 30 300 (fun v n' => v = .bool true ∧ n' = led) := by
  subst hs
  have hq := stp_rng R.length
  obtain ⟨f1, f2, f3, f4, f5, f6, f7, f8, f9, f10, f11, f12⟩ := found_math hc0 hc1 hS (leP_mono asked) hk0 hk1
  refine Con.perm (C_found_true w st (led.filter fun p => decide (p.1 ≠ 37)) hst (filt37 led) row T P rv tv pv R (tre R) _ rn tn pn hr37 hT37 hP37 hi1 hi2 hi3 (tre_len R) (by simp [idx]) (by omega) (by omega) hS (stp R.length) asked ts ta (by omega) (by omega) hk0 hk1 (Mine.led (tre R) (leP asked) 20 [] 1).1 (Mine.led (tre R) (leP asked) 20 [] 1).2 (cnt (leP asked) R) rfl rfl f1 f2 f3 f4 f5 f6 f7 f8 f9 f10 f11 f12) ?_ fun v n' hR => ?_
  · refine List.forall_mem_cons.mpr ⟨m1, List.forall_mem_cons.mpr ⟨m2, List.forall_mem_cons.mpr ⟨m3, fun p hp => (List.mem_append.mp hp).elim (hsub p) fun h => (List.mem_filter.mp h).1⟩⟩⟩
  · obtain ⟨rfl, rfl⟩ := hR
    exact ⟨led, ⟨rfl, rfl⟩, fun p hp => .tail _ (.tail _ (.tail _ (cov_filter hcov p hp)))⟩
end
section
open PySem.Calls
noncomputable def TwoJ (news : List (Addr × Obj)) (x : Str) (m₀ : Str → Option Value) (m : Str → Option Value) (nx : List (Addr × Obj)) : Prop := nx = news ∧ ∀ z, z ≠ x → m z = m₀ z
section
variable {prog : Program} {w : World} {A : Around} {E : Value → Shared → Prop} {s : Shared} {env : Env} {h₀ : Heap} {x : Str} {body : List Stmt} {Q : Flow → Shared → Prop}
theorem unr_up {L I : Addr} {it : Obj} {R R' : (Str → Option Value) → List (Addr × Obj) → Prop} {s₁ : Shared} {f : Flow} {s₂ : Shared} (p : UnrPost h₀ L s₁ I it R Q f s₂) (h : ∀ m n, R m n → R' m n) : UnrPost h₀ L s₁ I it R' Q f s₂ := by
  have up : UnrEnd h₀ L s₁ I it R s₂ → UnrEnd h₀ L s₁ I it R' s₂ := by
    rintro ⟨h', tk', m', nx', e1, e2, e3, e4, e5⟩
    exact ⟨h', tk', m', nx', e1, e2, e3, e4, h _ _ e5⟩
  cases f with
  | ret v => exact p
  | brk => exact p
  | next => exact up p
  | cont => exact up p
theorem two_loop {ax : Addr} {v1 v2 : Value} {n0 : Nat} {m₀ : Str → Option Value} {news : List (Addr × Obj)}
    (hh : A.handled = none) (F : Fr h₀ env.locals s.heap m₀) (N : News h₀ env.locals s.heap news) (hm : (ax, listOf #[v1, v2] n0) ∈ news)
    (t1 : ∀ I it h tk, (∀ p ∈ news, p.1 < I) → Fr h₀ env.locals h (fun y => if y = x then some v1 else m₀ y) → News h₀ env.locals h ((I, it) :: news) →
      wpAny (model prog w) A (execs body env) (UnrPost h₀ env.locals { s with heap := h, toks := tk } I it (TwoJ news x m₀) Q) E { s with heap := h, toks := tk })
    (t2 : ∀ I it h tk, (∀ p ∈ news, p.1 < I) → Fr h₀ env.locals h (fun y => if y = x then some v2 else m₀ y) → News h₀ env.locals h ((I, it) :: news) →
      wpAny (model prog w) A (execs body env) (UnrPost h₀ env.locals { s with heap := h, toks := tk } I it (TwoJ news x m₀) Q) E { s with heap := h, toks := tk })
    (done : ∀ u h tk, Fr h₀ env.locals h (fun y => if y = x then u else m₀ y) → News h₀ env.locals h news → Q .next { s with heap := h, toks := tk }) :
    wpAny (model prog w) A (pyIter (.ref ax)) (fun it s₂ => LoopAtV prog w A h₀ env x body Q E it s₂) E s := by
  refine iter_listUnr (lo := listOf #[v1, v2] n0) (vs := [v1, v2]) hh F N hm rfl rfl fun I hI => ?_
  refine ListRest.succ fun it h tk _ F₁ N₁ => wpAny_mono (t1 I it h tk hI F₁ N₁) (fun f s₂ p => unr_up p ?_) fun _ _ e => e
  rintro m n ⟨rfl, hm1⟩
  refine ⟨hm, ListRest.succ fun it h tk _ F₂ N₂ => wpAny_mono (t2 I it h tk hI (fr_same hm1 F₂) N₂) (fun f s₂ p => unr_up p ?_) fun _ _ e => e⟩
  rintro m' n' ⟨rfl, hm2⟩
  exact ⟨hm, ListRest.zero fun h tk F₃ N₃ => done (m' x) h tk (fr_out hm2 F₃) N₃⟩
theorem two_end {L I : Addr} {it : Obj} {news : List (Addr × Obj)} {m₀ m' : Str → Option Value} {s₁ : Shared} {h' : Heap} {tk : Nat}
    (hI : ∀ p ∈ news, p.1 < I) (F : Fr h₀ L h' m') (N : News h₀ L h' ((I, it) :: news)) (hm : ∀ z, z ≠ x → m' z = m₀ z) :
    UnrEnd h₀ L s₁ I it (TwoJ news x m₀) { s₁ with heap := h', toks := tk } :=
  ⟨h', tk, m', news, rfl, F, N, fun p hp => Nat.ne_of_lt (hI p hp), rfl, hm⟩
end
end
theorem idx_len (c : Nat) : (idx c).length = c := by simp [idx]
theorem drop1 {ws : List Value} {c : Int} {xs : List Int} (h : IntsAre ws (List.drop 1 (c :: xs))) : IntsAre ws xs := h
theorem tree_add {prog : Program} {w : World} {A : Around} {E : Value → Shared → Prop} {s : Shared} {h₀ : Heap} {L a b : Addr} {m : Str → Option Value} {news : List (Addr × Obj)} {n1 : Nat} {ys : List Value} {ns : List Int} {Q : Value → Shared → Prop} (F : Fr h₀ L s.heap m) (N : News h₀ L s.heap news)
    (ha : (a, listOf #[Value.none] n1) ∈ news) (hb : (b, LCg.lst ys) ∈ news) (hi : IntsAre ys ns) (hl : ns.length ≤ 100)
    (h : ∀ D h' tv, IntsAre tv ns → Fr h₀ L h' m → News h₀ L h' ((D, listOf (Value.none :: tv).toArray 0) :: news) → (∀ p ∈ news, p.1 < D) → Q (.ref D) { s with heap := h' }) :
    wpAny (model prog w) A (binaryOp .Add (.ref a) (.ref b)) Q E s := by
  refine kmk_add_lit (zs := Value.none :: ys) F N (News.isList N ha) (News.isList N hb) rfl (fun D h' F' N' l' => h D h' ys hi F' N' l') ?_
  have := hi.length
  rw [sizeLine_eq]; simp; omega
theorem fm_rng (a b : Int) (h : 0 < b) : 0 ≤ a.fmod b ∧ a.fmod b < b := ⟨Int.fmod_nonneg_of_pos a h, Int.fmod_lt_of_pos a h⟩
theorem cov_own {a b c d e : Addr × Obj} {st own : List (Addr × Obj)} (hst : Full st) (hoff : OwnOff own ((a :: b :: c :: d :: e :: st).map (·.1))) : ∀ p ∈ st ++ own, p.1 ≠ 37 ∨ p ∈ st := fun p hp =>
  (List.mem_append.mp hp).elim .inr fun h => by
    obtain ⟨x, hx⟩ := st37 hst.1
    exact .inl (hoff p h 37 (List.mem_map.mpr ⟨(37, x), .tail _ (.tail _ (.tail _ (.tail _ (.tail _ hx)))), rfl⟩))
theorem sorted_R {prog : Program} {w : World} {A : Around} {E : Value → Shared → Prop} {s : Shared} {h₀ : Heap} {L l : Addr} {m : Str → Option Value} {news : List (Addr × Obj)} {vs : List Value} {NS R : List Int} {Q : Value → Shared → Prop} (F : Fr h₀ L s.heap m) (N : News h₀ L s.heap news)
    (hm : (l, LCg.lst vs) ∈ news) (hI : IntsAre vs (NS.map val)) (hl : (NS.map val).length ≤ 20) (hRS : Srt R) (hRP : R.Perm (NS.map val))
    (h : ∀ D h' vs' e, Fr h₀ L h' m → News h₀ L h' ((D, listOf (List.toArray vs') e) :: news) → (∀ p ∈ news, p.1 < D) → IntsAre vs' R → Q (.ref D) { s with heap := h' }) :
    wpAny (model prog w) A (call (.builtin "sorted") [.ref l]) Q E s := by
  refine sorted_N F N (News.isList N hm) hI (by have := hI.length; omega) fun h' vs' ns' e F' N' hI' hp hs => ?_
  have e2 : ns' = R := perm_sorted_eq (hp.trans hRP.symm) hs (of_srt hRS)
  subst e2
  exact h _ h' vs' e F' N' (fun p hp => Nat.lt_succ_of_lt (Heap.lt_size (N p hp).1)) hI'
theorem ne_same {prog : Program} {w : World} {A : Around} {E : Value → Shared → Prop} {s : Shared} {h₀ : Heap} {L a b : Addr} {news : List (Addr × Obj)} {vs us : List Value} {n1 n2 : Nat} {R : List Int} {Q : Value → Shared → Prop} (N : News h₀ L s.heap news)
    (ha : (a, listOf vs.toArray n1) ∈ news) (hb : (b, listOf us.toArray n2) ∈ news) (hi : IntsAre vs R) (hj : IntsAre us R) (hu : A.units + 64 < cLine) (h : Q (.bool false) s) :
    wpAny (model prog w) A (compareOp .NotEq (.ref a) (.ref b)) Q E s :=
  ne_intsK (News.isList N ha) hi (News.isList N hb) hj hu (by simpa using h)
theorem grown_full {h₀ h : Heap} {L : Addr} {st news : List (Addr × Obj)} (hst : Full st) (N : News h₀ L h news) (hs : ∀ p ∈ st, p ∈ news) : GrownAll [(41, 37), (34, 30)] h := by
  obtain ⟨⟨c1, oc1, o, vs1, t1, rfl, hoc, hv, hc1, hok⟩, hl⟩ := hst
  cases o with
  | none => exact absurd hl (by decide : ¬ (3 = 4))
  | some x => exact ⟨GrownAt.of N (hs _ (.tail _ (.tail _ (.head _)))), GrownAt.of N (hs _ (.head _)), True.intro⟩
theorem post_gen {prog : Program} {w : World} {A A2 : Around} {γ : Type} {lv : Value → Sem γ} {t : Sem Flow} {Q : Flow → Shared → Prop} {P : Value → Shared → Prop} {s : Shared} {h₀ : Heap} {L : Addr} {m : Str → Option Value} {news : List (Addr × Obj)} (_F : Fr h₀ L s.heap m) (_N : News h₀ L s.heap news)
    (hR : ∀ m' news' h' tk', Fr h₀ L h' m' → News h₀ L h' news' → GrownAll [(41, 37), (34, 30)] h' → Q (.ret (.bool true)) { s with heap := h', toks := tk' })
    (h : ∀ (Q' : Flow → Shared → Prop) (P' : Value → Shared → Prop), (∀ m' news' h' tk', Fr h₀ L h' m' → News h₀ L h' news' → GrownAll [(41, 37), (34, 30)] h' → Q' (.ret (.bool true)) { s with heap := h', toks := tk' }) → wpAny (model prog w) A t Q' (fun e s' => wpAny (model prog w) A2 (lv e) (fun _ s'' => P' e s'') (fun e' s'' => P' e' s'') s') s) : wpAny (model prog w) A t Q (fun e s' => wpAny (model prog w) A2 (lv e) (fun _ s'' => P e s'') (fun e' s'' => P e' s'') s') s := h Q P hR
theorem pl_perm (a b c P : Addr × Obj) (st : List (Addr × Obj)) : ∀ p ∈ P :: a :: b :: c :: st, p ∈ P :: (st ++ [a, b, c]) := fun p hp => by
  simp only [List.mem_cons, List.mem_append, List.not_mem_nil, or_false] at hp ⊢
  rcases hp with h | h | h | h | h <;> simp [h]
theorem law_holds : PySem.Challenge.rw_wf0062_01.Holds := hd (by
  w_top off
  k_with_none
  k_with "mem" => first | (with_reducible assumption) | ((repeat (first | exact List.Mem.head _ | refine List.Mem.tail _ ?_)); (try assumption); done)
  k_with "all" => first | assumption | exact ne_of_gt37 (by assumption) | exact ne_of_gt30 (by assumption) | ((with_reducible rename AllLt _ _ => hA9); first | exact allLt_ne hA9 (by omega) | exact ktn_ltOf hA9 | (clear hA9; k_all)) | ((with_reducible rename _ ∧ _ => hA9); obtain ⟨hA1, hA2⟩ := hA9; k_all)
  k_with "all" => ((with_reducible rename AllLt _ _ => hA9); first | exact lt_tail3 hA9 | exact t37_ne hA9)
  k_with "callWith ref" => (k_dflt (refine' callWith_K ?k1 ?k2 ?_; (case k1 => k_asm); (case k2 => k_is); k_whole))
  k_with "InvEndN" => first | k_dflt (exact row_end (by k_asm) (by k_asm) (ins_step rfl hi9) (List.Mem.head _) (List.forall_mem_cons.mpr ⟨by k_mem, (List.forall_mem_cons.mpr ⟨by k_mem, (List.forall_mem_cons.mpr ⟨by k_mem, (List.forall_mem_cons.mpr ⟨by k_mem, (fun _ h => nomatch h)⟩)⟩)⟩)⟩) (fun p hp => .tail _ (.tail _ (.tail _ (.tail _ (.tail _ hp))))) (fun z hz => if_neg hz)) | k_dflt (exact found_end (by k_asm) (by k_asm) (List.forall_mem_cons.mpr ⟨by k_mem, (List.forall_mem_cons.mpr ⟨by k_mem, (List.forall_mem_cons.mpr ⟨by k_mem, (List.forall_mem_cons.mpr ⟨by k_mem, (List.forall_mem_cons.mpr ⟨by k_mem, (fun p hp => by (repeat (first | exact List.mem_append_left _ hp | refine List.Mem.tail _ ?_)))⟩)⟩)⟩)⟩)⟩) (fun p hp => by (repeat (first | exact List.mem_append_right _ hp | refine List.Mem.tail _ ?_))) (fun z h1 h2 h3 => by simp [h1, h2, h3]))
  k_with "call ref" => first | k_dflt ((with_reducible show wpAny _ _ (call (Value.ref 74) _) _ _ _); ((with_reducible show wpAny _ _ (call (Value.ref _) _) _ _ _); k_dflt (refine' Con.use (C_ins _ _ ROW rv7 (insAll (pre7.map val)) rn7 _ _ ?hne hi7 ?hl (insAll_ok _).1) ?k1 ?k2 ?k3 ?k4 ?k5 ?k6 ?k7 ?k8 ?k9 ?_; (case k1 => k_asm); (case k2 => k_asm); (case k3 => k_asm); (case k4 => k_asm); (case k5 => k_asm); (case k6 => k_asm); (case k7 => k_asm); (case hne => exact ne5 (by refine neN ?_; omega) (by refine neN ?_; omega) (by refine neN ?_; omega) (by refine neN ?_; omega) hoff7); (case hl => (rw [insAll_len, List.length_map]; omega)); (case k8 => ktr_room); (case k9 => ktr_units); k_whole); intro v9 n9 h9 tk9 hR9 F9 N9; obtain ⟨e9, vs9, nn9, f9, hi9⟩ := hR9; subst e9; subst f9; (try dsimp only); (try k_fold))) | k_dflt ((with_reducible show wpAny _ _ (call (Value.ref 35) _) _ _ _); ((with_reducible show wpAny _ _ (call (Value.ref _) _) _ _ _); k_dflt (refine' Con.use (C_i2dL _ [(ROW, listOf rv7.toArray rn7), (NUM, listOf nv7.toArray _), (_, CO7), (37, tabObj #[])] ?hne R.length hR4 hR10 _ _) ?k1 ?k2 ?k3 ?k4 ?k5 ?k6 ?k7 ?k8 ?k9 ?_; (case k1 => k_asm); (case k2 => k_asm); (case k3 => k_asm); (case k4 => refine' cb_drop ?kN (List.forall_mem_cons.mpr ⟨?s0, ?s1⟩); (case kN => k_asm); (case s0 => k_mem); (case s1 => exact (List.forall_mem_cons.mpr ⟨by k_mem, (List.forall_mem_cons.mpr ⟨by k_mem, (List.forall_mem_cons.mpr ⟨by k_mem, (List.forall_mem_cons.mpr ⟨by k_mem, (fun _ h => nomatch h)⟩)⟩)⟩)⟩))); (case k5 => k_asm); (case k6 => k_asm); (case k7 => k_asm); (case hne => exact (List.forall_mem_cons.mpr ⟨by refine neN ?_; omega, (List.forall_mem_cons.mpr ⟨by refine neN ?_; omega, (List.forall_mem_cons.mpr ⟨by refine neN ?_; omega, (List.forall_mem_cons.mpr ⟨by refine neN ?_; omega, (fun _ h => nomatch h)⟩)⟩)⟩)⟩)); (case k8 => ktr_room); (case k9 => ktr_units); k_whole); intro v9 n9 h9 tk9 hR9 F9 N9; obtain ⟨d9, vs9, nn9, ds9, c9, oc9, vv9, t9, e9, f9, hi9, hd9, hoc9, hv9, hc9, hlc9, hld9⟩ := hR9; subst e9; subst f9; (have h37c : 37 < c9 := hlc9 (37, tabObj #[]) (by k_mem)); (have hst0 := st3 hoc9 hv9 h37c); (have hstp := stp_rng R.length); k_lt hlc9; k_lt hld9; (try dsimp only); (try k_fold))) | k_dflt ((with_reducible show wpAny _ _ (call (Value.ref 160) _) _ _ _); ((with_reducible show wpAny _ _ (call (Value.ref _) _) _ _ _); k_dflt (refine' Con.use (C_placesL _ [(30, tab1 c9), (c9, oc9), (37, tabObj #[])] [(ROW, listOf rv7.toArray rn7), (NUM, listOf nv7.toArray _), (_, CO7)] hst0 ?hne R.length hR4 hR10 _ (by omega) _ _) ?k1 ?k2 ?k3 ?k4 ?k5 ?k6 ?k7 ?k8 ?k9 ?_; (case k1 => k_asm); (case k2 => k_asm); (case k3 => k_asm); (case k4 => refine' cb_drop ?kN ?s1; (case kN => k_asm); (case s1 => exact (List.forall_mem_cons.mpr ⟨by k_mem, (List.forall_mem_cons.mpr ⟨by k_mem, (List.forall_mem_cons.mpr ⟨by k_mem, (List.forall_mem_cons.mpr ⟨by k_mem, (List.forall_mem_cons.mpr ⟨by k_mem, (List.forall_mem_cons.mpr ⟨by k_mem, (fun _ h => nomatch h)⟩)⟩)⟩)⟩)⟩)⟩))); (case k5 => k_asm); (case k6 => k_asm); (case k7 => k_asm); (case hne => exact (List.forall_mem_cons.mpr ⟨by refine neN ?_; omega, (List.forall_mem_cons.mpr ⟨by refine neN ?_; omega, (List.forall_mem_cons.mpr ⟨by refine neN ?_; omega, (fun _ h => nomatch h)⟩)⟩)⟩)); (case k8 => ktr_room); (case k9 => ktr_units); k_whole); intro v9 n9 h9 tk9 hR9 F9 N9; obtain ⟨P9, pv9, pn9, st9, e9, f9, hst9, hpi9, hlp9⟩ := hR9; subst e9; subst f9; (replace N9 := cb_drop N9 (pl_perm _ _ _ _ _)); (have hlix := idx_len R.length); simp only [List.cons_append, List.nil_append] at hlp9; k_lt hlp9; (try dsimp only); (try k_fold))) | k_dflt ((with_reducible show wpAny _ _ (call (Value.ref 167) _) _ _ _); ((with_reducible show wpAny _ _ (call (Value.ref _) _) _ _ _); k_dflt (refine' Con.use (C_thr _ T8 tv8 (tre R) 0 ti8 (by rw [tre_len]; omega) 4 (by decide) 1 _ ?m _ (by decide) (by decide) (by rw [tre_len]; omega)) ?k1 ?k2 ?k3 ?k4 ?k5 ?k6 ?k7 ?k8 ?k9 ?_; (case k1 => k_asm); (case k2 => k_asm); (case k3 => k_asm); (case k4 => k_asm); (case k5 => k_asm); (case k6 => k_asm); (case k7 => k_asm); (case m => k_mem); (case k8 => ktr_room); (case k9 => ktr_units); k_whole); intro v9 n9 h9 tk9 hR9 F9 N9; obtain ⟨d9, rv9, rn9, e9, f9, hi9, l9⟩ := hR9; subst e9; subst f9; rw [thr_tre hR4 hR10] at hi9; k_lt l9; (try dsimp only); (try k_fold))) | k_dflt ((with_reducible show wpAny _ _ (call (Value.ref 179) _) _ _ _); ((with_reducible show wpAny _ _ (call _ [_, _, _, _, _, Value.bool false]) _ _ _); ((with_reducible show wpAny _ _ (call (Value.ref _) _) _ _ _); k_dflt (refine' Con.use (C_fndL_false _ _ st9 hst9 ?cov ?sub ROW T8 P9 rv7 tv8 pv9 R rn7 0 pn9 ?m1 ?m2 ?m3 (by refine neN ?_; omega) (by refine neN ?_; omega) (by refine neN ?_; omega) hiR ti8 hpi9 hR4 hR10 hRS _ _ (by omega) _ _ ?q0 ?q1) ?k1 ?k2 ?k3 ?k4 ?k5 ?k6 ?k7 ?k8 ?k9 ?_; (case k1 => k_asm); (case k2 => k_asm); (case k3 => k_asm); (case k4 => k_asm); (case k5 => k_asm); (case k6 => k_asm); (case k7 => k_asm); (case cov => (repeat (first | exact covT | refine List.forall_mem_cons.mpr ⟨.inl (by refine neN ?_; omega), ?_⟩))); (case sub => (intro p hp; (repeat (first | exact List.mem_append_left _ hp | refine List.Mem.tail _ ?_)))); (case m1 => k_mem); (case m2 => k_mem); (case m3 => k_mem); (case q0 => omega); (case q1 => omega); (case k8 => ktr_room); (case k9 => ktr_units); k_whole); intro v9 n9 h9 tk9 hR9 F9 N9; obtain ⟨e9, f9⟩ := hR9; subst e9; subst f9; (try dsimp only); (try k_fold)))) | k_dflt ((with_reducible show wpAny _ _ (call (Value.ref 179) _) _ _ _); ((with_reducible show wpAny _ _ (call _ [_, _, _, _, _, Value.bool true]) _ _ _); ((with_reducible show wpAny _ _ (call (Value.ref _) _) _ _ _); k_dflt (refine' Con.use (C_fndL_true _ _ st9 hst9 ?cov ?sub ROW T8 P9 rv7 tv8 pv9 R rn7 0 pn9 ?m1 ?m2 ?m3 (by refine neN ?_; omega) (by refine neN ?_; omega) (by refine neN ?_; omega) hiR ti8 hpi9 hR4 hR10 hRS _ _ (by omega) _ _ ?q0 ?q1) ?k1 ?k2 ?k3 ?k4 ?k5 ?k6 ?k7 ?k8 ?k9 ?_; (case k1 => k_asm); (case k2 => k_asm); (case k3 => k_asm); (case k4 => k_asm); (case k5 => k_asm); (case k6 => k_asm); (case k7 => k_asm); (case cov => (repeat (first | exact covT | refine List.forall_mem_cons.mpr ⟨.inl (by refine neN ?_; omega), ?_⟩))); (case sub => (intro p hp; (repeat (first | exact List.mem_append_left _ hp | refine List.Mem.tail _ ?_)))); (case m1 => k_mem); (case m2 => k_mem); (case m3 => k_mem); (case q0 => omega); (case q1 => omega); (case k8 => ktr_room); (case k9 => ktr_units); k_whole); intro v9 n9 h9 tk9 hR9 F9 N9; obtain ⟨e9, f9⟩ := hR9; subst e9; subst f9; (try dsimp only); (try k_fold))))
  k_with "GrownAll" => first | assumption | k_dflt (exact grown_full hst9 (by k_asm) (fun p hp => by (repeat (first | exact hp | refine List.Mem.tail _ ?_))))
  k_with "exec For Name Name cons nil" => ((rename Fr _ _ _ _ => lF6); (with_unfolding_all refine' For_invVF lF6 ?kf1 ?kf2 ?_; (case kf1 => exact rfl); (case kf2 => exact rfl); k_whole))
  k_with "call builtin:sorted" => (k_dflt ((refine' sorted_R (NS := NS) (R := R) ?tF ?tN ?tm ?ti ?tl hRS hRP ?_; (case tF => k_asm); (case tN => k_asm); (case tm => k_mem); (case ti => assumption); (case tl => (rw [List.length_map]; omega))); intro D6 h6 vs6 e6 F6 N6 l6 hI8; k_lt l6; (try dsimp only); (try k_fold)))
  k_with "compareOp NotEq ref ref" => (k_dflt ((refine' ne_same ?tN ?ta ?tb hi9 hI8 ?tu ?_; (case tN => k_asm); (case ta => k_mem); (case tb => k_mem); (case tu => units_room)); (try dsimp only); (try k_fold)))
  k_with "eval ListComp" => (have := hst9; k_dflt (refine LCg.ListComp_U (F₀ := by k_asm) (by with_unfolding_all rfl) (by decide) (by rfl) (by decide) (by rfl) ?_))
  k_with "CompSrc" => first | (have := ti8; k_dflt ((refine LCg.CompSrc.ledger (by rfl) (by k_asm) (by k_asm) (by k_mem) (room_ints hI6 (by omega)) ?_); intro g7; (refine' kcf_list val hI6 (fun k7 t7 I7 oI7 C7 oC7 D7 m7 ys7 h7 tk7 E7 hk7 hC7 hx7 F7 N7 off7 ne7 mk7 => ?_) ?_))) | (have := hst9; k_dflt ((refine LCg.CompSrc.ledger (by rfl) (by k_asm) (by k_asm) (by k_mem) (room_ints (drop1 (by assumption)) (by omega)) ?_); intro g7; (refine' kcf_list (fun i => R.getD i.toNat 0) (drop1 (by assumption)) (fun k7 t7 I7 oI7 C7 oC7 D7 m7 ys7 h7 tk7 E7 hk7 hC7 hx7 F7 N7 off7 ne7 mk7 => ?_) ?_); (try have hk8 := tre_in hR4 hR10 k7 hk7)))
  k_with "CompEnd" => (have := hst9; k_dflt (exact ⟨_, _, _, rfl, by k_asm, by k_asm, off7, .inr ⟨_, by k_mem, rfl, _, rfl⟩, kcf_el rfl rfl rfl⟩))
  k_with "subscriptTail" => ((with_reducible show wpAny _ _ (subscriptTail _ _ (Value.ref ROW) (Value.int k7 _)) _ _ _); k_dflt (refine' row_item ?k1 hiR hk8.1 hk8.2 (by omega) ?_; (case k1 => exact News.isList (by k_asm) (by k_mem))); intro t8)
  k_with "binaryOp Add ref ref" => (have := hst9; k_dflt ((refine' tree_add ?tF ?tN ?ta ?tb ?ti ?tl ?_; (case tF => k_asm); (case tN => k_asm); (case ta => k_mem); (case tb => k_mem); (case ti => assumption); (case tl => (rw [List.length_map]; omega))); intro T8 h8 tv8 ti8 F8 N8 l8; (replace ti8 : IntsAre tv8 (tre R) := ti8); k_lt l8; (have N8' := cb_drop (news := (T8, listOf (Value.none :: tv8).toArray 0) :: (P9, listOf pv9.toArray pn9) :: (ROW, listOf rv7.toArray rn7) :: (NUM, listOf nv7.toArray _) :: (_, CO7) :: st9) N8 (List.forall_mem_cons.mpr ⟨by k_mem, (List.forall_mem_cons.mpr ⟨by k_mem, (List.forall_mem_cons.mpr ⟨by k_mem, (List.forall_mem_cons.mpr ⟨by k_mem, (List.forall_mem_cons.mpr ⟨by k_mem, (fun p hp => by (repeat (first | exact hp | refine List.Mem.tail _ ?_)))⟩)⟩)⟩)⟩)⟩)); clear N8; (try dsimp only); (try k_fold)))
  k_with "UnrEnd" => k_dflt (exact two_end hI9 (by k_asm) (by k_asm) (fun z hz => if_neg hz))
  k_with "pyIter ref" => first | (k_dflt ((have hq9 := hst9); (rename News _ _ _ _ => N6); (rename Fr _ _ _ _ => F6); (have N5 := cb_drop (news := (T8, listOf (Value.none :: tv8).toArray 0) :: (P9, listOf pv9.toArray pn9) :: (ROW, listOf rv7.toArray rn7) :: (NUM, listOf nv7.toArray 0) :: (_, CO7) :: st9) N6 (List.forall_mem_cons.mpr ⟨by k_mem, (List.forall_mem_cons.mpr ⟨by k_mem, (List.forall_mem_cons.mpr ⟨by k_mem, (List.forall_mem_cons.mpr ⟨by k_mem, (List.forall_mem_cons.mpr ⟨by k_mem, (fun p hp => by (repeat (first | exact hp | refine List.Mem.tail _ ?_)))⟩)⟩)⟩)⟩)⟩)); (refine' found_loop (l := NUM) (a := Str.ofString "asked") (b := Str.ofString "like") ?hh ?hl hI6 F6 N5 ?_ ?_); (case hh => rfl); (case hl => k_mem); clear N6 N5; (intro n7 t7 u71 u72 h7 tk7 own7 hoff7 F7 N7; (have covT := cov_own hst9 hoff7); simp only [List.cons_append] at N7; (have hb1 := fm_rng (n7.fdiv 3) 20 (by decide)); (have hb2 := fm_rng n7 3 (by decide)); rotate_left; intro m7 h7 tk7 F7 N7; rotate_left); all_goals (try k_fold))) | (k_dflt ((have hq9 := covT); (rename News _ _ _ _ => N6); (rename Fr _ _ _ _ => F6); (refine' two_loop (v1 := Value.bool false) (v2 := Value.bool true) ?hh F6 N6 ?hm ?_ ?_ ?_); (case hh => rfl); (case hm => exact List.Mem.head _); (intro I6 it6 h6 tk6 hI6 F6 N6; (have hI9 := hI6); k_lt hI6); rotate_left; (intro I6 it6 h6 tk6 hI6 F6 N6; (have hI9 := hI6); k_lt hI6); rotate_left; (intro u6 h6 tk6 F6 N6); rotate_left; all_goals (try dsimp only); all_goals (try k_fold))) | (k_dflt ((rename (IntsAre _ (_ ++ [27, 4, 46, 28])) => hI6); (rename News _ _ _ _ => N6); (rename Fr _ _ _ _ => F6); refine law_names N6 (fun ROW NUM CEL CO7 nv7 nn7 e1 e2 e3 e4 e5 e6 N5 => ?_); subst e1; subst e2; subst e3; subst e4; subst e5; subst e6; (have hI5 := nums_ok hI6); clear hI6 N6; obtain ⟨NS, hI6, hN4, hN10⟩ := hI5; (refine' row_loop (row := ROW) ?hh (List.Mem.head _) hI6 F6 N5 ?_ ?_); (case hh => rfl); (intro rv7 rn7 pre7 n7 t7 h7 tk7 own7 hlt7 hoff7 hi7 F7 N7; simp only [List.cons_append, List.nil_append] at N7; rotate_left; intro rv7 rn7 u7 h7 tk7 hi7 F7 N7; (have hR7 := row_ok hi7 hN4 hN10); clear hi7; obtain ⟨R, hiR, hRS, hRP, hR4, hR10⟩ := hR7; rotate_left); all_goals (try k_fold)))
  k_with "call builtin:len" => first | k_dflt ((with_reducible show wpAny _ _ (call _ [Value.ref ROW]) _ _ _); (refine KM.len_K (its := rv7.toArray) (n := R.length) (by k_asm) (by k_mem) (by simp [hiR.length]) (by omega) ?_); (try dsimp only); (try k_fold)) | k_dflt ((with_reducible show wpAny _ _ (call _ [Value.ref d9]) _ _ _); (refine KM.len_K (its := vs9.toArray) (n := ds9.length) (by k_asm) (by k_mem) (by simp [hi9.length]) (by omega) ?_); (try rw [hd9]); (try dsimp only); (try k_fold))
  k_with "binaryOp LShift int int" => ((with_reducible refine lshift_int_small ?kb1 ?kb2 ?kb3 ?_); (case kb1 => omega); (case kb2 => omega); (case kb3 => omega))
  k_go0
  all_goals try k_fold
  k_dflt (refine' post_gen ?tF ?tN ?_ ?_; (case tF => k_asm); (case tN => k_asm))
  · intro m8 n8 h8 tk8 F8 N8 G8
    k_steps
  intro Q8 P8 hQ8
  k_steps
  all_goals exact hQ8 _ _ _ _ (by k_asm) (by k_asm) (grown_full hst9 (by k_asm) (fun p hp => by (repeat (first | exact hp | refine List.Mem.tail _ ?_))))
  all_goals (try k_data))
end Mine
theorem PySem.Challenge.cw_wf0062_01_holds : PySem.Challenge.rw_wf0062_01.Holds := by
  exact Mine.law_holds
