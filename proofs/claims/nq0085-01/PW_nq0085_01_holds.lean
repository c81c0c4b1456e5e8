import PyProof.Rows.All
import Wide.All
import OpenK.AllK
import Wide.FinOn
import PySem.Challenge.RW_nq0085_01
open PySem PySem.W PyProof.Rows PySem.Calls PySem.Spec
set_option Elab.async false
set_option maxRecDepth 100000
set_option maxHeartbeats 8000000
set_option linter.all false

/-! part Hd -/
namespace Mine
open_top hd for PySem.Challenge.rw_nq0085_01
end Mine

/-! part B1 -/
namespace Mine

/-- what a call leaves behind: the value, what it made -/
def EndS (s : Shared) (R : Value → List (Addr × Obj) → Prop) (v : Value) (s' : Shared) : Prop :=
  ∃ L' m' tl h' tk', s' = { s with heap := h', toks := tk' } ∧ Fr s.heap L' h' m' ∧ News s.heap L' h' tl ∧ R v tl

theorem EndS.intro {s s' : Shared} {R : Value → List (Addr × Obj) → Prop} {v : Value} {L' : Addr} {m' : Str → Option Value} {tl : List (Addr × Obj)} {h' : Heap} {tk' : Nat}
    (e : s' = { s with heap := h', toks := tk' }) (F : Fr s.heap L' h' m') (N : News s.heap L' h' tl) (r : R v tl) : EndS s R v s' := ⟨L', m', tl, h', tk', e, F, N, r⟩

theorem EndS.introS {s s' : Shared} {R : Value → List (Addr × Obj) → Prop} {v : Value} {L' : Addr} {m' : Str → Option Value} {tl all : List (Addr × Obj)} {h' : Heap} {tk' : Nat}
    (e : s' = { s with heap := h', toks := tk' }) (F : Fr s.heap L' h' m') (N : News s.heap L' h' all) (r : R v tl) (sub : ∀ p ∈ tl, p ∈ all) : EndS s R v s' := ⟨L', m', tl, h', tk', e, F, fun p hp => N p (sub p hp), r⟩

/-- a contract: what a call of f with these values gives, in whatever frame -/
def Says (prog : Program) (w : World) (K : Frag) (p : Program) (loose : List Str) (mean : ExcName → Option Value) (mg mb : Str → Option Value) (f : Addr) (d u : Nat) (vs : List Value) (Pre : Heap → Prop) (R : Value → List (Addr × Obj) → Prop) : Prop :=
  ∀ (dp un : Nat) (gd : Option (List Code)) (cn : Str) (cs : Scope) (a : Addr) (ccd : Value) (cl : List (Str × Addr)) (outer : List Env) (A₀ : Around) (base h₀ : Heap) (L : Addr) (m : Str → Option Value) (s : Shared) (Q E : Value → Shared → Prop),
    Below A₀ base outer h₀ → Fr h₀ L s.heap m → K.In h₀ → Top p loose mean mg mb h₀ → cs.kind = .function → Pre s.heap → dp + d < recursionLimit → un + u < cLine →
    (∀ v tl h' tk', (∀ b o, s.heap.get? b = some o → h'.get? b = some o) → (∀ q ∈ tl, h'.get? q.1 = some q.2 ∧ s.heap.get? q.1 = none) → R v tl → Q v { s with heap := h', toks := tk' }) →
    wpAny (model prog w) (ktrTop dp un gd cn cs L a ccd cl outer) (call (.ref f) vs) Q E s

section
variable {prog : Program} {w : World} {K : Frag} {p : Program} {loose : List Str} {mean : ExcName → Option Value} {mg mb : Str → Option Value} {f : Addr} {d u : Nat} {vs : List Value} {Pre : Heap → Prop} {R : Value → List (Addr × Obj) → Prop}

theorem says_use {dp un : Nat} {gd : Option (List Code)} {cn : Str} {cs : Scope} {a : Addr} {ccd : Value} {cl : List (Str × Addr)} {outer : List Env} {A₀ : Around} {base h₀ : Heap} {L : Addr} {m : Str → Option Value} {s : Shared} {news : List (Addr × Obj)} {Q E : Value → Shared → Prop}
    (C : Says prog w K p loose mean mg mb f d u vs Pre R)
    (B : Below A₀ base outer h₀) (F : Fr h₀ L s.heap m) (X : K.In h₀) (N : News h₀ L s.heap news) (T : Top p loose mean mg mb h₀) (hk : cs.kind = .function) (hpre : Pre s.heap) (hd : dp + d < recursionLimit) (hu : un + u < cLine)
    (ret : ∀ v tl h' tk', Fr h₀ L h' m → News h₀ L h' (tl ++ news) → (∀ q ∈ news, ∀ p ∈ tl, q.1 ≠ p.1) → R v tl → Q v { s with heap := h', toks := tk' }) :
    wpAny (model prog w) (ktrTop dp un gd cn cs L a ccd cl outer) (call (.ref f) vs) Q E s := by
  refine C dp un gd cn cs a ccd cl outer A₀ base h₀ L m s Q E B F X T hk hpre hd hu fun v tl h' tk' keep hn r => ?_
  obtain ⟨oL, es, ep, hL, hLd, hLk, hLf⟩ := F.ns
  refine ret v tl h' tk' ⟨⟨oL, es, ep, keep _ _ hL, hLd, hLk, hLf⟩, fun b o e => keep b o (F.keep b o e), F.above⟩ (fun q hq => ?_) (fun q hq p' hp' e => ?_) r
  · rcases List.mem_append.mp hq with hq | hq
    · refine ⟨(hn q hq).1, fun e => ?_, ?_⟩
      · have := (hn q hq).2; rw [e, hL] at this; cases this
      · cases e : h₀.get? q.1 with
        | none => rfl
        | some o => have := (hn q hq).2; rw [F.keep _ _ e] at this; cases this
    · exact ⟨keep _ _ (N q hq).1, (N q hq).2⟩
  · have := (hn p' hp').2; rw [← e, (N q hq).1] at this; cases this

theorem says_use0 {dp un : Nat} {gd : Option (List Code)} {cn : Str} {cs : Scope} {a : Addr} {ccd : Value} {cl : List (Str × Addr)} {outer : List Env} {A₀ : Around} {base h₀ : Heap} {L : Addr} {m : Str → Option Value} {s : Shared} {news : List (Addr × Obj)} {Q E : Value → Shared → Prop} {R : Value → Prop}
    (C : Says prog w K p loose mean mg mb f d u vs Pre (fun v _ => R v))
    (B : Below A₀ base outer h₀) (F : Fr h₀ L s.heap m) (X : K.In h₀) (N : News h₀ L s.heap news) (T : Top p loose mean mg mb h₀) (hk : cs.kind = .function) (hpre : Pre s.heap) (hd : dp + d < recursionLimit) (hu : un + u < cLine)
    (ret : ∀ v h' tk', Fr h₀ L h' m → News h₀ L h' news → R v → Q v { s with heap := h', toks := tk' }) :
    wpAny (model prog w) (ktrTop dp un gd cn cs L a ccd cl outer) (call (.ref f) vs) Q E s :=
  says_use C B F X N T hk hpre hd hu fun v _ h' tk' F' N' _ r => ret v h' tk' F' (fun q hq => N' q (List.mem_append_right _ hq)) r

theorem says_enter {dp un : Nat} {gd : Option (List Code)} {cn : Str} {cs : Scope} {a : Addr} {ccd : Value} {cl : List (Str × Addr)} {outer : List Env} {A₀ : Around} {base h₀ : Heap} {L : Addr} {m : Str → Option Value} {s : Shared} {Q E : Value → Shared → Prop}
    {name qual : Str} {params : Arguments} {body : List Stmt} {scope : Scope} {dV kV doc pm cdv ct oc : Value} {an od : Option Addr} {osl : Array (Option Value)} {binds : List (Str × Value)}
    (B : Below A₀ base outer h₀) (F : Fr h₀ L s.heap m) (X₀ : K.In h₀) (T : Top p loose mean mg mb h₀) (hke : cs.kind = .function)
    (ho : K.lookup f = some ⟨oc, od, .func (fnOf name qual params body scope dV kV doc pm an cdv ct), osl⟩) (hcd : codeIn K cdv qual = true) (hroom : dp < recursionLimit)
    (hbind : BindsTo s (fnOf name qual params body scope dV kV doc pm an cdv ct) ⟨vs, []⟩ binds) (hloc : ∀ y ∈ binds, scope.names.lookup y.1 = some .local)
    (h : ∀ h₁ L', L' = s.heap.objs.size → Fr s.heap L' h₁ (fun y => binds.reverse.lookup y) → News s.heap L' h₁ [] → Below (ktrTop dp un gd cn cs L a ccd cl outer) base (envX cn cs L a ccd cl :: outer) s.heap → K.In s.heap → Top p loose mean mg mb s.heap →
      wpAny (model prog w) ((ktrTop dp un gd cn cs L a ccd cl outer).deeper (envOf qual scope L' f cdv)) (execs body (envOf qual scope L' f cdv))
        (fun fl s' => EndS s R (match fl with | .ret v => v | _ => .none) s') (fun _ _ => False)
        { s with heap := h₁, toks := s.toks + binds.length })
    (ret : ∀ v tl h' tk', (∀ b o, s.heap.get? b = some o → h'.get? b = some o) → (∀ q ∈ tl, h'.get? q.1 = some q.2 ∧ s.heap.get? q.1 = none) → R v tl → Q v { s with heap := h', toks := tk' })
    (hco : scope.isCoroutine = false) (hgen : scope.isGenerator = false) (hk : scope.kind = .function)
    (hcell : ∀ x ∈ scope.names, x.2 ≠ .cell) : wpAny (model prog w) (ktrTop dp un gd cn cs L a ccd cl outer) (call (.ref f) vs) Q E s := by
  refine wpAny_call ?_
  have XS : K.In s.heap := X₀.keeps F.keep
  have TS : Top p loose mean mg mb s.heap := T.keeps F.keep
  obtain ⟨FG, BG, st, lv⟩ := groundX (R := fun _ _ => True) (A := ktrTop dp un gd cn cs L a ccd cl outer) (env := envX cn cs L a ccd cl) B F News.nil rfl rfl hke
  refine codeAny_call_def (fd := fnOf name qual params body scope dV kV doc pm an cdv ct) (body := body) (binds := binds) hroom (XS _ _ ho) rfl (T.nolimit.keeps F.keep) (codeRec_of XS hcd) rfl hbind hcell hloc (fun h₁ hns hk₁ => ?_) hco hgen hk
  refine wpAny_mono (h h₁ _ rfl ⟨hns, fun b o e => hk₁ b o e, Nat.le_refl _⟩ News.nil BG XS TS) (fun fl s' hl => ?_) fun _ _ y => y.elim
  obtain ⟨L', m', tl, h', tk', e, F', N', r⟩ := hl
  subst e
  exact ret _ tl h' tk' F'.keep (fun q hq => ⟨(N' q hq).1, (N' q hq).2.2⟩) r
theorem says_enterC {dp un : Nat} {gd : Option (List Code)} {cn : Str} {cs : Scope} {a : Addr} {ccd : Value} {cl : List (Str × Addr)} {outer : List Env} {A₀ : Around} {base h₀ : Heap} {L : Addr} {m : Str → Option Value} {s : Shared} {Q E : Value → Shared → Prop}
    {name qual : Str} {params : Arguments} {body : List Stmt} {scope : Scope} {dV kV doc pm cdv ct oc : Value} {an od : Option Addr} {osl : Array (Option Value)} {binds : List (Str × Value)}
    (B : Below A₀ base outer h₀) (F : Fr h₀ L s.heap m) (X₀ : K.In h₀) (T : Top p loose mean mg mb h₀) (hke : cs.kind = .function)
    (ho : K.lookup f = some ⟨oc, od, .func (fnOf name qual params body scope dV kV doc pm an cdv ct), osl⟩) (hcd : codeIn K cdv qual = true) (hroom : dp < recursionLimit)
    (hbind : BindsTo s (fnOf name qual params body scope dV kV doc pm an cdv ct) ⟨vs, []⟩ binds) (hkind : (binds.all fun y => scope.names.lookup y.1 == some .local || scope.names.lookup y.1 == some .cell) = true)
    (hnd : ((cellsFrom 0 scope.names []).map (·.1)).Nodup)
    (h : ∀ h₁ L' tk cells, L' = s.heap.objs.size → Fr s.heap L' h₁ (bindL (envOfC qual scope L' f cdv).kindOf binds fun _ => none) → News s.heap L' h₁ (cells ++ []) →
      CellsAre (bindC (envOfC qual scope L' f cdv).kindOf binds fun _ => none) (cellsFrom (L' + 1) scope.names []) cells → Below (ktrTop dp un gd cn cs L a ccd cl outer) base (envX cn cs L a ccd cl :: outer) s.heap → K.In s.heap → Top p loose mean mg mb s.heap →
      wpAny (model prog w) ((ktrTop dp un gd cn cs L a ccd cl outer).deeper (envOfC qual scope L' f cdv)) (execs body (envOfC qual scope L' f cdv))
        (fun fl s' => EndS s R (match fl with | .ret v => v | _ => .none) s') (fun _ _ => False)
        { s with heap := h₁, toks := tk })
    (ret : ∀ v tl h' tk', (∀ b o, s.heap.get? b = some o → h'.get? b = some o) → (∀ q ∈ tl, h'.get? q.1 = some q.2 ∧ s.heap.get? q.1 = none) → R v tl → Q v { s with heap := h', toks := tk' })
    (hco : scope.isCoroutine = false) (hgen : scope.isGenerator = false) (hk : scope.kind = .function) : wpAny (model prog w) (ktrTop dp un gd cn cs L a ccd cl outer) (call (.ref f) vs) Q E s := by
  refine wpAny_call ?_
  have XS : K.In s.heap := X₀.keeps F.keep
  have TS : Top p loose mean mg mb s.heap := T.keeps F.keep
  obtain ⟨FG, BG, st, lv⟩ := groundX (R := fun _ _ => True) (A := ktrTop dp un gd cn cs L a ccd cl outer) (env := envX cn cs L a ccd cl) B F News.nil rfl rfl hke
  refine codeAny_call_function hroom (XS _ _ ho) rfl hco hgen rfl (codeRec_of XS hcd) (hbind _ _ _ _ ?_)
  refine wpAny_newFunctionEnv_cells hk (kindsX hkind _) fun env' he s' x => ?_
  subst he
  refine ⟨(T.nolimit.keeps F.keep).keeps x.toInCall.keep, codeAny_func ?_⟩
  obtain ⟨h₁, tk, rfl, _⟩ := x.done
  obtain ⟨cells, NC, Y⟩ := Cl.news (h₀ := s.heap) (Nat.le_refl _) fun n c hm => ⟨x.cell n c (lookup_of_mem_nodup (cellsFrom_names scope.names 0 (s.heap.objs.size + 1) [] [] rfl ▸ hnd) hm), x.above n c hm⟩
  refine wpAny_mono (h h₁ _ tk cells rfl ⟨x.toInCall.ns, x.toInCall.keep, Nat.le_refl _⟩ (by rw [List.append_nil]; exact NC) Y BG XS TS) (fun fl s' hl => ?_) fun _ _ y => y.elim
  obtain ⟨L', m', tl, h', tk', e, F', N', r⟩ := hl
  subst e
  exact ret _ tl h' tk' F'.keep (fun q hq => ⟨(N' q hq).1, (N' q hq).2.2⟩) r
end
end Mine

/-! part C1 -/
namespace Mine

/-- the contract at this program -/
abbrev SaysL (w : World) (mean : ExcName → Option Value) (mg mb : Str → Option Value) (f : Addr) (d u : Nat) (vs : List Value) (Pre : Heap → Prop) (R : Value → List (Addr × Obj) → Prop) : Prop :=
  Says PySem.Challenge.rw_nq0085_01.row.prog w (hd.heap_39 w.params) hd.view_39 (looseW hd.view_39 [Str.ofString "_filemode_table"]) mean mg mb f d u vs Pre R

theorem next_fits {n : Int} (u : Int) (hu : u = 1 ∨ u = 8 ∨ u = 64 ∨ u = 512 ∨ u = 4096) (h0 : 0 ≤ n) (h1 : n < 65536) :
    0 ≤ n + (((n.fdiv u).fmod 8 + 1).fmod 8 - (n.fdiv u).fmod 8) * u ∧ n + (((n.fdiv u).fmod 8 + 1).fmod 8 - (n.fdiv u).fmod 8) * u < 65536 := by
  have e8 : ∀ x : Int, x.fmod 8 = x % 8 := fun x => Int.fmod_eq_emod_of_nonneg x (by decide)
  simp only [e8]
  rcases hu with rfl | rfl | rfl | rfl | rfl
  all_goals (rw [Int.fdiv_eq_ediv_of_nonneg n (by decide)]; omega)

theorem next_says (w : World) (mean : ExcName → Option Value) (mg mb : Str → Option Value) (n pl : Int) (t u : Tok) (h0 : 0 ≤ n) (h1 : n < 65536) (h2 : 0 ≤ pl) (h3 : pl ≤ 5) :
    SaysL w mean mg mb 170 1 8 [.int n t, .int pl u] (fun _ => True) (fun v _ => ∃ r t', v = .int r t' ∧ 0 ≤ r ∧ r < 65536) := by
  have hc : pl = 0 ∨ pl = 1 ∨ pl = 2 ∨ pl = 3 ∨ pl = 4 ∨ pl = 5 := by omega
  w_top off
  unfold SaysL; k_fill
  intro dp un gd cn cs a ccd cl outer A₀ base h₀ L m s Q E B F X T hk hpre hd hu ret
  (k_dflt (refine' says_enter B F X T hk ?k6 ?k7 ?k8 ?k9 ?kB ?_ ret ?c2 ?c3 ?c4 ?c5; (case k6 => k_is); (case k7 => k_is); (case k8 => omega); (case k9 => exact BindsTo.of_eq rfl); (case c5 => decide); (case kB => exact locs rfl); (case c2 => exact rfl); (case c3 => exact rfl); (case c4 => exact rfl); k_whole; intro h' L' eL F' N' B' X' T'; (try dsimp only); (try k_lift B'); (try k_fold)))
  rcases hc with rfl | rfl | rfl | rfl | rfl | rfl
  all_goals k_steps
  all_goals ((try dsimp only); (try (k_unfold; try dsimp only)); refine EndS.intro rfl (by k_asm) (by k_asm) ?_)
  · exact ⟨_, _, rfl, next_fits 1 (by decide) h0 h1⟩
  · exact ⟨_, _, rfl, next_fits 8 (by decide) h0 h1⟩
  · exact ⟨_, _, rfl, next_fits 64 (by decide) h0 h1⟩
  · exact ⟨_, _, rfl, next_fits 512 (by decide) h0 h1⟩
  · exact ⟨_, _, rfl, next_fits 4096 (by decide) h0 h1⟩
  · exact ⟨_, _, rfl, h0, h1⟩
end Mine

/-! part C2 -/
namespace Mine

def lastF (k c : Int) : Str := if k = 0 then Str.ofString "" else if k = 1 then Str.ofString "x" else if k = 2 then Txt.item (Str.ofString "SST") c else Txt.item (Str.ofString "sst") c
/-- what _law_signs gives -/
def signsF (n c : Int) : Str := Txt.mul (Str.ofString "r") ((n.fdiv 4).fmod 2) ++ Txt.mul (Str.ofString "w") ((n.fdiv 2).fmod 2) ++ lastF (n.fmod 2 + n.fdiv 8 * 2) c
theorem signs_says (w : World) (mean : ExcName → Option Value) (mg mb : Str → Option Value) (n c : Int) (t u : Tok) (h0 : 0 ≤ n) (h1 : n < 16) (h2 : 0 ≤ c) (h3 : c < 3) :
    SaysL w mean mg mb 149 1 40 [.int n t, .int c u] (fun _ => True) (fun v _ => ∃ t, v = .str (signsF n c) t) := by
  have q1 : 0 ≤ (n.fdiv 4).fmod 2 ∧ (n.fdiv 4).fmod 2 < 2 := ⟨Int.fmod_nonneg_of_pos _ (by decide), Int.fmod_lt_of_pos _ (by decide)⟩
  have q2 : 0 ≤ (n.fdiv 2).fmod 2 ∧ (n.fdiv 2).fmod 2 < 2 := ⟨Int.fmod_nonneg_of_pos _ (by decide), Int.fmod_lt_of_pos _ (by decide)⟩
  obtain ⟨q1, q1'⟩ := q1
  obtain ⟨q2, q2'⟩ := q2
  w_top off
  unfold SaysL; k_fill
  intro dp un gd cn cs a ccd cl outer A₀ base h₀ L m s Q E B F X T hk hpre hd hu ret
  (k_dflt (refine' says_enter B F X T hk ?k6 ?k7 ?k8 ?k9 ?kB ?_ ret ?c2 ?c3 ?c4 ?c5; (case k6 => k_is); (case k7 => k_is); (case k8 => omega); (case k9 => exact BindsTo.of_eq rfl); (case c5 => decide); (case kB => exact locs rfl); (case c2 => exact rfl); (case c3 => exact rfl); (case c4 => exact rfl); k_whole; intro h' L' eL F' N' B' X' T'; (try dsimp only); (try k_lift B'); (try k_fold)))
  k_steps
  all_goals ((try dsimp only); (try (k_unfold; try dsimp only)); refine EndS.intro rfl (by k_asm) (by k_asm) ?_)
  all_goals (rename n.fmod 2 + n.fdiv 8 * 2 = _ => kq)
  all_goals (refine ⟨_, congrArg (fun z => Value.str z _) ?_⟩; unfold signsF lastF; rw [kq]; rfl)
theorem and_low {n : Int} (h0 : 0 ≤ n) : Builtin.bitAnd n 4095 = n % 4096 := by
  obtain ⟨k, rfl⟩ := Int.eq_ofNat_of_zero_le h0
  rw [bitAnd_pp h0 (by decide)]
  have e : ((k : Int).toNat &&& (4095 : Int).toNat) = k % 4096 := Nat.and_two_pow_sub_one_eq_mod k 12
  rw [e]; omega
theorem and_high_nat {k : Nat} (h1 : k < 65536) : k &&& 61440 = k / 4096 * 4096 := by
  apply Nat.eq_of_testBit_eq
  intro i
  rw [Nat.testBit_and, show (61440 : Nat) = 15 * 2 ^ 12 from rfl, show k / 4096 * 4096 = k / 2 ^ 12 * 2 ^ 12 from rfl, Nat.testBit_mul_two_pow, Nat.testBit_mul_two_pow, Nat.testBit_div_two_pow]
  by_cases hi : 12 ≤ i
  · have e : i - 12 + 12 = i := by omega
    simp only [hi, decide_true, Bool.true_and, e]
    by_cases h16 : i < 16
    · have : (15 : Nat).testBit (i - 12) = true := by
        have : i - 12 = 0 ∨ i - 12 = 1 ∨ i - 12 = 2 ∨ i - 12 = 3 := by omega
        rcases this with e | e | e | e <;> rw [e] <;> rfl
      rw [this, Bool.and_true]
    · have : k.testBit i = false := Nat.testBit_lt_two_pow (Nat.lt_of_lt_of_le h1 (Nat.pow_le_pow_right (n := 2) (by decide) (show 16 ≤ i by omega)))
      rw [this, Bool.false_and]
  · simp [hi]
theorem and_high {n : Int} (h0 : 0 ≤ n) (h1 : n < 65536) : Builtin.bitAnd n 61440 = n / 4096 * 4096 := by
  obtain ⟨k, rfl⟩ := Int.eq_ofNat_of_zero_le h0
  rw [bitAnd_pp h0 (by decide)]
  have e : ((k : Int).toNat &&& (61440 : Int).toNat) = k / 4096 * 4096 := and_high_nat (by omega)
  rw [e]; omega
theorem imode_says (w : World) (mean : ExcName → Option Value) (mg mb : Str → Option Value) (n : Int) (t : Tok) (h0 : 0 ≤ n) (h1 : n < 65536) :
    SaysL w mean mg mb 78 1 8 [.int n t] (fun _ => True) (fun v _ => ∃ t, v = .int (n % 4096) t) := by
  w_top off
  unfold SaysL; k_fill
  intro dp un gd cn cs a ccd cl outer A₀ base h₀ L m s Q E B F X T hk hpre hd hu ret
  (k_dflt (refine' says_enter B F X T hk ?k6 ?k7 ?k8 ?k9 ?kB ?_ ret ?c2 ?c3 ?c4 ?c5; (case k6 => k_is); (case k7 => k_is); (case k8 => omega); (case k9 => exact BindsTo.of_eq rfl); (case c5 => decide); (case kB => exact locs rfl); (case c2 => exact rfl); (case c3 => exact rfl); (case c4 => exact rfl); k_whole; intro h' L' eL F' N' B' X' T'; (try dsimp only); (try k_lift B'); (try k_fold)))
  k_steps
  all_goals ((try dsimp only); (try (k_unfold; try dsimp only)); refine EndS.intro rfl (by k_asm) (by k_asm) ?_)
  exact ⟨_, congrArg (fun z => Value.int z _) (and_low h0)⟩
theorem ifmt_says (w : World) (mean : ExcName → Option Value) (mg mb : Str → Option Value) (n : Int) (t : Tok) (h0 : 0 ≤ n) (h1 : n < 65536) :
    SaysL w mean mg mb 85 1 8 [.int n t] (fun _ => True) (fun v _ => ∃ t, v = .int (n / 4096 * 4096) t) := by
  w_top off
  unfold SaysL; k_fill
  intro dp un gd cn cs a ccd cl outer A₀ base h₀ L m s Q E B F X T hk hpre hd hu ret
  (k_dflt (refine' says_enter B F X T hk ?k6 ?k7 ?k8 ?k9 ?kB ?_ ret ?c2 ?c3 ?c4 ?c5; (case k6 => k_is); (case k7 => k_is); (case k8 => omega); (case k9 => exact BindsTo.of_eq rfl); (case c5 => decide); (case kB => exact locs rfl); (case c2 => exact rfl); (case c3 => exact rfl); (case c4 => exact rfl); k_whole; intro h' L' eL F' N' B' X' T'; (try dsimp only); (try k_lift B'); (try k_fold)))
  k_steps
  all_goals ((try dsimp only); (try (k_unfold; try dsimp only)); refine EndS.intro rfl (by k_asm) (by k_asm) ?_)
  exact ⟨_, congrArg (fun z => Value.int z _) (and_high h0 h1)⟩
local macro_rules | `(tactic| walk_at "call ref") => `(tactic| (k_here; (with_reducible show wpAny _ _ (call (Value.ref 78) [Value.int _ _]) _ _ _); k_dflt (refine' says_use0 (imode_says _ _ _ _ _ _ ?p0 ?p1) ?k1 ?k2 ?k3 ?k4 ?k5 ?kK ?kp ?kd ?ku ?_; (case p0 => assumption); (case p1 => assumption); (case k1 => k_asm); (case k2 => k_asm); (case k3 => k_asm); (case k4 => k_asm); (case k5 => k_asm); (case kK => exact Eq.refl _); (case kp => trivial); (case kd => ktr_room); (case ku => ktr_units)); intro v9 h9 tk9 F9 N9 r9; obtain ⟨t9, e9⟩ := r9; subst e9; (try dsimp only)))
end Mine

/-! part D6 -/
namespace Mine

theorem natEq {a b : Nat} (h : a = b) : a = b := h
theorem natLt {a b : Nat} (h : a < b) : a < b := h
theorem natLe {a b : Nat} (h : a ≤ b) : a ≤ b := h
/-- a turn's end: on, out, or back; the iterator stands in the ledger -/
def TEndI (h₀ : Heap) (L : Addr) (s : Shared) (I : Addr) (oI : Obj) (J : (Str → Option Value) → List (Addr × Obj) → Prop) (R : Flow → Shared → Prop) (f : Flow) (s₃ : Shared) : Prop :=
  match f with
  | .ret v => R (.ret v) s₃
  | .brk => R .next s₃
  | _ => ∃ h' tk m' news', s₃ = { s with heap := h', toks := tk } ∧ Fr h₀ L h' m' ∧ News h₀ L h' ((I, oI) :: news') ∧ (∀ p ∈ news', @Ne Nat p.1 I) ∧ J m' news'
theorem TEndI.on {h₀ : Heap} {L : Addr} {s : Shared} {I : Addr} {oI : Obj} {J : (Str → Option Value) → List (Addr × Obj) → Prop} {R : Flow → Shared → Prop} {h' : Heap} {tk : Nat} {m' : Str → Option Value} {news' all : List (Addr × Obj)} {g : Heap} {tg : Nat}
    (F : Fr h₀ L h' m') (N : News h₀ L h' all) (sub : ∀ p ∈ (I, oI) :: news', p ∈ all) (off : ∀ p ∈ news', @Ne Nat p.1 I) (hJ : J m' news') : TEndI h₀ L { s with heap := g, toks := tg } I oI J R .next { s with heap := h', toks := tk } :=
  ⟨h', tk, m', news', rfl, F, fun p hp => N p (sub p hp), off, hJ⟩
section
variable {prog : Program} {w : World} {A : Around} {s : Shared} {env : Env} {h₀ : Heap} {body orelse : List Stmt} {E : Value → Shared → Prop}
theorem turnsOne {target : Expr} {R : Flow → Shared → Prop} {R' : Result → Shared → Prop} (hRR : ∀ f s, R f s → R' (.ok f) s) {I : Addr} {fp : List Addr} {n : Nat} {P Md : Nat → Value → Heap → Prop} {St : Nat → Heap → Prop} {m : Str → Option Value} {news : List (Addr × Obj)} (W : KTurns prog w A target I fp [I] n P Md St)
    (hob : ∀ i h, St i h → ∃ o, h.get? I = some o) (src : List (Addr × Obj))
    (hLf : env.locals ∉ fp) (hI0 : h₀.get? I = none) (hfp : ∀ b ∈ fp, b = I ∨ (∃ o, h₀.get? b = some o) ∨ ∃ o, (b, o) ∈ src) (hnw : ∀ p ∈ news, @Ne Nat p.1 I) (hst : St 0 s.heap) (F : Fr h₀ env.locals s.heap m) (N : News h₀ env.locals s.heap news)
    (J : Nat → (Str → Option Value) → List (Addr × Obj) → Prop) (h0 : J 0 m news) (hsrc : ∀ i m news, J i m news → ∀ p ∈ src, p ∈ news)
    (step : ∀ oI i v m₁ news₁ h₁ tk₁, i < n → P i v h₁ → J i m₁ news₁ → (∀ p ∈ news₁, @Ne Nat p.1 I) → Fr h₀ env.locals h₁ m₁ → News h₀ env.locals h₁ ((I, oI) :: news₁) →
      wpAny (model prog w) A (assign target env v) (fun _ s₂ => wpAny (model prog w) A (execs body env)
        (TEndI h₀ env.locals s I oI (J (i + 1)) R) (fun _ _ => False) s₂) (fun _ _ => False) { s with heap := h₁, toks := tk₁ })
    (els : ∀ h' tk m' news', Fr h₀ env.locals h' m' → News h₀ env.locals h' news' → (∀ p ∈ news', @Ne Nat p.1 I) → J n m' news' →
      wpAny (model prog w) A (execs orelse env) R (fun _ _ => False) { s with heap := h', toks := tk }) :
    codeAny (model prog w) A (.forLoop target (.ref I) body orelse env) R' s := by
  have hIf : I ∈ fp := W.sub I (List.mem_singleton.mpr rfl)
  have hLI : env.locals ≠ I := fun e => hLf (e ▸ hIf)
  have hLw : env.locals ∉ [I] := fun h => hLI (List.mem_singleton.mp h)
  have old : ∀ b o, h₀.get? b = some o → b ∉ [I] := fun b o e hb => by rw [List.mem_singleton.mp hb, hI0] at e; cases e
  refine codeAny_forLoop_any
    (fun k s' => ∃ h' tk m' news' i, s' = { s with heap := h', toks := tk } ∧ St i h' ∧ Fr h₀ env.locals h' m' ∧ News h₀ env.locals h' news' ∧ (∀ p ∈ news', @Ne Nat p.1 I) ∧ J i m' news' ∧ i ≤ n ∧ k = n + 1 - i) ?_ (n + 1)
    ⟨s.heap, s.toks, m, news, 0, rfl, hst, F, N, hnw, h0, Nat.zero_le _, rfl⟩
  rintro k s' ⟨h', tk, m', news', i, rfl, hst', F', N', hnw', hJ, hi, rfl⟩
  have next : ∀ h₁ : Heap, (∀ b o, b ∉ [I] → h'.get? b = some o → h₁.get? b = some o) → Fr h₀ env.locals h₁ m' ∧ News h₀ env.locals h₁ news' := fun h₁ hk₁ =>
    ⟨⟨F'.ns.at' fun o e => hk₁ _ o hLw e, fun b o e => hk₁ b o (old b o e) (F'.keep b o e), F'.above⟩, fun p hp => ⟨hk₁ _ _ (fun hb => hnw' p hp (List.mem_singleton.mp hb)) (N' p hp).1, (N' p hp).2⟩⟩
  by_cases hlt : i < n
  · refine W.item i _ _ _ hlt hst' fun v h₁ tk₁ hMd hk₁ => ?_
    refine W.go i v _ _ _ hMd fun h₂ hP hst₂ hk₂ => ?_
    obtain ⟨F₂, N₂⟩ := next h₂ fun b o hb x => hk₂ b o hb (hk₁ b o hb x)
    obtain ⟨oI, hoI⟩ := hob _ _ hst₂
    have NN : News h₀ env.locals h₂ ((I, oI) :: news') := fun p hp => by
      rcases List.mem_cons.mp hp with e | hp
      · subst e; exact ⟨hoI, Ne.symm hLI, hI0⟩
      · exact N₂ p hp
    refine wpAny_mono (step oI i v m' news' h₂ tk₁ hlt hP hJ hnw' F₂ NN) (fun _ s₂ h₂' => wpAny_mono h₂' (fun f s₃ h₃ => ?_) fun _ _ e => e.elim) fun _ _ e => e.elim
    have goOn : (∃ h' tk m' news', s₃ = { s with heap := h', toks := tk } ∧ Fr h₀ env.locals h' m' ∧ News h₀ env.locals h' ((I, oI) :: news') ∧ (∀ p ∈ news', @Ne Nat p.1 I) ∧ J (i + 1) m' news') →
        ∃ k, k < n + 1 - i ∧ ∃ h' tk m' news' i, s₃ = { s with heap := h', toks := tk } ∧ St i h' ∧ Fr h₀ env.locals h' m' ∧ News h₀ env.locals h' news' ∧ (∀ p ∈ news', @Ne Nat p.1 I) ∧ J i m' news' ∧ i ≤ n ∧ k = n + 1 - i := by
      rintro ⟨h₃', tk₃, m₂, news₂, rfl, F₃, N₃, ha₃, hJ₃⟩
      refine ⟨n + 1 - (i + 1), by omega, h₃', tk₃, m₂, news₂, i + 1, rfl, ?_, F₃, fun p hp => N₃ p (List.mem_cons_of_mem _ hp), ha₃, hJ₃, hlt, rfl⟩
      refine W.frame _ _ _ hst₂ fun b hb o e => ?_
      rcases hfp b hb with e1 | ⟨o₀, hn⟩ | ⟨o₀, hm⟩
      · subst e1
        have : oI = o := by rw [hoI] at e; exact Option.some.inj e
        exact this ▸ (N₃ _ (List.mem_cons_self ..)).1
      · have : o₀ = o := by have q := F₂.keep b o₀ hn; rw [e] at q; exact (Option.some.inj q).symm
        exact this ▸ F₃.keep b o₀ hn
      · have : o₀ = o := by have q := (N₂ _ (hsrc _ _ _ hJ _ hm)).1; rw [e] at q; exact (Option.some.inj q).symm
        exact this ▸ (N₃ _ (List.mem_cons_of_mem _ (hsrc _ _ _ hJ₃ _ hm))).1
    cases f with
    | ret v => exact hRR _ _ h₃
    | brk => exact hRR _ _ h₃
    | cont => exact goOn h₃
    | next => exact goOn h₃
  · have hin : i = n := by omega
    subst hin
    refine W.done _ _ _ hst' fun h₁ tk₁ hk₁ => ?_
    obtain ⟨F₁, N₁⟩ := next h₁ hk₁
    exact wpAny_mono (els h₁ tk₁ m' news' F₁ N₁ hnw' hJ) (fun f s' h => hRR f s' h) fun _ _ e => e.elim
/-- a loop over a list of the ledger -/
theorem listLoop {x : Str} {px : Pos} {Q : Flow → Shared → Prop} {l : Addr} {items : Array Value} {k : Nat} {m : Str → Option Value} {news : List (Addr × Obj)} (hh : A.handled = none) (F : Fr h₀ env.locals s.heap m) (N : News h₀ env.locals s.heap news) (hm : (l, ({ cls := .type "list", data := .seq items k } : Obj)) ∈ news)
    (J : Nat → (Str → Option Value) → List (Addr × Obj) → Prop) (h0 : J 0 m news) (hsrc : ∀ i m news, J i m news → (l, ({ cls := .type "list", data := .seq items k } : Obj)) ∈ news)
    (step : ∀ I oI i v m₁ news₁ h₁ tk₁, items[i]? = some v → J i m₁ news₁ → (∀ p ∈ news₁, @Ne Nat p.1 I) → Fr h₀ env.locals h₁ m₁ → News h₀ env.locals h₁ ((I, oI) :: news₁) →
      wpAny (model prog w) A (assign (.Name x px) env v) (fun _ s₂ => wpAny (model prog w) A (execs body env)
        (TEndI h₀ env.locals s I oI (J (i + 1)) Q) (fun _ _ => False) s₂) (fun _ _ => False) { s with heap := h₁, toks := tk₁ })
    (els : ∀ h' tk m' news', Fr h₀ env.locals h' m' → News h₀ env.locals h' news' → J items.size m' news' →
      wpAny (model prog w) A (execs orelse env) Q (fun _ _ => False) { s with heap := h', toks := tk }) :
    wpAny (model prog w) A (pyIter (.ref l)) (fun it s₂ => codeAny (model prog w) A (.forLoop (.Name x px) it body orelse env) (fun r s' => match r with | .ok f => Q f s' | .error e => cameBackBy (model prog w) A env E e s') s₂) E s := by
  have hls : s.heap.IsList l items := ⟨_, (N _ hm).1, rfl, _, rfl⟩
  have hlt : l < s.heap.objs.size := Heap.lt_size (N _ hm).1
  have hne : l ≠ s.heap.objs.size := Nat.ne_of_lt hlt
  have hlL : l ≠ env.locals := (N _ hm).2.1
  refine wpAny_pyIter_list hls ?_
  refine turnsOne (R := Q) (fun f s h => h) (KTurns.ofWalks (Walks.list hh s.heap.objs.size l hne items) fun i v s Q E st q => letGo_listiter st.1 q) ?_ [(l, ({ cls := .type "list", data := .seq items k } : Obj))] ?_ (next_is_new F) ?_ ?_ ?_ (F.push _) (fun p hp => ⟨Heap.get?_push_of_some _ (N p hp).1, (N p hp).2⟩) J h0 ?_ ?_ ?_
  · rintro i h ⟨⟨o, ho, _⟩, _⟩
    exact ⟨o, ho⟩
  · intro hI
    rcases List.mem_cons.mp hI with e | hI
    · exact absurd F.ns.lt (e ▸ Nat.lt_irrefl _)
    · exact hlL (List.mem_singleton.mp hI).symm
  · intro b hb
    rcases List.mem_cons.mp hb with e | hb
    · exact .inl e
    · exact .inr (.inr ⟨_, by rw [List.mem_singleton.mp hb]; exact List.mem_singleton.mpr rfl⟩)
  · intro p hp
    exact Nat.ne_of_lt (Heap.lt_size (N p hp).1)
  · exact ⟨⟨_, Heap.get?_push_size _ rfl, rfl, rfl⟩, hls.at fun o e => Heap.get?_push_of_some _ e⟩
  · intro i m news hJ p hp
    rw [List.mem_singleton.mp hp]; exact hsrc i m news hJ
  · intro oI i v m₁ news₁ h₁ tk₁ _ hP hJ hn F₁ N₁
    exact step s.heap.objs.size oI i v m₁ news₁ h₁ tk₁ hP hJ hn F₁ N₁
  · intro h' tk m' news' F' N' _ hJ
    exact els h' tk m' news' F' N' hJ
/-- a loop over a range -/
theorem rangeLoop {x : Str} {px : Pos} {Q : Flow → Shared → Prop} {r : Addr} {b₀ : Int} {t₀ u₀ v₀ : Tok} {n : Nat} {m : Str → Option Value} {news : List (Addr × Obj)} (hh : A.handled = none) (hr : IsRange s.heap r 0 b₀ 1 t₀ u₀ v₀) (hb : b₀ = (n : Int)) (hn : n < 1000) (F : Fr h₀ env.locals s.heap m) (N : News h₀ env.locals s.heap news)
    (J : (Str → Option Value) → List (Addr × Obj) → Prop) (h0 : J m news)
    (step : ∀ I oI (i : Nat) t m₁ news₁ h₁ tk₁, i < n → J m₁ news₁ → (∀ p ∈ news₁, @Ne Nat p.1 I) → Fr h₀ env.locals h₁ m₁ → News h₀ env.locals h₁ ((I, oI) :: news₁) →
      wpAny (model prog w) A (assign (.Name x px) env (.int (i : Int) t)) (fun _ s₂ => wpAny (model prog w) A (execs body env)
        (TEndI h₀ env.locals s I oI J Q) (fun _ _ => False) s₂) (fun _ _ => False) { s with heap := h₁, toks := tk₁ })
    (els : ∀ h' tk m' news', Fr h₀ env.locals h' m' → News h₀ env.locals h' news' → J m' news' →
      wpAny (model prog w) A (execs orelse env) Q (fun _ _ => False) { s with heap := h', toks := tk }) :
    wpAny (model prog w) A (pyIter (.ref r)) (fun it s₂ => codeAny (model prog w) A (.forLoop (.Name x px) it body orelse env) (fun r s' => match r with | .ok f => Q f s' | .error e => cameBackBy (model prog w) A env E e s') s₂) E s := by
  subst hb
  have hsmall : Builtin.Range.small 0 (n : Int) 1 = true := small_one (by decide) (by decide) (by omega) (by omega)
  have hsize : Builtin.Range.rangeSize 0 (n : Int) 1 = (n : Int) := by
    unfold Builtin.Range.rangeSize
    rw [if_pos (by decide)]
    split <;> omega
  refine wpAny_pyIter_range hr hsmall ?_
  refine turnsOne (R := Q) (fun f s h => h) (KTurns.ofWalks (Walks.range hh s.heap.objs.size 0 1 n) fun i v s Q E st q => wpAny_of_eq (show letOwnedTupleGo (.Name x px) _ v = pure () from rfl) q) ?_ [] ?_ (next_is_new F) ?_ ?_ ?_ (F.push _) (fun p hp => ⟨Heap.get?_push_of_some _ (N p hp).1, (N p hp).2⟩) (fun _ => J) h0 ?_ ?_ ?_
  · rintro i h ho
    exact ⟨_, ho⟩
  · intro hI
    exact absurd F.ns.lt ((List.mem_singleton.mp hI) ▸ Nat.lt_irrefl _)
  · intro b hb
    exact .inl (List.mem_singleton.mp hb)
  · intro p hp
    exact Nat.ne_of_lt (Heap.lt_size (N p hp).1)
  · show IsRangeIter _ _ _ _ _
    rw [hsize]; simpa using Heap.get?_push_size _ rfl
  · intro i m news hJ p hp
    exact nomatch hp
  · intro oI i v m₁ news₁ h₁ tk₁ hi hP hJ hn F₁ N₁
    obtain ⟨t, rfl⟩ := hP
    have e : (0 : Int) + (i : Int) * 1 = (i : Int) := by omega
    rw [e]
    exact step s.heap.objs.size oI i t m₁ news₁ h₁ tk₁ hi hJ hn F₁ N₁
  · intro h' tk m' news' F' N' _ hJ
    exact els h' tk m' news' F' N' hJ
/-- a list comprehension by an invariant -/
theorem compRest_inv {L : Addr} {m : Str → Option Value} {elt : Expr} {x : Str} {scope : Scope} {cl : List (Str × Addr)} {S : List (Addr × Obj) → Prop} {P : Nat → Value → Prop} {Fin : List Value → List (Addr × Obj) → Prop} {n : Nat}
    (J : Nat → List Value → List (Addr × Obj) → Prop)
    (step : ∀ i ys news v I oI C oC D m₂ h tk (E' : Value → Shared → Prop), i < n → J i ys news → P i v → LCg.NsObj oC m₂ → m₂ x = some v → Fr h₀ L h m → News h₀ L h ((I, oI) :: (C, oC) :: (D, LCg.lst ys) :: news) → (∀ p ∈ news, p.1 ≠ I ∧ p.1 ≠ C ∧ p.1 ≠ D) →
      wpAny (model prog w) A (eval elt (compEnvC scope cl C env)) (LCg.CompEnd h₀ L m { s with heap := h, toks := tk } I oI C oC D (LCg.lst ys) S (fun y news' => J (i + 1) (ys ++ [y]) news')) E' { s with heap := h, toks := tk })
    (fin : ∀ ys news, J n ys news → Fin ys news) : ∀ (k i : Nat) (ys : List Value) (news : List (Addr × Obj)), i + k = n → J i ys news → LCg.CompRest prog w A h₀ L m env elt x scope cl s S P Fin k i ys news
  | 0, i, ys, news, e, hJ => by
    have e' : i = n := by omega
    subst e'; exact LCg.CompRest.zero (fin ys news hJ)
  | k + 1, i, ys, news, e, hJ => by
    refine LCg.CompRest.succ fun v I oI C oC D m₂ h tk E' hP hC hx F N off ne => ?_
    refine wpAny_mono (step i ys news v I oI C oC D m₂ h tk E' (by omega) hJ hP hC hx F N (LCg.Off3.mem off)) (fun y s₂ hE => ?_) fun _ _ e => e
    obtain ⟨h', tk', news', e', F', N', o', S', J'⟩ := hE
    exact ⟨h', tk', news', e', F', N', o', S', compRest_inv J step fin k (i + 1) (ys ++ [y]) news' (by omega) J'⟩
end
end Mine

/-! part C3 -/
namespace Mine

/-- x or '-' -/
def dash (x : Str) : Str := if x.length = 0 then Str.ofString "-" else x
def OrD (M : Model) (A : Around) (env : Env) (e₂ : Expr) (pos : Pos) (Q E : Value → Shared → Prop) (v : Value) (s : Shared) : Prop :=
  wpAny M A (truthy v) (fun c s₂ => if c then Q v s₂ else wpAny M A (eval (.BoolOp .Or [e₂] pos) env) Q E s₂) E s
theorem orD_in {M : Model} {A : Around} {env : Env} {e₁ e₂ : Expr} {pos : Pos} {Q E : Value → Shared → Prop} {s : Shared}
    (h : wpAny M A (eval e₁ env) (fun v s₁ => OrD M A env e₂ pos Q E v s₁) E s) : wpAny M A (eval (.BoolOp .Or [e₁, e₂] pos) env) Q E s := BoolOp_or h
theorem orD_str {prog : Program} {w : World} {A : Around} {env : Env} {k : Nat} {p pos : Pos} {Q E : Value → Shared → Prop} {s : Shared} {x : Str} {t : Tok} (hx : x.length < 20)
    (h : ∀ y t' tk, y = dash x → y.length < 20 → Q (.str y t') { s with toks := tk }) : OrD (model prog w) A env (.Constant (.str (Str.ofString "-")) k p) pos Q E (.str x t) s := by
  refine P.truthy_str (by omega) ?_
  by_cases e : x.length = 0
  · have h0 : ((x.length : Int) != 0) = false := by rw [e]; rfl
    rw [h0]
    refine BoolOp_one (wpAny_Constant_str ?_)
    exact h _ _ _ (by rw [dash, if_pos e]) (by decide)
  · have h0 : ((x.length : Int) != 0) = true := by
      rw [bne_iff_ne]; omega
    rw [h0]
    exact h x t _ (by rw [dash, if_neg e]) hx
abbrev tupS (x : Str) (t : Tok) (y : Str) (u : Tok) : Obj := { cls := .type "tuple", data := .seq #[.str x t, .str y u] }
def twoF (ki gr : Str) : Str := Str.ofString "/" ++ ki ++ Str.ofString "/" ++ gr
/-- six addresses, laid -/
def AddrAre (ho ki gr ot : Str) (v : Value) (tl : List (Addr × Obj)) : Prop :=
  ∃ (l a0 a1 a2 a3 a4 a5 : Addr) (t u0 u1 u2 u3 u4 u5 : Tok), v = .ref l ∧ tl = [(l, W.listOf #[.ref a0, .ref a1, .ref a2, .ref a3, .ref a4, .ref a5] 6),
    (a0, tupS ho t (Str.ofString "") u0), (a1, tupS ho t (Str.ofString "/") u1), (a2, tupS ho t (Str.ofString "/" ++ ki) u2), (a3, tupS ho t (Str.ofString "/" ++ ki ++ Str.ofString "/" ++ gr) u3),
    (a4, tupS ho t (Str.ofString "/" ++ ki ++ Str.ofString "/" ++ gr ++ Str.ofString "/") u4), (a5, tupS ho t (Str.ofString "/" ++ ki ++ Str.ofString "/" ++ gr ++ Str.ofString "/" ++ ot) u5)]
local macro_rules | `(tactic| walk_at "eval BoolOp") => `(tactic| ((with_reducible show wpAny _ _ (eval (Expr.BoolOp BoolOp.Or [Expr.Name _ _, Expr.Constant (Const.str _) _ _] _) _) _ _ _); refine orD_in ?_))
local macro_rules | `(tactic| walk_at "OrD") => `(tactic| ((refine orD_str (by assumption) ?_); intro y9 t9 k9 e9 l9; (try dsimp only)))
abbrev tupV (x : Str) (t : Tok) (v : Value) : Obj := { cls := .type "tuple", data := .seq #[.str x t, v] }
/-- the pairs made so far -/
def PL (ho : Str) (t : Tok) (its : Array Value) (nw : List (Addr × Obj)) (i : Nat) (ys : List Value) (news : List (Addr × Obj)) : Prop :=
  ∃ (as : List Addr) (tl : List (Addr × Obj)), news = nw ++ tl ∧ as.length = i ∧ ys = as.map Value.ref ∧ ∀ (j : Nat) (b : Addr) (v : Value), as[j]? = some b → its[j]? = some v → (b, tupV ho t v) ∈ tl
theorem PL.nil {ho : Str} {t : Tok} {its : Array Value} {nw : List (Addr × Obj)} : PL ho t its nw 0 [] nw := ⟨[], [], (List.append_nil _).symm, rfl, rfl, fun j b v e => nomatch e⟩
theorem PL.snoc {ho : Str} {t : Tok} {its : Array Value} {nw tl : List (Addr × Obj)} {i : Nat} {as : List Addr} {D : Addr} {v : Value} (h1 : as.length = i) (h : ∀ (j : Nat) (b : Addr) (v : Value), as[j]? = some b → its[j]? = some v → (b, tupV ho t v) ∈ tl) (hv : its[i]? = some v) :
    PL ho t its nw (i + 1) (as.map Value.ref ++ [.ref D]) (nw ++ ((D, tupV ho t v) :: tl)) := by
  refine ⟨as ++ [D], (D, tupV ho t v) :: tl, rfl, by rw [List.length_append, h1]; rfl, by rw [List.map_append]; rfl, fun j b v' e e' => ?_⟩
  by_cases hj : j < i
  · rw [List.getElem?_append_left (by omega)] at e
    exact List.mem_cons_of_mem _ (h j b v' e e')
  · have hj' : j = i := by
      have := (List.getElem?_eq_some_iff.mp e).1
      rw [List.length_append, h1, List.length_singleton] at this
      omega
    subst hj'
    rw [List.getElem?_append_right (by omega), h1, Nat.sub_self] at e
    have e1 : D = b := Option.some.inj e
    have e2 : v = v' := by rw [hv] at e'; exact Option.some.inj e'
    rw [e1, e2]; exact List.mem_cons_self ..
theorem PL.six {as : List Addr} (h : as.length = 6) : ∃ a0 a1 a2 a3 a4 a5, as = [a0, a1, a2, a3, a4, a5] := by
  match as, h with
  | [a0, a1, a2, a3, a4, a5], _ => exact ⟨a0, a1, a2, a3, a4, a5, rfl⟩
theorem pair_end {h₀ : Heap} {L I C D T : Addr} {m : Str → Option Value} {s₁ : Shared} {oI oC oD oT : Obj} {S : List (Addr × Obj) → Prop} {rest : Value → List (Addr × Obj) → Prop} {y : Value} {h' : Heap} {tk : Nat} {tl nw : List (Addr × Obj)}
    (F : Fr h₀ L h' m) (N : News h₀ L h' ((T, oT) :: (I, oI) :: (C, oC) :: (D, oD) :: (nw ++ tl))) (lt : ∀ p ∈ (I, oI) :: (C, oC) :: (D, oD) :: (nw ++ tl), p.1 < T) (off : ∀ p ∈ nw ++ tl, p.1 ≠ I ∧ p.1 ≠ C ∧ p.1 ≠ D)
    (hS : S (nw ++ ((T, oT) :: tl))) (r : rest y (nw ++ ((T, oT) :: tl))) : LCg.CompEnd h₀ L m s₁ I oI C oC D oD S rest y { s₁ with heap := h', toks := tk } := by
  refine LCg.CompEnd.intro F N (nw ++ ((T, oT) :: tl)) (fun p hp => ?_) (LCg.Off3.of fun p hp => ?_) hS r
  · simp only [List.mem_cons, List.mem_append] at hp ⊢
    rcases hp with e | e | e | e | e | e
    · exact .inr (.inl e)
    · exact .inr (.inr (.inl e))
    · exact .inr (.inr (.inr (.inl e)))
    · exact .inr (.inr (.inr (.inr (.inl e))))
    · exact .inl e
    · exact .inr (.inr (.inr (.inr (.inr e))))
  · have q : p = (T, oT) ∨ p ∈ nw ++ tl := by
      simp only [List.mem_cons, List.mem_append] at hp ⊢
      rcases hp with e | e | e
      · exact .inr (.inl e)
      · exact .inl e
      · exact .inr (.inr e)
    rcases q with e | e
    · rw [e]
      exact ⟨fun (x : T = I) => absurd (lt (I, oI) (List.mem_cons_self ..)) (by rw [x]; exact Nat.lt_irrefl _), fun (x : T = C) => absurd (lt (C, oC) (List.mem_cons_of_mem _ (List.mem_cons_self ..))) (by rw [x]; exact Nat.lt_irrefl _), fun (x : T = D) => absurd (lt (D, oD) (List.mem_cons_of_mem _ (List.mem_cons_of_mem _ (List.mem_cons_self ..)))) (by rw [x]; exact Nat.lt_irrefl _)⟩
    · exact off p e
theorem six_end {s s' : Shared} {ho ki gr ot : Str} {t u0 u1 u2 u3 u4 u5 : Tok} {L D a0 a1 a2 a3 a4 a5 : Addr} {nw tl : List (Addr × Obj)} {h : Heap} {tk : Nat} {m : Str → Option Value}
    (hm : ∀ (j : Nat) (b : Addr) (v : Value), [a0, a1, a2, a3, a4, a5][j]? = some b → #[Value.str (Str.ofString "") u0, Value.str (Str.ofString "/") u1, Value.str (Str.ofString "/" ++ ki) u2, Value.str (Str.ofString "/" ++ ki ++ Str.ofString "/" ++ gr) u3, Value.str (Str.ofString "/" ++ ki ++ Str.ofString "/" ++ gr ++ Str.ofString "/") u4, Value.str (Str.ofString "/" ++ ki ++ Str.ofString "/" ++ gr ++ Str.ofString "/" ++ ot) u5][j]? = some v → (b, tupV ho t v) ∈ tl)
    (F : Fr s.heap L h m) (N : News s.heap L h ((D, LCg.lst (List.map Value.ref [a0, a1, a2, a3, a4, a5])) :: (nw ++ tl))) (e : s' = { s with heap := h, toks := tk }) : EndS s (AddrAre ho ki gr ot) (.ref D) s' := by
  refine EndS.introS e F N ⟨D, a0, a1, a2, a3, a4, a5, t, u0, u1, u2, u3, u4, u5, rfl, rfl⟩ ?_
  have up : ∀ p, p ∈ tl → p ∈ (D, LCg.lst (List.map Value.ref [a0, a1, a2, a3, a4, a5])) :: (nw ++ tl) := fun p hp => List.mem_cons_of_mem _ (List.mem_append_right _ hp)
  exact List.forall_mem_cons.mpr ⟨List.mem_cons_self .., List.forall_mem_cons.mpr ⟨up _ (hm 0 _ _ rfl rfl), List.forall_mem_cons.mpr ⟨up _ (hm 1 _ _ rfl rfl), List.forall_mem_cons.mpr ⟨up _ (hm 2 _ _ rfl rfl), List.forall_mem_cons.mpr ⟨up _ (hm 3 _ _ rfl rfl), List.forall_mem_cons.mpr ⟨up _ (hm 4 _ _ rfl rfl), List.forall_mem_cons.mpr ⟨up _ (hm 5 _ _ rfl rfl), List.forall_mem_nil _⟩⟩⟩⟩⟩⟩⟩
theorem compRest_its {prog : Program} {w : World} {A : Around} {s : Shared} {h₀ : Heap} {env : Env} {L : Addr} {m : Str → Option Value} {elt : Expr} {x : Str} {scope : Scope} {cl : List (Str × Addr)} {S : List (Addr × Obj) → Prop} {its : Array Value} {Fin : List Value → List (Addr × Obj) → Prop} {n : Nat}
    (J : Array Value → Nat → List Value → List (Addr × Obj) → Prop)
    (step : ∀ i ys news v I oI C oC D m₂ h tk (E' : Value → Shared → Prop), i < n → J its i ys news → its[i]? = some v → LCg.NsObj oC m₂ → m₂ x = some v → Fr h₀ L h m → News h₀ L h ((I, oI) :: (C, oC) :: (D, LCg.lst ys) :: news) → (∀ p ∈ news, p.1 ≠ I ∧ p.1 ≠ C ∧ p.1 ≠ D) →
      wpAny (model prog w) A (eval elt (compEnvC scope cl C env)) (LCg.CompEnd h₀ L m { s with heap := h, toks := tk } I oI C oC D (LCg.lst ys) S (fun y news' => J its (i + 1) (ys ++ [y]) news')) E' { s with heap := h, toks := tk })
    (fin : ∀ ys news, J its n ys news → Fin ys news) (k i : Nat) (ys : List Value) (news : List (Addr × Obj)) (e : i + k = n) (hJ : J its i ys news) : LCg.CompRest prog w A h₀ L m env elt x scope cl s S (fun i v => its[i]? = some v) Fin k i ys news :=
  compRest_inv (J its) step fin k i ys news e hJ
local macro_rules | `(tactic| k_all) => `(tactic| assumption)
theorem addr_says (w : World) (mean : ExcName → Option Value) (mg mb : Str → Option Value) (ho ki gr ot : Str) (t1 t2 t3 t4 : Tok) (ha : ho.length < 20) (hb : ki.length < 20) (hc : gr.length < 20) (hd : ot.length < 20) :
    SaysL w mean mg mb 130 1 8 [.str ho t1, .str ki t2, .str gr t3, .str ot t4] (fun _ => True) (AddrAre ho ki (dash gr) (dash ot)) := by
  w_top off
  unfold SaysL; k_fill
  intro dp un gd cn cs a ccd cl outer A₀ base h₀ L m s Q E B F X T hk hpre hd hu ret
  (k_dflt (refine' says_enterC B F X T hk ?k6 ?k7 ?k8 ?k9 ?kB ?kD ?_ ret ?c2 ?c3 ?c4; (case k6 => k_is); (case k7 => k_is); (case k8 => omega); (case k9 => exact BindsTo.of_eq rfl); (case kB => exact rfl); (case kD => decide +kernel); (case c2 => exact rfl); (case c3 => exact rfl); (case c4 => exact rfl); k_whole; intro h' L' tk' cells' eL F' N' Y' B' X' T'; k_cells Y'; (try simp only [List.cons_append, List.nil_append] at N'); (try dsimp only); (try k_lift B'); (try k_fold)))
  repeat ((fail_if_success (with_reducible show wpAny _ _ (eval (Expr.ListComp _ _ _ _) _) _ _ _)); (first | (k_unfold; (try dsimp only)) | walk1 | (dsimp only; walk1)))
  rename (_ = dash gr) => e1
  rename (_ = dash ot) => e2
  subst e1 e2
  k_dflt (refine LCg.ListComp_U (F₀ := by k_asm) (by with_unfolding_all rfl) (by decide) (by rfl) (by decide) (by rfl) ?_)
  repeat ((fail_if_success (with_reducible show LCg.CompSrc _ _ _ _ _ _ _ _ _ _ _ _ _ _)); (first | (k_unfold; (try dsimp only)) | walk1 | (dsimp only; walk1)))
  refine LCg.CompSrc.ledger (by rfl) (by k_asm) (by k_asm) (List.mem_cons_self ..) (by exact Nat.le_of_ble_eq_true rfl) ?_
  intro g'
  refine compRest_its (n := 6) (fun its => PL ho t1 its _) ?_ ?_ _ 0 [] _ rfl PL.nil
  · intro i ys news v I oI C oC D m₂ h tk E' hi hJ hP hC hx F N off
    obtain ⟨as, tl, rfl, hl, rfl, hm⟩ := hJ
    have N2 := N
    simp only [List.cons_append, List.nil_append] at N2
    clear N
    repeat ((fail_if_success (with_reducible show wpAny _ _ (newTuple _) _ _ _)); (first | (k_unfold; (try dsimp only)) | walk1 | (dsimp only; walk1)))
    rename News _ _ _ _ => N3
    k_dflt (refine' kup_newTuple ?F N3 ?_ ?z; (case F => k_asm); (case z => kmk_size))
    intro T9 h9 F9 N9 l9
    exact pair_end F9 N9 l9 off (Or.inr ⟨_, List.mem_append_left _ (List.mem_cons_self ..), rfl, _, rfl⟩) (PL.snoc hl hm hP)
  · intro ys news hJ
    obtain ⟨as, tl, rfl, hl, rfl, hm⟩ := hJ
    obtain ⟨a0, a1, a2, a3, a4, a5, rfl⟩ := PL.six hl
    unfold LCg.FinE
    intro D h tk F N off
    (try dsimp only); (try (k_unfold; try dsimp only))
    exact six_end hm F N rfl
end Mine

/-! part C4 -/
namespace Mine

def userK (n : Int) : Int := ((n % 4096).fdiv 64).fmod 8 + ((n % 4096).fdiv 512).fdiv 4 * 8
def kindK (n : Int) : Int := if ([1, 2, 4, 6, 8, 10, 12].any fun x => x == n.fdiv 4096) = true then n.fdiv 4096 else 0
def groupK (n : Int) : Int := ((n % 4096).fdiv 8).fmod 8 + (((n % 4096).fdiv 512).fdiv 2).fmod 2 * 8
def othersK (n : Int) : Int := (n % 4096).fmod 8 + ((n % 4096).fdiv 512).fmod 2 * 8
abbrev list4 (a b c d : Int) (t u x y : Tok) : Obj := W.listOf #[.int a t, .int b u, .int c x, .int d y] 0
def KeysAre (n : Int) (v : Value) (tl : List (Addr × Obj)) : Prop :=
  ∃ (l : Addr) (k : Int) (t u x y : Tok), v = .ref l ∧ kindK n = k ∧ tl = [(l, list4 (userK n) k (groupK n) (othersK n) t u x y)]
local macro_rules | `(tactic| walk_at "call ref") => `(tactic| (k_here; (with_reducible show wpAny _ _ (call (Value.ref 78) [Value.int _ _]) _ _ _); k_dflt (refine' says_use0 (imode_says _ _ _ _ _ _ ?p0 ?p1) ?k1 ?k2 ?k3 ?k4 ?k5 ?kK ?kp ?kd ?ku ?_; (case p0 => assumption); (case p1 => assumption); (case k1 => k_asm); (case k2 => k_asm); (case k3 => k_asm); (case k4 => k_asm); (case k5 => k_asm); (case kK => exact Eq.refl _); (case kp => trivial); (case kd => ktr_room); (case ku => ktr_units)); intro v9 h9 tk9 F9 N9 r9; obtain ⟨t9, e9⟩ := r9; subst e9; (try dsimp only)))
theorem keys_says (w : World) (mean : ExcName → Option Value) (mg mb : Str → Option Value) (n : Int) (t : Tok) (h0 : 0 ≤ n) (h1 : n < 65536) :
    SaysL w mean mg mb 142 2 40 [.int n t] (fun _ => True) (KeysAre n) := by
  have qq : 0 ≤ n % 4096 ∧ n % 4096 < 4096 := by omega
  w_top off
  unfold SaysL; k_fill
  intro dp un gd cn cs a ccd cl outer A₀ base h₀ L m s Q E B F X T hk hpre hd hu ret
  (k_dflt (refine' says_enter B F X T hk ?k6 ?k7 ?k8 ?k9 ?kB ?_ ret ?c2 ?c3 ?c4 ?c5; (case k6 => k_is); (case k7 => k_is); (case k8 => omega); (case k9 => exact BindsTo.of_eq rfl); (case c5 => decide); (case kB => exact locs rfl); (case c2 => exact rfl); (case c3 => exact rfl); (case c4 => exact rfl); k_whole; intro h' L' eL F' N' B' X' T'; (try dsimp only); (try k_lift B'); (try k_fold)))
  k_steps
  · rename (_ = true) => ha
    (try dsimp only); (try (k_unfold; try dsimp only))
    refine EndS.introS rfl (by k_asm) (by k_asm) ⟨_, _, _, _, _, _, rfl, (by unfold kindK; rw [if_pos ha]), rfl⟩ (by lcg_sub)
  · rename (_ = false) => ha
    (try dsimp only); (try (k_unfold; try dsimp only))
    refine EndS.introS rfl (by k_asm) (by k_asm) ⟨_, _, _, _, _, _, rfl, (by unfold kindK; rw [ha, if_neg Bool.false_ne_true]), rfl⟩ (by lcg_sub)
end Mine

/-! part D1 -/
namespace Mine

open Sem (wp)
open AutoSeq1 (wpAny_loadPart')
section
variable {prog : Program} {w : World} {A : Around} {E : Value → Shared → Prop} {s : Shared}
theorem nextOf_tuple_item {it t : Addr} {i : Nat} {items} {x : Value} {Q : Value → Shared → Prop} (hit : s.heap.IsTupleIter it t i)
    (ht : s.heap.IsTuple t items) (hx : items[i]? = some x)
    (hQ : ∀ h', h'.IsTupleIter it t (i + 1) → Heap.SameBut it s.heap h' → Q x { s with heap := h' }) :
    wpAny (model prog w) A (Builtin.SmallTypes.nextOf (.ref it)) Q E s := by
  obtain ⟨o, ho, hc, hd⟩ := id hit
  obtain ⟨ol, hol, _, nl, hdl⟩ := ht
  unfold Builtin.SmallTypes.nextOf
  refine wpAny_bind (wpAny_callSpecial?_slot (name := Str.ofString "__next__") hit.typeIs F.slot_tuple_iterator_next
    (wpAny_call_entry F.slot_tuple_iterator_next hit.typeIs F.entry_tuple_iterator_next ?_ (F.args_tuple_iterator_next_1 _)))
  show wpAny _ _ (field (.ref it) 0 >>= _) _ _ s
  refine wpAny_bind (wpAny_field ho hd (x := .ref t) rfl ?_)
  show wpAny _ _ (if (Value.ref t == Value.none) = true then _ else _) _ _ s
  rw [if_neg (show ¬ ((Value.ref t == Value.none) = true) from Bool.false_ne_true)]
  show wpAny _ _ (field (.ref it) 1 >>= _) _ _ s
  refine wpAny_bind (wpAny_field ho hd (x := .int i 0) rfl ?_)
  show wpAny _ _ (seqItems? (.ref t) >>= _) _ _ s
  refine wpAny_bind (wpAny_seqItems hol hdl ?_)
  simp only [Int.toNat_natCast, hx]
  refine wpAny_bind (wpAny_setField ho hd (by simp) (wpAny_pure ⟨x, rfl, wpAny_pure (hQ _ ?_ (Heap.SameBut.update ..))⟩))
  exact ⟨_, Heap.get?_update_self _ ho (Obj.isFreed_of_fields (Obj.data_mapFields hd _)), (Obj.cls_mapFields ..).trans hc, by
    rw [Obj.data_mapFields hd]; simp [rawInt]⟩
theorem nextOf_tuple_end {it t : Addr} {i : Nat} {items} {Q : Value → Shared → Prop} (hh : A.handled = none)
    (hit : s.heap.IsTupleIter it t i) (ht : s.heap.IsTuple t items) (hx : items[i]? = none)
    (hE : ∀ h' e, Heap.ExtBut it s.heap h' → (∃ o, h'.get? e = some o ∧ o.cls = .type "StopIteration") → E (.ref e) { s with heap := h' }) :
    wpAny (model prog w) A (Builtin.SmallTypes.nextOf (.ref it)) Q E s := by
  obtain ⟨o, ho, hc, hd⟩ := id hit
  obtain ⟨ol, hol, _, nl, hdl⟩ := ht
  unfold Builtin.SmallTypes.nextOf
  refine wpAny_bind (wpAny_callSpecial?_slot (name := Str.ofString "__next__") hit.typeIs F.slot_tuple_iterator_next
    (wpAny_call_entry F.slot_tuple_iterator_next hit.typeIs F.entry_tuple_iterator_next ?_ (F.args_tuple_iterator_next_1 _)))
  show wpAny _ _ (field (.ref it) 0 >>= _) _ _ s
  refine wpAny_bind (wpAny_field ho hd (x := .ref t) rfl ?_)
  show wpAny _ _ (if (Value.ref t == Value.none) = true then _ else _) _ _ s
  rw [if_neg (show ¬ ((Value.ref t == Value.none) = true) from Bool.false_ne_true)]
  show wpAny _ _ (field (.ref it) 1 >>= _) _ _ s
  refine wpAny_bind (wpAny_field ho hd (x := .int i 0) rfl ?_)
  show wpAny _ _ (seqItems? (.ref t) >>= _) _ _ s
  refine wpAny_bind (wpAny_seqItems hol hdl ?_)
  simp only [Int.toNat_natCast, hx]
  refine wpAny_bind (wpAny_rule (wpAny_bind (wpAny_setField ho hd (by simp) ?_)))
  show wpAny _ _ (newExc (.type "StopIteration") [] >>= _) _ _ _
  refine wpAny_bind ?_
  simp only [newExc, newTuple]
  refine wpAny_bind (wpAny_newObj_type ?_ (by size_fits))
  refine wpAny_bind (m := firstArgMember _ _) (wpAny_of_eq (a := Value.none) (by first | rfl | (simp only [firstArgMember]; rfl)) ?_)
  refine wpAny_newObj_type ?_ (by size_fits)
  simp only [raiseNew]
  refine wpAny_bind (wpAny_handled ?_)
  first | rw [show A.in1.handled = none from hh] | rw [hh]
  refine wpAny_bind (wpAny_pure (wpAny_throw ?_))
  exact hE _ _ (((Heap.SameBut.update ..).extBut.push _).push _) ⟨_, Heap.get?_push_size _ rfl, rfl⟩
end
theorem drawsTuple {prog : Program} {w : World} {A : Around} (hh : A.handled = none) (it l : Addr) (hne : l ≠ it) (items : Array Value) :
    Draws prog w A it [it, l] items.size (fun i v => items[i]? = some v) (fun i h => h.IsTupleIter it l i ∧ h.IsTuple l items) where
  live := fun _ _ st => let ⟨o, ho, _⟩ := st.1; ⟨o, ho⟩
  frame := fun _ _ _ st hk => ⟨st.1.at fun o e => hk it (by simp) o e, st.2.at fun o e => hk l (by simp) o e⟩
  item := fun i s Q E hi st hQ => by
    refine nextOf_tuple_item st.1 st.2 (x := items[i]) (by simp [hi]) fun h' hit' hs' => ?_
    exact hQ _ h' s.toks (by simp [hi]) ⟨hit', st.2.extBut hs'.extBut hne⟩ hs'
  done := fun s Q E st hE => nextOf_tuple_end hh st.1 st.2 (by simp) hE
theorem meets_enum_tuple (l : Addr) (items : Array Value) (n : Nat) (dct : Option Addr) (sl : Array (Option Value)) :
    Meets (Builtin.«enumerate.__new__» ⟨[.type "enumerate", .ref l], []⟩) (fun _ R s => s.heap.get? l = some { cls := .type "tuple", dict := dct, data := .seq items n, slots := sl } ∧
      R (.ok (.ret (.ref (s.heap.push { cls := .type "tuple_iterator", data := .fields #[.ref l, .int 0 0] }).objs.size)))
        { s with heap := (s.heap.push { cls := .type "tuple_iterator", data := .fields #[.ref l, .int 0 0] }).push { cls := .type "enumerate", data := .fields #[.none, .bool false, .ref s.heap.objs.size, rawInt 0, .none, .none] } }) :=
  .of_wp fun prog w A R s h => by
    obtain ⟨hp, g, d, tk, os⟩ := s; obtain ⟨hl, h⟩ := h
    have hsub := sub_enumerate
    have hL : Heap.IsTuple (Shared.heap ⟨hp, g, d, tk, os⟩) l items := ⟨_, hl, rfl, n, rfl⟩
    wp_walk using wpAny_loadPart' hl
    refine wpAny_stack_any fun st => wpAny_pure ?_
    split
    · rename_i c _ _ _ _ _
      cases (c == Value.type "enumerate")
      · wp_walk using wpAny_loadPart' hl, wpAny_pyIter_tuple hL
        exact ⟨_, rfl, h⟩
      · wp_walk using wpAny_loadPart' hl, wpAny_pyIter_tuple hL
        exact ⟨_, rfl, h⟩
    · wp_walk using wpAny_loadPart' hl, wpAny_pyIter_tuple hL
      exact ⟨_, rfl, h⟩
section
variable {prog : Program} {w : World} {A : Around} {E : Value → Shared → Prop} {s : Shared}
theorem call_enum_tuple {l : Addr} {items : Array Value} {Q : Value → Shared → Prop} (hL : s.heap.IsTuple l items)
    (h : ∀ h', IsEnum h' (s.heap.objs.size + 1) s.heap.objs.size 0 .none → h'.IsTupleIter s.heap.objs.size l 0 → h'.objs.size = s.heap.objs.size + 2 →
      (∀ b o, s.heap.get? b = some o → h'.get? b = some o) → Q (.ref (s.heap.objs.size + 1)) { s with heap := h' }) :
    wpAny (model prog w) A (call (.type "enumerate") [.ref l]) Q E s := by
  obtain ⟨⟨c, dct, dt, sl⟩, hl, hc, n, hd⟩ := hL
  replace hc : c = .type "tuple" := hc
  replace hd : dt = .seq items n := hd
  subst hc hd
  refine callType_new F.called_enumerate (by decide) (F.typeCall_enumerate_1 _) (F.newCall_enumerate_1 _) (fun obj => F.args_object_init_2 obj _) F.entry_enumerate_new
    (meets_enum_tuple l items n dct sl) ⟨hl, ?_⟩
  have hz : (s.heap.push { cls := .type "tuple_iterator", data := .fields #[.ref l, .int 0 0] }).objs.size = s.heap.objs.size + 1 := Heap.size_push ..
  show _ ∧ _
  rw [hz]
  have he : IsEnum ((s.heap.push { cls := .type "tuple_iterator", data := .fields #[.ref l, .int 0 0] }).push
      { cls := .type "enumerate", data := .fields #[.none, .bool false, .ref s.heap.objs.size, rawInt 0, .none, .none] }) (s.heap.objs.size + 1) s.heap.objs.size 0 .none := by
    have := Heap.get?_push_size (s.heap.push { cls := .type "tuple_iterator", data := .fields #[.ref l, .int 0 0] })
      (o := { cls := .type "enumerate", data := .fields #[.none, .bool false, .ref s.heap.objs.size, rawInt 0, .none, .none] }) rfl
    rw [hz] at this; exact this
  refine ⟨⟨_, he, rfl⟩, h _ he ⟨_, Heap.get?_push_of_some _ (Heap.get?_push_size _ rfl), rfl, rfl⟩ (by rw [Heap.size_push, hz]) fun b o x => Heap.get?_push_of_some _ (Heap.get?_push_of_some _ x)⟩
end
end Mine

/-! part D2 -/
namespace Mine

/-- a turn's end: on, out, or back -/
def TEnd (h₀ : Heap) (L : Addr) (s : Shared) (own : List (Addr × Obj)) (wr : List Addr) (J : (Str → Option Value) → List (Addr × Obj) → Prop) (R : Flow → Shared → Prop) (f : Flow) (s₃ : Shared) : Prop :=
  match f with
  | .ret v => R (.ret v) s₃
  | .brk => R .next s₃
  | _ => ∃ h' tk m' news', s₃ = { s with heap := h', toks := tk } ∧ Fr h₀ L h' m' ∧ News h₀ L h' (news' ++ own) ∧ (∀ p ∈ news', p.1 ∉ wr) ∧ J m' news'
section
variable {prog : Program} {w : World} {A : Around} {s : Shared} {env : Env} {h₀ : Heap} {target : Expr} {body orelse : List Stmt}
theorem turnsElse {R : Flow → Shared → Prop} {R' : Result → Shared → Prop} (hRR : ∀ f s, R f s → R' (.ok f) s) {I : Addr} {fp wr : List Addr} {n : Nat} {P Md : Nat → Value → Heap → Prop} {St : Nat → Heap → Prop} {m : Str → Option Value} {news : List (Addr × Obj)} (W : KTurns prog w A target I fp wr n P Md St)
    (hLf : env.locals ∉ fp) (hwr : ∀ b ∈ wr, h₀.get? b = none) (hfp : ∀ b ∈ fp, b ∈ wr ∨ ∃ o, h₀.get? b = some o) (hnw : ∀ p ∈ news, p.1 ∉ wr) (hst : St 0 s.heap) (F : Fr h₀ env.locals s.heap m) (N : News h₀ env.locals s.heap news)
    (J : Nat → (Str → Option Value) → List (Addr × Obj) → Prop) (h0 : J 0 m news)
    (step : ∀ i v m₁ news₁ h₁ tk₁ own, i < n → P i v h₁ → J i m₁ news₁ → (∀ p ∈ news₁, p.1 ∉ wr) → (∀ p ∈ own, p.1 ∈ wr) → Fr h₀ env.locals h₁ m₁ → News h₀ env.locals h₁ (news₁ ++ own) →
      wpAny (model prog w) A (assign target env v) (fun _ s₂ => wpAny (model prog w) A (execs body env)
        (TEnd h₀ env.locals s own wr (J (i + 1)) R) (fun _ _ => False) s₂) (fun _ _ => False) { s with heap := h₁, toks := tk₁ })
    (els : ∀ h' tk m' news', Fr h₀ env.locals h' m' → News h₀ env.locals h' news' → (∀ p ∈ news', p.1 ∉ wr) → J n m' news' →
      wpAny (model prog w) A (execs orelse env) R (fun _ _ => False) { s with heap := h', toks := tk }) :
    codeAny (model prog w) A (.forLoop target (.ref I) body orelse env) R' s := by
  have hLw : env.locals ∉ wr := fun h => hLf (W.sub _ h)
  have old : ∀ b o, h₀.get? b = some o → b ∉ wr := fun b o e hb => by rw [hwr b hb] at e; cases e
  refine codeAny_forLoop_any
    (fun k s' => ∃ h' tk m' news' i, s' = { s with heap := h', toks := tk } ∧ St i h' ∧ Fr h₀ env.locals h' m' ∧ News h₀ env.locals h' news' ∧ (∀ p ∈ news', p.1 ∉ wr) ∧ J i m' news' ∧ i ≤ n ∧ k = n + 1 - i) ?_ (n + 1)
    ⟨s.heap, s.toks, m, news, 0, rfl, hst, F, N, hnw, h0, Nat.zero_le _, rfl⟩
  rintro k s' ⟨h', tk, m', news', i, rfl, hst', F', N', hnw', hJ, hi, rfl⟩
  have next : ∀ h₁ : Heap, (∀ b o, b ∉ wr → h'.get? b = some o → h₁.get? b = some o) → Fr h₀ env.locals h₁ m' ∧ News h₀ env.locals h₁ news' := fun h₁ hk₁ =>
    ⟨⟨F'.ns.at' fun o e => hk₁ _ o hLw e, fun b o e => hk₁ b o (old b o e) (F'.keep b o e), F'.above⟩, fun p hp => ⟨hk₁ _ _ (hnw' p hp) (N' p hp).1, (N' p hp).2⟩⟩
  by_cases hlt : i < n
  · refine W.item i _ _ _ hlt hst' fun v h₁ tk₁ hMd hk₁ => ?_
    refine W.go i v _ _ _ hMd fun h₂ hP hst₂ hk₂ => ?_
    obtain ⟨F₂, N₂⟩ := next h₂ fun b o hb x => hk₂ b o hb (hk₁ b o hb x)
    have Nown : News h₀ env.locals h₂ (PyProof.Rows.ownOf h₀ fp h₂) := news_ownOf hLf
    have hown : ∀ p ∈ PyProof.Rows.ownOf h₀ fp h₂, p.1 ∈ wr := fun p hp => by
      rcases hfp p.1 (ownOf_sub p hp) with h | ⟨o, h⟩
      · exact h
      · have := (Nown p hp).2.2; rw [h] at this; cases this
    have NN : News h₀ env.locals h₂ (news' ++ PyProof.Rows.ownOf h₀ fp h₂) := fun p hp => by
      rcases List.mem_append.mp hp with hp | hp
      · exact N₂ p hp
      · exact Nown p hp
    refine wpAny_mono (step i v m' news' h₂ tk₁ (PyProof.Rows.ownOf h₀ fp h₂) hlt hP hJ hnw' hown F₂ NN) (fun _ s₂ h₂' => wpAny_mono h₂' (fun f s₃ h₃ => ?_) fun _ _ e => e.elim) fun _ _ e => e.elim
    have goOn : (∃ h' tk m' news', s₃ = { s with heap := h', toks := tk } ∧ Fr h₀ env.locals h' m' ∧ News h₀ env.locals h' (news' ++ PyProof.Rows.ownOf h₀ fp h₂) ∧ (∀ p ∈ news', p.1 ∉ wr) ∧ J (i + 1) m' news') →
        ∃ k, k < n + 1 - i ∧ ∃ h' tk m' news' i, s₃ = { s with heap := h', toks := tk } ∧ St i h' ∧ Fr h₀ env.locals h' m' ∧ News h₀ env.locals h' news' ∧ (∀ p ∈ news', p.1 ∉ wr) ∧ J i m' news' ∧ i ≤ n ∧ k = n + 1 - i := by
      rintro ⟨h₃', tk₃, m₂, news₂, rfl, F₃, N₃, ha₃, hJ₃⟩
      refine ⟨n + 1 - (i + 1), by omega, h₃', tk₃, m₂, news₂, i + 1, rfl, ?_, F₃, fun p hp => N₃ p (List.mem_append_left _ hp), ha₃, hJ₃, hlt, rfl⟩
      refine W.frame _ _ _ hst₂ fun b hb o e => ?_
      cases hn : h₀.get? b with
      | some o₀ =>
        have : o₀ = o := by have q := F₂.keep b o₀ hn; rw [e] at q; exact (Option.some.inj q).symm
        exact this ▸ F₃.keep b o₀ hn
      | none => exact (N₃ _ (List.mem_append_right _ (mem_ownOf hb hn e))).1
    cases f with
    | ret v => exact hRR _ _ h₃
    | brk => exact hRR _ _ h₃
    | cont => exact goOn h₃
    | next => exact goOn h₃
  · have hin : i = n := by omega
    subst hin
    refine W.done _ _ _ hst' fun h₁ tk₁ hk₁ => ?_
    obtain ⟨F₁, N₁⟩ := next h₁ hk₁
    exact wpAny_mono (els h₁ tk₁ m' news' F₁ N₁ hnw' hJ) (fun f s' h => hRR f s' h) fun _ _ e => e.elim
end
end Mine

/-! part D3 -/
namespace Mine

theorem nEq {a b : Nat} (h : a = b) : a = b := h
theorem nLt {a b : Nat} (h : a < b) : a < b := h
theorem nLe {a b : Nat} (h : a ≤ b) : a ≤ b := h
section
variable {prog : Program} {w : World} {A : Around} {E : Value → Shared → Prop} {s : Shared} {env : Env} {h₀ : Heap} {target : Expr} {body orelse : List Stmt} {Q : Flow → Shared → Prop}
theorem tupElse {tb : Addr} {items : Array Value} {m : Str → Option Value} {news : List (Addr × Obj)} (hh : A.handled = none) (F : Fr h₀ env.locals s.heap m) (N : News h₀ env.locals s.heap news) (hT : h₀.IsTuple tb items)
    (J : Nat → (Str → Option Value) → List (Addr × Obj) → Prop) (h0 : J 0 m news)
    (step : ∀ I, (∀ p ∈ news, p.1 ≠ I) → ∀ i v m₁ news₁ h₁ tk₁ own, items[i]? = some v → J i m₁ news₁ → (∀ p ∈ news₁, p.1 ≠ I) → (∀ p ∈ own, p.1 = I) → Fr h₀ env.locals h₁ m₁ → News h₀ env.locals h₁ (news₁ ++ own) →
      wpAny (model prog w) A (assign target env v) (fun _ s₂ => wpAny (model prog w) A (execs body env)
        (TEnd h₀ env.locals s own [I] (J (i + 1)) Q) (fun _ _ => False) s₂) (fun _ _ => False) { s with heap := h₁, toks := tk₁ })
    (els : ∀ h' tk m' news', Fr h₀ env.locals h' m' → News h₀ env.locals h' news' → J items.size m' news' →
      wpAny (model prog w) A (execs orelse env) Q (fun _ _ => False) { s with heap := h', toks := tk }) :
    wpAny (model prog w) A (pyIter (.ref tb)) (fun it s₂ => codeAny (model prog w) A (.forLoop target it body orelse env) (fun r s' => match r with | .ok f => Q f s' | .error e => cameBackBy (model prog w) A env E e s') s₂) E s := by
  have hTs : s.heap.IsTuple tb items := hT.at fun o e => F.keep tb o e
  obtain ⟨ot, hot, _⟩ := id hT
  have hlt : tb < h₀.objs.size := Heap.lt_size hot
  have hne : tb ≠ s.heap.objs.size := Nat.ne_of_lt (Nat.lt_trans (Nat.lt_of_lt_of_le hlt F.above) F.ns.lt)
  have hnI : ∀ p ∈ news, p.1 ≠ s.heap.objs.size := fun p hp => Nat.ne_of_lt (Heap.lt_size (N p hp).1)
  refine wpAny_pyIter_tuple hTs ?_
  refine turnsElse (R := Q) (fun f s h => h) (KTurns.ofWalks (Walks.tuple hh s.heap.objs.size tb hne items) fun i v s Q E st q => letGo_tupleiter st.1 q) ?_ ?_ ?_ ?_ ?_ (F.push _) (fun p hp => ⟨Heap.get?_push_of_some _ (N p hp).1, (N p hp).2⟩) J h0 ?_ ?_
  · intro hI
    rcases List.mem_cons.mp hI with e | hI
    · exact absurd F.ns.lt (e ▸ Nat.lt_irrefl _)
    · exact absurd (Nat.lt_of_lt_of_le hlt F.above) ((List.mem_singleton.mp hI) ▸ Nat.lt_irrefl _)
  · intro b hb
    rw [List.mem_singleton.mp hb]
    exact next_is_new F
  · intro b hb
    rcases List.mem_cons.mp hb with e | hb
    · exact .inl (List.mem_singleton.mpr e)
    · exact .inr ⟨ot, (List.mem_singleton.mp hb) ▸ hot⟩
  · intro p hp hI
    exact hnI p hp (List.mem_singleton.mp hI)
  · exact ⟨⟨_, Heap.get?_push_size _ rfl, rfl, rfl⟩, hTs.at fun o e => Heap.get?_push_of_some _ e⟩
  · intro i v m₁ news₁ h₁ tk₁ own _ hP hJ hn ho F₁ N₁
    exact step s.heap.objs.size hnI i v m₁ news₁ h₁ tk₁ own hP hJ (fun p hp e => hn p hp (List.mem_singleton.mpr e)) (fun p hp => List.mem_singleton.mp (ho p hp)) F₁ N₁
  · intro h' tk m' news' F' N' _ hJ
    exact els h' tk m' news' F' N' hJ
theorem enumElse {tb : Addr} {items : Array Value} {m : Str → Option Value} {news : List (Addr × Obj)} {elts : List Expr} {kk : Nat} {pos : Pos} (hh : A.handled = none) (F : Fr h₀ env.locals s.heap m) (N : News h₀ env.locals s.heap news) (hT : h₀.IsTuple tb items)
    (J : Nat → (Str → Option Value) → List (Addr × Obj) → Prop) (h0 : J 0 m news)
    (step : ∀ I I', (∀ p ∈ news, p.1 ≠ I ∧ p.1 ≠ I') → ∀ i T t x m₁ news₁ h₁ tk₁ own, items[i]? = some x → h₁.IsTuple T #[.int i t, x] → J i m₁ news₁ → (∀ p ∈ news₁, p.1 ≠ I ∧ p.1 ≠ I') → (∀ p ∈ own, p.1 = I ∨ p.1 = I') → Fr h₀ env.locals h₁ m₁ → News h₀ env.locals h₁ (news₁ ++ own) →
      wpAny (model prog w) A (assign (.Tuple elts kk pos) env (.ref T)) (fun _ s₂ => wpAny (model prog w) A (execs body env)
        (TEnd h₀ env.locals s own [I, I'] (J (i + 1)) Q) (fun _ _ => False) s₂) (fun _ _ => False) { s with heap := h₁, toks := tk₁ })
    (els : ∀ h' tk m' news', Fr h₀ env.locals h' m' → News h₀ env.locals h' news' → J items.size m' news' →
      wpAny (model prog w) A (execs orelse env) Q (fun _ _ => False) { s with heap := h', toks := tk }) :
    wpAny (model prog w) A (call (.type "enumerate") [.ref tb]) (fun xv s₁ => wpAny (model prog w) A (pyIter xv) (fun it s₂ => codeAny (model prog w) A (.forLoop (.Tuple elts kk pos) it body orelse env) (fun r s' => match r with | .ok f => Q f s' | .error e => cameBackBy (model prog w) A env E e s') s₂) E s₁) E s := by
  have hTs : s.heap.IsTuple tb items := hT.at fun o e => F.keep tb o e
  obtain ⟨ot, hot, _⟩ := id hT
  have hlt : tb < h₀.objs.size := Heap.lt_size hot
  have hltS : tb < s.heap.objs.size := Nat.lt_trans (Nat.lt_of_lt_of_le hlt F.above) F.ns.lt
  have hne : tb ≠ s.heap.objs.size := Nat.ne_of_lt hltS
  have hnI : ∀ p ∈ news, p.1 < s.heap.objs.size := fun p hp => Heap.lt_size (N p hp).1
  have hLs : env.locals < s.heap.objs.size := F.ns.lt
  refine call_enum_tuple hTs fun h' hE hI hsz hk => ?_
  refine wpAny_pyIter_enum hE ?_
  have D := WalksT.enumerateD (drawsTuple (prog := prog) (w := w) (A := A.in1) hh s.heap.objs.size tb hne items) (s.heap.objs.size + 1) (Nat.succ_ne_self _)
    (by intro hb; rcases List.mem_cons.mp hb with e | hb
        · exact absurd e (Nat.succ_ne_self _)
        · have e := nEq (List.mem_singleton.mp hb)
          have := nLt hltS
          omega) (List.mem_cons_self ..)
  refine turnsElse (R := Q) (fun f s h => h) (KTurns.ofWalksU D.toU) ?_ ?_ ?_ ?_ ?_ (F.keeps hk) (fun p hp => ⟨hk _ _ (N p hp).1, (N p hp).2⟩) J h0 ?_ ?_
  · intro hb
    rcases List.mem_cons.mp hb with e | hb
    · have e' := nEq e
      have := nLt hLs
      omega
    · rcases List.mem_cons.mp hb with e | hb
      · have e' := nEq e
        have := nLt hLs
        omega
      · have e' := nEq (List.mem_singleton.mp hb)
        have h1 := nLe F.above
        have h2 := nLt hlt
        omega
  · intro b hb
    have hb' : b = s.heap.objs.size + 1 ∨ b = s.heap.objs.size := by simpa using hb
    refine ktu_new F ?_
    rcases hb' with e | e <;> rw [e] <;> omega
  · intro b hb
    have hb' : b = s.heap.objs.size + 1 ∨ b = s.heap.objs.size ∨ b = tb := by simpa using hb
    rcases hb' with e | e | e
    · exact .inl (by simp [e])
    · exact .inl (by simp [e])
    · exact .inr ⟨ot, e ▸ hot⟩
  · intro p hp hI
    have hb' : p.1 = s.heap.objs.size + 1 ∨ p.1 = s.heap.objs.size := by simpa using hI
    have h1 := nLt (hnI p hp)
    rcases hb' with e | e
    · have e' := nEq e
      omega
    · have e' := nEq e
      omega
  · exact ⟨⟨_, hE⟩, hI, hTs.at fun o e => hk _ o e⟩
  · intro i v m₁ news₁ h₁ tk₁ own _ hP hJ hn ho F₁ N₁
    obtain ⟨T, vals, rfl, ⟨t, x, hx, rfl⟩, hTT⟩ := hP
    refine step (s.heap.objs.size + 1) s.heap.objs.size (fun p hp => ?_) i T t x m₁ news₁ h₁ tk₁ own hx hTT hJ (fun p hp => ?_) (fun p hp => ?_) F₁ N₁
    · have h1 := nLt (hnI p hp)
      exact ⟨fun e => absurd (nEq e) (by omega), fun e => absurd (nEq e) (by omega)⟩
    · have q := hn p hp
      exact ⟨fun e => q (by rw [e]; exact List.mem_cons_self ..), fun e => q (by rw [e]; exact List.mem_cons_of_mem _ (List.mem_cons_self ..))⟩
    · simpa using ho p hp
  · intro h' tk m' news' F' N' _ hJ
    exact els h' tk m' news' F' N' hJ
end
end Mine

/-! part C5 -/
namespace Mine

/-- the first char whose row passes -/
def pick (test : Int → Bool) (d : Str) : List (Int × Str) → Str
  | [] => d
  | (b, c) :: r => if test b then c else pick test d r
def rowsAt : Nat → List (Int × Str)
  | 0 => [(40960, Str.ofString "l"), (49152, Str.ofString "s"), (32768, Str.ofString "-"), (24576, Str.ofString "b"), (16384, Str.ofString "d"), (8192, Str.ofString "c"), (4096, Str.ofString "p")]
  | 1 => [(256, Str.ofString "r")]
  | 2 => [(128, Str.ofString "w")]
  | 3 => [(2112, Str.ofString "s"), (2048, Str.ofString "S"), (64, Str.ofString "x")]
  | 4 => [(32, Str.ofString "r")]
  | 5 => [(16, Str.ofString "w")]
  | 6 => [(1032, Str.ofString "s"), (1024, Str.ofString "S"), (8, Str.ofString "x")]
  | 7 => [(4, Str.ofString "r")]
  | 8 => [(2, Str.ofString "w")]
  | 9 => [(513, Str.ofString "t"), (512, Str.ofString "T"), (1, Str.ofString "x")]
  | _ => []
def testAt (n : Int) (i : Nat) (b : Int) : Bool := if i = 0 then n / 4096 * 4096 == b else Builtin.bitAnd n b == b
def noneAt (i : Nat) : Str := if i = 0 then Str.ofString "?" else Str.ofString "-"
/-- the i-th sign of filemode -/
def chAt (n : Int) (i : Nat) : Str := pick (testAt n i) (noneAt i) (rowsAt i)
def StrsB : List Value → List Str → Prop
  | [], [] => True
  | v :: vs, x :: xs => (∃ t, v = .str x t) ∧ StrsB vs xs
  | _, _ => False
/-- what the tables hold -/
structure TabIs (h : Heap) (x : Value) (rows : List (Int × Str)) : Prop where
  ex : ∃ (tb : Addr) (its : Array Value), x = .ref tb ∧ h.IsTuple tb its ∧ its.size = rows.length ∧ ∀ (j : Nat) (v : Value), its[j]? = some v → ∃ (r : Addr) (b : Int) (c : Str) (t u : Tok), v = .ref r ∧ h.IsTuple r #[.int b t, .str c u] ∧ rows[j]? = some (b, c)
theorem tab1 {h : Heap} {tb r : Addr} {b : Int} {c : Str} {t u : Tok} (h1 : h.get? tb = some { cls := .type "tuple", data := .seq #[.ref r] }) (h2 : h.get? r = some { cls := .type "tuple", data := .seq #[.int b t, .str c u] }) : TabIs h (.ref tb) [(b, c)] :=
  ⟨tb, _, rfl, ⟨_, h1, rfl, _, rfl⟩, rfl, fun j v e => by
    match j, e with
    | 0, e => exact ⟨r, b, c, t, u, (Option.some.inj e).symm, ⟨_, h2, rfl, _, rfl⟩, rfl⟩
    | j + 1, e => simp at e⟩
theorem tab3 {h : Heap} {tb r r' r'' : Addr} {b b' b'' : Int} {c c' c'' : Str} {t u t' u' t'' u'' : Tok} (h1 : h.get? tb = some { cls := .type "tuple", data := .seq #[.ref r, .ref r', .ref r''] })
    (h2 : h.get? r = some { cls := .type "tuple", data := .seq #[.int b t, .str c u] }) (h3 : h.get? r' = some { cls := .type "tuple", data := .seq #[.int b' t', .str c' u'] }) (h4 : h.get? r'' = some { cls := .type "tuple", data := .seq #[.int b'' t'', .str c'' u''] }) : TabIs h (.ref tb) [(b, c), (b', c'), (b'', c'')] :=
  ⟨tb, _, rfl, ⟨_, h1, rfl, _, rfl⟩, rfl, fun j v e => by
    match j, e with
    | 0, e => exact ⟨r, b, c, t, u, (Option.some.inj e).symm, ⟨_, h2, rfl, _, rfl⟩, rfl⟩
    | 1, e => exact ⟨r', b', c', t', u', (Option.some.inj e).symm, ⟨_, h3, rfl, _, rfl⟩, rfl⟩
    | 2, e => exact ⟨r'', b'', c'', t'', u'', (Option.some.inj e).symm, ⟨_, h4, rfl, _, rfl⟩, rfl⟩
    | j + 3, e => simp at e⟩
theorem tab7 {h : Heap} {tb r0 r1 r2 r3 r4 r5 r6 : Addr} {b0 b1 b2 b3 b4 b5 b6 : Int} {c0 c1 c2 c3 c4 c5 c6 : Str} {t0 t1 t2 t3 t4 t5 t6 u0 u1 u2 u3 u4 u5 u6 : Tok}
    (h1 : h.get? tb = some { cls := .type "tuple", data := .seq #[.ref r0, .ref r1, .ref r2, .ref r3, .ref r4, .ref r5, .ref r6] })
    (k0 : h.get? r0 = some { cls := .type "tuple", data := .seq #[.int b0 t0, .str c0 u0] }) (k1 : h.get? r1 = some { cls := .type "tuple", data := .seq #[.int b1 t1, .str c1 u1] })
    (k2 : h.get? r2 = some { cls := .type "tuple", data := .seq #[.int b2 t2, .str c2 u2] }) (k3 : h.get? r3 = some { cls := .type "tuple", data := .seq #[.int b3 t3, .str c3 u3] })
    (k4 : h.get? r4 = some { cls := .type "tuple", data := .seq #[.int b4 t4, .str c4 u4] }) (k5 : h.get? r5 = some { cls := .type "tuple", data := .seq #[.int b5 t5, .str c5 u5] })
    (k6 : h.get? r6 = some { cls := .type "tuple", data := .seq #[.int b6 t6, .str c6 u6] }) : TabIs h (.ref tb) [(b0, c0), (b1, c1), (b2, c2), (b3, c3), (b4, c4), (b5, c5), (b6, c6)] :=
  ⟨tb, _, rfl, ⟨_, h1, rfl, _, rfl⟩, rfl, fun j v e => by
    match j, e with
    | 0, e => exact ⟨r0, _, _, _, _, (Option.some.inj e).symm, ⟨_, k0, rfl, _, rfl⟩, rfl⟩
    | 1, e => exact ⟨r1, _, _, _, _, (Option.some.inj e).symm, ⟨_, k1, rfl, _, rfl⟩, rfl⟩
    | 2, e => exact ⟨r2, _, _, _, _, (Option.some.inj e).symm, ⟨_, k2, rfl, _, rfl⟩, rfl⟩
    | 3, e => exact ⟨r3, _, _, _, _, (Option.some.inj e).symm, ⟨_, k3, rfl, _, rfl⟩, rfl⟩
    | 4, e => exact ⟨r4, _, _, _, _, (Option.some.inj e).symm, ⟨_, k4, rfl, _, rfl⟩, rfl⟩
    | 5, e => exact ⟨r5, _, _, _, _, (Option.some.inj e).symm, ⟨_, k5, rfl, _, rfl⟩, rfl⟩
    | 6, e => exact ⟨r6, _, _, _, _, (Option.some.inj e).symm, ⟨_, k6, rfl, _, rfl⟩, rfl⟩
    | j + 7, e => simp at e⟩
theorem tabs_are {P : Params} {h : Heap} (X : (hd.heap_39 P).In h) : ∃ its : Array Value, h.IsTuple 118 its ∧ its.size = 10 ∧ ∀ (i : Nat) (x : Value), its[i]? = some x → TabIs h x (rowsAt i) := by
  refine ⟨_, ⟨_, X 118 _ rfl, rfl, _, rfl⟩, rfl, fun i x e => ?_⟩
  match i, e with
  | 0, e => exact Option.some.inj e ▸ tab7 (X 93 _ rfl) (X 86 _ rfl) (X 87 _ rfl) (X 88 _ rfl) (X 89 _ rfl) (X 90 _ rfl) (X 91 _ rfl) (X 92 _ rfl)
  | 1, e => exact Option.some.inj e ▸ tab1 (X 95 _ rfl) (X 94 _ rfl)
  | 2, e => exact Option.some.inj e ▸ tab1 (X 97 _ rfl) (X 96 _ rfl)
  | 3, e => exact Option.some.inj e ▸ tab3 (X 101 _ rfl) (X 98 _ rfl) (X 99 _ rfl) (X 100 _ rfl)
  | 4, e => exact Option.some.inj e ▸ tab1 (X 103 _ rfl) (X 102 _ rfl)
  | 5, e => exact Option.some.inj e ▸ tab1 (X 105 _ rfl) (X 104 _ rfl)
  | 6, e => exact Option.some.inj e ▸ tab3 (X 109 _ rfl) (X 106 _ rfl) (X 107 _ rfl) (X 108 _ rfl)
  | 7, e => exact Option.some.inj e ▸ tab1 (X 111 _ rfl) (X 110 _ rfl)
  | 8, e => exact Option.some.inj e ▸ tab1 (X 113 _ rfl) (X 112 _ rfl)
  | 9, e => exact Option.some.inj e ▸ tab3 (X 117 _ rfl) (X 114 _ rfl) (X 115 _ rfl) (X 116 _ rfl)
  | i + 10, e => simp at e
end Mine

/-! part C6 -/
namespace Mine

theorem fr_form {h₀ h : Heap} {L : Addr} {m₁ : Str → Option Value} {a b : Option Value} (F : Fr h₀ L h m₁) (ha : m₁ (Str.ofString "perm") = a) (hb : m₁ (Str.ofString "mode") = b) :
    Fr h₀ L h (fun y => if y = Str.ofString "perm" then a else if y = Str.ofString "mode" then b else m₁ y) := by
  have e : m₁ = fun y => if y = Str.ofString "perm" then a else if y = Str.ofString "mode" then b else m₁ y := by
    funext y
    by_cases h1 : y = Str.ofString "perm"
    · rw [if_pos h1, h1, ha]
    · rw [if_neg h1]
      by_cases h2 : y = Str.ofString "mode"
      · rw [if_pos h2, h2, hb]
      · rw [if_neg h2]
  rw [← e]; exact F
theorem fr_form3 {h₀ h : Heap} {L : Addr} {m₁ : Str → Option Value} {a b c : Option Value} (F : Fr h₀ L h m₁) (ha : m₁ (Str.ofString "perm") = a) (hb : m₁ (Str.ofString "mode") = b) (hc : m₁ (Str.ofString "index") = c) :
    Fr h₀ L h (fun y => if y = Str.ofString "perm" then a else if y = Str.ofString "mode" then b else if y = Str.ofString "index" then c else m₁ y) := by
  have e : m₁ = fun y => if y = Str.ofString "perm" then a else if y = Str.ofString "mode" then b else if y = Str.ofString "index" then c else m₁ y := by
    funext y
    by_cases h1 : y = Str.ofString "perm"
    · rw [if_pos h1, h1, ha]
    · rw [if_neg h1]
      by_cases h2 : y = Str.ofString "mode"
      · rw [if_pos h2, h2, hb]
      · rw [if_neg h2]
        by_cases h3 : y = Str.ofString "index"
        · rw [if_pos h3, h3, hc]
        · rw [if_neg h3]
  rw [← e]; exact F
def Ji (n : Int) (t t' : Tok) (l : Addr) (o : Obj) (own : List (Addr × Obj)) (i j : Nat) (m₁ : Str → Option Value) (news₁ : List (Addr × Obj)) : Prop :=
  m₁ (Str.ofString "perm") = some (.ref l) ∧ m₁ (Str.ofString "mode") = some (.int n t) ∧ m₁ (Str.ofString "index") = some (.int i t') ∧ news₁ = (l, o) :: own ∧ ∀ q ∈ (rowsAt i).take j, testAt n i q.1 = false
def Jf (n : Int) (t : Tok) (l : Addr) (i : Nat) (m₁ : Str → Option Value) (news₁ : List (Addr × Obj)) : Prop :=
  m₁ (Str.ofString "perm") = some (.ref l) ∧ m₁ (Str.ofString "mode") = some (.int n t) ∧ ∃ vs k, StrsB vs ((List.range i).map (chAt n)) ∧ news₁ = [(l, W.listOf vs.toArray k)]
local macro_rules | `(tactic| walk_at "exec For Tuple Call") => `(tactic| (with_unfolding_all refine' wpAny_For ?_ ?hsFor; (case hsFor => intro _; rfl)))
local macro_rules | `(tactic| walk_at "exec For Tuple Name") => `(tactic| (with_unfolding_all refine' wpAny_For ?_ ?hsFor; (case hsFor => intro _; rfl)))
local macro_rules | `(tactic| k_all) => `(tactic| assumption)
local macro_rules | `(tactic| walk_at "call ref") => `(tactic| (k_here; (with_reducible show wpAny _ _ (call (Value.ref 85) [Value.int _ _]) _ _ _); k_dflt (refine' says_use0 (ifmt_says _ _ _ _ _ _ ?p0 ?p1) ?k1 ?k2 ?k3 ?k4 ?k5 ?kK ?kp ?kd ?ku ?_; (case p0 => assumption); (case p1 => assumption); (case k1 => k_asm); (case k2 => k_asm); (case k3 => k_asm); (case k4 => k_asm); (case k5 => k_asm); (case kK => exact Eq.refl _); (case kp => trivial); (case kd => ktr_room); (case ku => ktr_units)); intro v9 h9 tk9 F9 N9 r9; obtain ⟨t9, e9⟩ := r9; subst e9; (try dsimp only)))
theorem StrsB.length : ∀ {vs : List Value} {xs : List Str}, StrsB vs xs → vs.length = xs.length
  | [], [], _ => rfl
  | _ :: _, _ :: _, h => congrArg (· + 1) h.2.length
  | [], _ :: _, h => h.elim
  | _ :: _, [], h => h.elim
theorem StrsB.snoc : ∀ {vs : List Value} {xs : List Str} {c : Str} {u : Tok}, StrsB vs xs → StrsB (vs ++ [.str c u]) (xs ++ [c])
  | [], [], _, _, _ => ⟨⟨_, rfl⟩, trivial⟩
  | _ :: _, _ :: _, _, _, h => ⟨h.1, h.2.snoc⟩
  | [], _ :: _, _, _, h => h.elim
  | _ :: _, [], _, _, h => h.elim
theorem pick_none {test : Int → Bool} {d : Str} : ∀ {rows : List (Int × Str)}, (∀ q ∈ rows, test q.1 = false) → pick test d rows = d
  | [], _ => rfl
  | (b, c) :: r, h => by
    have e : test b = false := h (b, c) (List.mem_cons_self ..)
    show (if test b = true then c else pick test d r) = d
    rw [e, if_neg Bool.false_ne_true]
    exact pick_none fun q hq => h q (List.mem_cons_of_mem _ hq)
theorem pick_hit {test : Int → Bool} {d : Str} : ∀ {rows : List (Int × Str)} {j : Nat} {b : Int} {c : Str}, (∀ q ∈ rows.take j, test q.1 = false) → rows[j]? = some (b, c) → test b = true → pick test d rows = c
  | [], _, _, _, _, e, _ => by simp at e
  | (b', c') :: r, 0, b, c, _, e, hb => by
    have e' : (b', c') = (b, c) := Option.some.inj e
    cases e'
    show (if test b' = true then c' else pick test d r) = c'
    rw [if_pos hb]
  | (b', c') :: r, j + 1, b, c, h, e, hb => by
    have h0 : test b' = false := h (b', c') (by simp)
    show (if test b' = true then c' else pick test d r) = c
    rw [h0, if_neg Bool.false_ne_true]
    exact pick_hit (j := j) (fun q hq => h q (by simp [hq])) (by simpa using e) hb
theorem take_more {P : Int × Str → Prop} {rows : List (Int × Str)} {j : Nat} {q : Int × Str} (h : ∀ p ∈ rows.take j, P p) (e : rows[j]? = some q) (hq : P q) : ∀ p ∈ rows.take (j + 1), P p := by
  rw [List.take_add_one, e]
  intro p hp
  rcases List.mem_append.mp hp with hp | hp
  · exact h p hp
  · have : p = q := by simpa using hp
    exact this ▸ hq
theorem Jf.next {n : Int} {t : Tok} {l : Addr} {i k : Nat} {m' : Str → Option Value} {vs : List Value} {c : Str} {u : Tok} (hp : m' (Str.ofString "perm") = some (.ref l)) (hm : m' (Str.ofString "mode") = some (.int n t))
    (h : StrsB vs ((List.range i).map (chAt n))) (hc : chAt n i = c) : Jf n t l (i + 1) m' [(l, W.listOf (vs.toArray.push (.str c u)) k)] := by
  refine ⟨hp, hm, vs ++ [.str c u], k, ?_, by simp⟩
  rw [List.range_succ, List.map_append, List.map_cons, List.map_nil, hc]
  exact h.snoc
theorem tend_out {h₀ h' : Heap} {L : Addr} {s : Shared} {m' : Str → Option Value} {own all : List (Addr × Obj)} {I I' : Addr} {n : Int} {t : Tok} {l : Addr} {i k tk : Nat} {vs : List Value} {c : Str} {u : Tok} {R : Flow → Shared → Prop}
    (F : Fr h₀ L h' m') (N : News h₀ L h' all) (hm : (l, W.listOf (vs.toArray.push (.str c u)) k) ∈ all) (hs : ∀ p ∈ own, p ∈ all) (hl : l ≠ I ∧ l ≠ I')
    (hp : m' (Str.ofString "perm") = some (.ref l)) (hq : m' (Str.ofString "mode") = some (.int n t)) (h : StrsB vs ((List.range i).map (chAt n))) (hc : chAt n i = c) :
    TEnd h₀ L s own [I, I'] (Jf n t l (i + 1)) R .next { s with heap := h', toks := tk } := by
  refine ⟨h', tk, m', [(l, W.listOf (vs.toArray.push (.str c u)) k)], rfl, F, fun p hp => ?_, fun p hp hI => ?_, Jf.next hp hq h hc⟩
  · rcases List.mem_cons.mp hp with rfl | hp
    · exact N _ hm
    · exact N _ (hs p hp)
  · have e : p = _ := List.mem_singleton.mp hp
    subst e
    rcases List.mem_cons.mp hI with e | hI
    · exact hl.1 e
    · exact hl.2 (List.mem_singleton.mp hI)
theorem tend_on {h₀ h' : Heap} {L : Addr} {s : Shared} {m' : Str → Option Value} {own own2 : List (Addr × Obj)} {I2 : Addr} {n : Int} {t t' : Tok} {l : Addr} {o : Obj} {i j tk : Nat} {R : Flow → Shared → Prop} {b : Int} {c : Str}
    (F : Fr h₀ L h' m') (N : News h₀ L h' ((l, o) :: (own ++ own2))) (hn : ∀ p ∈ (l, o) :: own, p.1 ≠ I2)
    (hp : m' (Str.ofString "perm") = some (.ref l)) (hq : m' (Str.ofString "mode") = some (.int n t)) (hr : m' (Str.ofString "index") = some (.int i t'))
    (hno : ∀ q ∈ (rowsAt i).take j, testAt n i q.1 = false) (hrw : (rowsAt i)[j]? = some (b, c)) (hb : testAt n i b = false) :
    TEnd h₀ L s own2 [I2] (Ji n t t' l o own i (j + 1)) R .next { s with heap := h', toks := tk } :=
  ⟨h', tk, m', (l, o) :: own, rfl, F, N, fun p hp hI => hn p hp (List.mem_singleton.mp hI), hp, hq, hr, rfl, take_more (P := fun q => testAt n i q.1 = false) hno hrw hb⟩
theorem StrsB.uncons {vs : List Value} {x : Str} {xs : List Str} (h : StrsB vs (x :: xs)) : ∃ t vs', vs = .str x t :: vs' ∧ StrsB vs' xs := by
  cases vs with
  | nil => exact h.elim
  | cons v r => obtain ⟨⟨t, rfl⟩, h⟩ := h; exact ⟨t, r, rfl, h⟩
theorem StrsB.unnil {vs : List Value} (h : StrsB vs []) : vs = [] := by
  cases vs with
  | nil => rfl
  | cons v r => exact h.elim
theorem strs10 {vs : List Value} {f : Nat → Str} (h : StrsB vs ((List.range 10).map f)) : ∃ t0 t1 t2 t3 t4 t5 t6 t7 t8 t9, vs = [.str (f 0) t0, .str (f 1) t1, .str (f 2) t2, .str (f 3) t3, .str (f 4) t4, .str (f 5) t5, .str (f 6) t6, .str (f 7) t7, .str (f 8) t8, .str (f 9) t9] := by
  have e : (List.range 10).map f = [f 0, f 1, f 2, f 3, f 4, f 5, f 6, f 7, f 8, f 9] := rfl
  rw [e] at h
  obtain ⟨t0, v0, rfl, h0⟩ := h.uncons
  obtain ⟨t1, v1, rfl, h1⟩ := h0.uncons
  obtain ⟨t2, v2, rfl, h2⟩ := h1.uncons
  obtain ⟨t3, v3, rfl, h3⟩ := h2.uncons
  obtain ⟨t4, v4, rfl, h4⟩ := h3.uncons
  obtain ⟨t5, v5, rfl, h5⟩ := h4.uncons
  obtain ⟨t6, v6, rfl, h6⟩ := h5.uncons
  obtain ⟨t7, v7, rfl, h7⟩ := h6.uncons
  obtain ⟨t8, v8, rfl, h8⟩ := h7.uncons
  obtain ⟨t9, v9, rfl, h9⟩ := h8.uncons
  rw [h9.unnil]
  exact ⟨_, _, _, _, _, _, _, _, _, _, rfl⟩
theorem pick_len {test : Int → Bool} {d : Str} (hd : d.length = 1) : ∀ {rows : List (Int × Str)}, (∀ q ∈ rows, q.2.length = 1) → (pick test d rows).length = 1
  | [], _ => hd
  | (b, c) :: r, h => by
    show (if test b = true then c else pick test d r).length = 1
    split
    · exact h (b, c) (List.mem_cons_self ..)
    · exact pick_len hd fun q hq => h q (List.mem_cons_of_mem _ hq)
theorem chAt_len {n : Int} {i : Nat} (hi : i < 10) : (chAt n i).length = 1 := by
  refine pick_len ?_ ?_
  · unfold noneAt; split <;> decide
  · have : ∀ i : Fin 10, ∀ q ∈ rowsAt i.val, q.2.length = 1 := by decide +kernel
    exact this ⟨i, hi⟩
/-- what filemode gives -/
def fileF (n : Int) : Str := Txt.join (Str.ofString "") [chAt n 0, chAt n 1, chAt n 2, chAt n 3, chAt n 4, chAt n 5, chAt n 6, chAt n 7, chAt n 8, chAt n 9]
theorem filemode_says (w : World) (mean : ExcName → Option Value) (mg mb : Str → Option Value) (n : Int) (t : Tok) (h0 : 0 ≤ n) (h1 : n < 65536) :
    SaysL w mean mg mb 125 2 40 [.int n t] (fun _ => True) (fun v _ => ∃ t, v = .str (fileF n) t) := by
  w_top off
  unfold SaysL; k_fill
  intro dp un gd cn cs a ccd cl outer A₀ base h₀ L m s Q E B F X T hk hpre hd hu ret
  (k_dflt (refine' says_enter B F X T hk ?k6 ?k7 ?k8 ?k9 ?kB ?_ ret ?c2 ?c3 ?c4 ?c5; (case k6 => k_is); (case k7 => k_is); (case k8 => omega); (case k9 => exact BindsTo.of_eq rfl); (case c5 => decide); (case kB => exact locs rfl); (case c2 => exact rfl); (case c3 => exact rfl); (case c4 => exact rfl); k_whole; intro h' L' eL F' N' B' X' T'; (try dsimp only); (try k_lift B'); (try k_fold)))
  obtain ⟨its, hIt, hSz, hRows⟩ := tabs_are X'
  k_steps
  refine enumElse (h₀ := s.heap) (by rfl) (by k_asm) (by k_asm) hIt (Jf n t _) ⟨by with_unfolding_all rfl, by with_unfolding_all rfl, [], 0, trivial, rfl⟩ ?_ ?_
  · intro I I' hNI i T t' x m₁ news₁ h₁ tk₁ own hx hT hJ hn ho F₁ N₁
    obtain ⟨hm1, hm2, vs, k, hvs, rfl⟩ := hJ
    obtain ⟨tb, its2, rfl, hIt2, hsz2, hrow⟩ := (hRows i x hx).ex
    have hi10 : i < 10 := by
      rw [← hSz]; exact (Array.getElem?_eq_some_iff.mp hx).1
    have hvl : vs.toArray.size < 100 := by
      have := hvs.length
      rw [List.length_map, List.length_range] at this
      rw [List.size_toArray]; omega
    have F₂ := fr_form F₁ hm1 hm2
    have N₂ : News s.heap L' h₁ ((_, W.listOf vs.toArray k) :: own) := N₁
    have hl := hn _ (List.mem_cons_self ..)
    have hoff : ∀ p ∈ own, p.1 ≠ _ := fun p hp e => (ho p hp).elim (fun q => hl.1 (e.symm.trans q)) (fun q => hl.2 (e.symm.trans q))
    clear F₁ N₁ ho hNI
    k_steps
    refine tupElse (h₀ := s.heap) (by rfl) (by k_asm) (by k_asm) hIt2 (Ji n t t' _ _ own i) ⟨by with_unfolding_all rfl, by with_unfolding_all rfl, by with_unfolding_all rfl, rfl, fun q hq => nomatch hq⟩ ?_ ?_
    · intro I2 hNI2 j v m₂ news₂ h₂ tk₂ own2 hv hJ2 hn2 ho2 F₃ N₃
      obtain ⟨hp1, hp2, hp3, rfl, hno⟩ := hJ2
      obtain ⟨r, b, c, tb', uc, rfl, hr, hrw⟩ := hrow j v hv
      have F₄ := fr_form3 F₃ hp1 hp2 hp3
      have hoff2 : ∀ p ∈ own ++ own2, p.1 ≠ _ := fun p hp e => (List.mem_append.mp hp).elim (fun q => hoff p q e) (fun q => hn2 _ (List.mem_cons_self ..) (e.symm.trans (ho2 p q)))
      have N₄ : News s.heap L' h₂ ((_, W.listOf vs.toArray k) :: (own ++ own2)) := N₃
      clear N₃ F₃ ho2 hNI2
      by_cases hi : i = 0
      · subst hi
        k_steps
        · dsimp only [TEnd]
          k_steps
          rename (_ = b) => ha
          exact tend_out (by k_asm) (by k_asm) (List.mem_cons_self ..) (fun p hp => List.mem_cons_of_mem _ (List.mem_append_left _ hp)) hl (by with_unfolding_all rfl) (by with_unfolding_all rfl) hvs (pick_hit hno hrw (by simp [testAt, ha]))
        · rename (_ ≠ b) => ha
          exact tend_on (by k_asm) (by k_asm) hn2 (by with_unfolding_all rfl) (by with_unfolding_all rfl) (by with_unfolding_all rfl) hno hrw (by simp [testAt, ha])
      · have hi' : 0 < (i : Int) := by omega
        k_steps
        all_goals (try (exfalso; omega))
        · dsimp only [TEnd]
          k_steps
          rename (_ = b) => ha
          exact tend_out (by k_asm) (by k_asm) (List.mem_cons_self ..) (fun p hp => List.mem_cons_of_mem _ (List.mem_append_left _ hp)) hl (by with_unfolding_all rfl) (by with_unfolding_all rfl) hvs (pick_hit hno hrw (by simp [testAt, ha, hi]))
        · rename (_ ≠ b) => ha
          exact tend_on (by k_asm) (by k_asm) hn2 (by with_unfolding_all rfl) (by with_unfolding_all rfl) (by with_unfolding_all rfl) hno hrw (by simp [testAt, ha, hi])
    · intro h₃ tk₃ m₃ news₃ F₃ N₃ hJ3
      obtain ⟨hp1, hp2, hp3, rfl, hno⟩ := hJ3
      have F₄ := fr_form3 F₃ hp1 hp2 hp3
      have hall : ∀ q ∈ rowsAt i, testAt n i q.1 = false := by
        rw [hsz2, List.take_length] at hno; exact hno
      by_cases hi : i = 0
      · subst hi
        k_steps
        exact tend_out (by k_asm) (by k_asm) (List.mem_cons_self ..) (fun p hp => List.mem_cons_of_mem _ hp) hl (by with_unfolding_all rfl) (by with_unfolding_all rfl) hvs (pick_none hall)
      · have hi' : 0 < (i : Int) := by omega
        k_steps
        all_goals (try (exfalso; omega))
        exact tend_out (by k_asm) (by k_asm) (List.mem_cons_self ..) (fun p hp => List.mem_cons_of_mem _ hp) hl (by with_unfolding_all rfl) (by with_unfolding_all rfl) hvs ((pick_none hall).trans (by simp [noneAt, hi]))
  · intro h₃ tk₃ m₃ news₃ F₃ N₃ hJ3
    obtain ⟨hp1, hp2, vs, k, hvs, rfl⟩ := hJ3
    rw [hSz] at hvs
    obtain ⟨t0, t1, t2, t3, t4, t5, t6, t7, t8, t9, rfl⟩ := strs10 hvs
    have F₄ := fr_form F₃ hp1 hp2
    have l0 := chAt_len (n := n) (i := 0) (by decide)
    have l1 := chAt_len (n := n) (i := 1) (by decide)
    have l2 := chAt_len (n := n) (i := 2) (by decide)
    have l3 := chAt_len (n := n) (i := 3) (by decide)
    have l4 := chAt_len (n := n) (i := 4) (by decide)
    have l5 := chAt_len (n := n) (i := 5) (by decide)
    have l6 := chAt_len (n := n) (i := 6) (by decide)
    have l7 := chAt_len (n := n) (i := 7) (by decide)
    have l8 := chAt_len (n := n) (i := 8) (by decide)
    have l9 := chAt_len (n := n) (i := 9) (by decide)
    k_steps
    refine EndS.intro rfl (by k_asm) (by k_asm) ⟨_, rfl⟩
end Mine

/-! part D4 -/
namespace Mine

section
variable {prog : Program} {w : World} {A : Around} {E : Value → Shared → Prop} {s : Shared} {env : Env} {h₀ : Heap} {L : Addr} {m : Str → Option Value}
/-- the tuple stands in the ledger -/
def TupAt (ax : Addr) (its : Array Value) (news : List (Addr × Obj)) : Prop := False ∨ ∃ o, (ax, o) ∈ news ∧ o.cls = .type "tuple" ∧ ∃ n, o.data = .seq its n
theorem TupAt.tup {h : Heap} {ax : Addr} {its : Array Value} {news : List (Addr × Obj)} (x : TupAt ax its news) (N : News h₀ L h news) : h.IsTuple ax its := by
  rcases x with x | ⟨o, hm, hc, n, hd⟩
  · exact x.elim
  · exact ⟨o, (N _ hm).1, hc, n, hd⟩
def TupSrc (prog : Program) (w : World) (A : Around) (h₀ : Heap) (L : Addr) (m : Str → Option Value) (env : Env) (elt : Expr) (x : Str) (scope : Scope) (cl : List (Str × Addr)) (Fin : Shared → List Value → List (Addr × Obj) → Prop) (xv : Value) (s₁ : Shared) : Prop :=
  ∃ ax its news, xv = .ref ax ∧ A.handled = none ∧ Fr h₀ L s₁.heap m ∧ News h₀ L s₁.heap news ∧ TupAt ax its news ∧ its.size ≤ sizeLine ∧
    ∀ g, LCg.CompRest prog w A h₀ L m env elt x scope cl { s₁ with heap := g } (TupAt ax its) (fun i v => its[i]? = some v) (Fin { s₁ with heap := g }) its.size 0 [] news
theorem TupSrc.ledger {elt : Expr} {x : Str} {scope : Scope} {cl : List (Str × Addr)} {Fin : Shared → List Value → List (Addr × Obj) → Prop} {ax : Addr} {its : Array Value} {k : Nat} {news : List (Addr × Obj)} {s₁ : Shared}
    (hh : A.handled = none) (F : Fr h₀ L s₁.heap m) (N : News h₀ L s₁.heap news) (hm : (ax, ({ cls := .type "tuple", data := .seq its k } : Obj)) ∈ news) (hsz : its.size ≤ sizeLine)
    (h : ∀ g, LCg.CompRest prog w A h₀ L m env elt x scope cl { s₁ with heap := g } (TupAt ax its) (fun i v => its[i]? = some v) (Fin { s₁ with heap := g }) its.size 0 [] news) :
    TupSrc prog w A h₀ L m env elt x scope cl Fin (.ref ax) s₁ := ⟨ax, its, news, rfl, hh, F, N, .inr ⟨_, hm, rfl, _, rfl⟩, hsz, h⟩
theorem tup_st {ax I : Addr} {its : Array Value} : ∀ i (h h' : Heap) (o : Obj) (nw : List (Addr × Obj)), (h.IsTupleIter I ax i ∧ h.IsTuple ax its) → h.get? I = some o → h'.get? I = some o → (∀ b o, h₀.get? b = some o → h'.get? b = some o) → News h₀ L h' nw → TupAt ax its nw → (h'.IsTupleIter I ax i ∧ h'.IsTuple ax its) :=
  fun i h h' o nw st e e' k N S => ⟨by obtain ⟨o', q, r⟩ := st.1; rw [e] at q; cases q; exact ⟨o, e', r⟩, S.tup N⟩
theorem ListComp_tup {elt iter : Expr} {x : Str} {px : Pos} {scope : Scope} {cl : List (Str × Addr)} {pos : Pos} {Q : Value → Shared → Prop} (F₀ : Fr h₀ L s.heap m)
    (hclos : closureFor scope env = pure cl) (hcell : ∀ y ∈ scope.names, y.2 ≠ .cell) (hkind : scope.kind = .function)
    (hnames : ∀ y ∈ scope.names, y.2 = .local → scope.names.lookup y.1 = some .local) (hx : scope.names.lookup x = some .local)
    (h : wpAny (model prog w) A (eval iter env) (TupSrc prog w A h₀ L m env elt x scope cl (fun s₂ => LCg.FinE h₀ L m s₂ Q)) E s)
    (hs : ∀ x, foldedSetIterable iter env x = pure x := by intro _; rfl) :
    wpAny (model prog w) A (eval (.ListComp elt [⟨.Name x px, iter, [], 0⟩] scope pos) env) Q E s := by
  rw [eval_ListComp]
  refine wpAny_comprehension_free (use := none) rfl hs hclos hkind hnames (wpAny_mono h (fun xv s₁ h₁ => ?_) fun _ _ e => e)
  obtain ⟨ax, its, news, rfl, hh, F, N, S, hsz, R⟩ := h₁
  have hl := S.tup N
  have hlt : ax < s₁.heap.objs.size := by obtain ⟨_, e, _⟩ := hl; exact Heap.lt_size e
  refine wpAny_pyIter_tuple hl ?_
  have up : ∀ b o, s₁.heap.get? b = some o → (s₁.heap.push { cls := .type "tuple_iterator", data := .fields #[.ref ax, .int 0 0] }).get? b = some o := fun b o e => Heap.get?_push_of_some _ e
  refine LCg.block_U (Walks.tuple hh s₁.heap.objs.size ax (Nat.ne_of_lt hlt) its) hsz (fun i h st => by obtain ⟨o, e, _⟩ := st.1; exact ⟨o, e⟩) tup_st hcell hkind hx ⟨⟨_, Heap.get?_push_size _ rfl, rfl, rfl⟩, hl.at fun o e => up _ o e⟩ (fun b hb => ?_)
    (F.keeps up) (N.grown up) (Nat.ne_of_lt F.ns.lt) (next_is_new F) (fun p hp => Nat.ne_of_lt (Heap.lt_size (N p hp).1)) S (R _) ?_
  · show b < (s₁.heap.push _).objs.size
    rw [Heap.size_push]
    rcases List.mem_cons.mp hb with rfl | hb
    · exact Nat.lt_succ_self _
    · rw [List.mem_singleton.mp hb]; exact Nat.lt_succ_of_lt hlt
  · intro D C h tk m' ys news' F' N' o1 hn hC₀ hD₀ hCL hDL hCD offC fin
    refine ⟨m', hn, fun h'' hs'' => fin D h'' tk (F'.change hs'' hCL hC₀) (fun p hp => ?_) o1⟩
    refine ⟨hs''.extBut _ _ ?_ (N' p hp).1, (N' p hp).2⟩
    rcases List.mem_cons.mp hp with rfl | hp
    · exact Ne.symm hCD
    · exact offC p hp
end
end Mine

/-! part D5 -/
namespace Mine

theorem runs_toks {M : Model} {Γ : PySem.Ctx} {p : Pos} {t : Sem PySem.Fin} {fs : List Frame} {s s' : Shared} {e : End} (h : Runs M Γ p t fs s e s') : s.toks ≤ s'.toks := by
  induction h with
  | done => exact Nat.le_refl _
  | raise => exact Nat.le_refl _
  | again _ _ ih => exact ih
  | rule _ ih => exact ih
  | «at» _ ih => exact ih
  | load _ _ ih => exact ih
  | update _ _ ih => exact ih
  | loadIfAlive _ ih => exact ih
  | point _ ih => exact ih
  | alloc _ ih => exact ih
  | fresh _ ih => exact Nat.le_of_succ_le ih
  | ask _ ih => exact ih
  | choose _ _ ih => exact ih
  | os _ ih => exact ih
  | handled _ ih => exact ih
  | genState _ _ ih => exact ih
  | stack _ ih => exact ih
  | thread _ ih => exact ih
  | newGen _ ih => exact ih
  | call _ _ ih1 ih2 => exact Nat.le_trans ih1 ih2
  | callSusp _ ih => exact ih
  | yield => exact Nat.le_refl _
  | resumeFresh _ _ _ _ ih1 ih2 => exact Nat.le_trans ih1 ih2
  | resumeSuspended _ _ _ _ ih1 ih2 => exact Nat.le_trans ih1 ih2
  | resumeJustStarted _ _ _ ih => exact ih
  | resumeThrowFresh _ _ ih => exact ih
  | resumeRunning _ _ ih => exact ih
  | resumeFinished _ _ ih => exact ih
  | segRet _ _ ih1 ih2 => exact Nat.le_trans ih1 ih2
  | segGen _ _ ih1 ih2 => exact Nat.le_trans ih1 ih2
  | segSuspOut _ _ ih => exact ih
  | segSuspGen _ _ _ _ ih1 ih2 => exact Nat.le_trans ih1 ih2
theorem wakes_toks {M : Model} {Γ : PySem.Ctx} {p : Pos} {g : Nat} {r : Resume} {s s' : Shared} {res : GenResult} (h : Wakes M Γ p g r s res s') : s.toks ≤ s'.toks := by
  unfold Wakes at h
  split at h
  · exact h.elim
  · split at h
    · obtain ⟨e₁, s₁, hr, _, _, rfl⟩ := h
      have q := runs_toks hr
      exact q
    · rw [h.2]; exact Nat.le_refl _
    · rw [h.2]; exact Nat.le_refl _
  · obtain ⟨e₁, s₁, hr, _, _, rfl⟩ := h
    have q := runs_toks hr
    exact q
  · rw [h.2]; exact Nat.le_refl _
  · rw [h.2]; exact Nat.le_refl _
theorem wp_toks {α : Type} {M : Model} {Γ : PySem.Ctx} (t : Sem α) : ∀ {Q : α → Pos → Shared → Prop} {E : Value → Pos → Shared → Prop} {p : Pos} {s : Shared} (n : Nat), n ≤ s.toks →
    Sem.wp M Γ t (fun a p' s' => n ≤ s'.toks → Q a p' s') (fun e p' s' => n ≤ s'.toks → E e p' s') p s → Sem.wp M Γ t Q E p s := by
  induction t with
  | pure a => intro Q E p s n hn h; exact h hn
  | raise e => intro Q E p s n hn h; exact h hn
  | unsupported _ => intro Q E p s n hn h; exact h
  | finish _ => intro Q E p s n hn h; exact h
  | rule _ k ih => intro Q E p s n hn h; exact ih () n hn h
  | «at» _ k ih => intro Q E p s n hn h; exact ih () n hn h
  | load a _ k ih => intro Q E p s n hn h; obtain ⟨o, ho, h⟩ := h; exact ⟨o, ho, ih o n hn h⟩
  | update a _ f k ih => intro Q E p s n hn h; exact ⟨h.1, ih () n hn h.2⟩
  | loadIfAlive a k ih => intro Q E p s n hn h; exact ih _ n hn h
  | point _ k ih => intro Q E p s n hn h; exact ih () n hn h
  | register _ k ih => intro Q E p s n hn h; exact h
  | alloc o k ih => intro Q E p s n hn h; exact ih _ n hn h
  | fresh k ih => intro Q E p s n hn h; exact ih _ n (Nat.le_succ_of_le hn) h
  | ask k ih => intro Q E p s n hn h; exact ih _ n hn h
  | choose src m k ih => intro Q E p s n hn h; exact ⟨h.1, ih _ n hn h.2⟩
  | os q l k ih => intro Q E p s n hn h; exact ih _ n hn h
  | call c h' g l k ih =>
    intro Q E p s n hn h
    obtain ⟨r, s', hr, h⟩ := h
    exact ⟨r, s', hr, ih r n (Nat.le_trans hn (runs_toks hr)) h⟩
  | handled own k ih => intro Q E p s n hn h; exact ih _ n hn h
  | genState g k ih => intro Q E p s n hn h; obtain ⟨st, hs, h⟩ := h; exact ⟨st, hs, ih _ n hn h⟩
  | newGen c k ih => intro Q E p s n hn h; exact ih _ n hn h
  | resume g r l k ih =>
    intro Q E p s n hn h
    obtain ⟨res, s', hr, h⟩ := h
    exact ⟨res, s', hr, ih res n (Nat.le_trans hn (wakes_toks hr)) h⟩
  | yield v g l k ih => intro Q E p s n hn h; exact h
  | stack k ih => intro Q E p s n hn h; exact ih _ n hn h
  | fork => intro Q E p s n hn h; exact h
  | thread k ih => intro Q E p s n hn h; exact ih _ n hn h
  | await => intro Q E p s n hn h; exact h
/-- tokens never go down -/
theorem toksUp {α : Type} {M : Model} {A : Around} {t : Sem α} {Q : α → Shared → Prop} {E : Value → Shared → Prop} {s : Shared}
    (h : wpAny M A t (fun a s' => s.toks ≤ s'.toks → Q a s') (fun e s' => s.toks ≤ s'.toks → E e s') s) : wpAny M A t Q E s :=
  fun Γ p hΓ => wp_toks t s.toks (Nat.le_refl _) (h Γ p hΓ)
end Mine

/-! part C8 -/
namespace Mine

theorem eq_pair {prog : Program} {w : World} {A : Around} {E : Value → Shared → Prop} {s : Shared} {h₀ : Heap} {L : Addr} {m : Str → Option Value} {r r' : Addr} {ho pa ho' pa' : Str} {as bs : List Addr} {Q : Value → Shared → Prop}
    (F : Fr h₀ L s.heap m) (ra : Reads h₀ (.ref r) (.tuple [.str ho, .str pa]) as) (rb : Reads h₀ (.ref r') (.tuple [.str ho', .str pa']) bs) (hu : A.units + 64 < cLine) (o1 : PyData.strOk ho = true) (o2 : PyData.strOk pa = true) (o3 : PyData.strOk ho' = true) (o4 : PyData.strOk pa' = true)
    (h : Q (.bool (decide (ho = ho' ∧ pa = pa'))) s) : wpAny (model prog w) A (compareOp .Eq (.ref r) (.ref r')) Q E s := by
  refine eq_dataH (Reads.keeps F.keep ra) (Reads.keeps F.keep rb) ?_ ?_ hu ?_
  · simp [SeqAt.shaped, PyData.canLay0, PyData.canLayAll0, PyData.depth, PyData.depthAll, o1, o2]
  · simp [SeqAt.shaped, PyData.canLay0, PyData.canLayAll0, PyData.depth, PyData.depthAll, o3, o4]
  · have e : PyData.eqv (.tuple [.str ho, .str pa]) (.tuple [.str ho', .str pa']) = decide (ho = ho' ∧ pa = pa') := by
      have b1 : (ho == ho') = decide (ho = ho') := by by_cases h : ho = ho' <;> simp [h]
      have b2 : (pa == pa') = decide (pa = pa') := by by_cases h : pa = pa' <;> simp [h]
      simp [PyData.eqv, PyData.eqvAll, b1, b2]
    rw [e]; exact h
local macro_rules | `(tactic| walk_at "compareOp Eq ref ref") => `(tactic| (k_here; (with_reducible show wpAny _ _ (compareOp CmpOp.Eq (Value.ref _) (Value.ref _)) _ _ _); k_dflt (refine' eq_pair ?k1 ?k2 ?k3 ?ku ?o1 ?o2 ?o3 ?o4 ?_; (case k1 => k_asm); (case k2 => assumption); (case k3 => assumption); (case ku => ktr_units); (case o1 => assumption); (case o2 => assumption); (case o3 => assumption); (case o4 => assumption)); (try dsimp only)))
/-- what is_suburi gives -/
def subF (ho pa ho' pa' : Str) : Bool := if ho = ho' ∧ pa = pa' then true else if ho = ho' then (if Txt.slice pa (some (-1)) none = Str.ofString "/" then Txt.startswith pa' pa else Txt.startswith pa' (pa ++ Str.ofString "/")) else false
theorem suburi_says (w : World) (mean : ExcName → Option Value) (mg mb : Str → Option Value) (mg' r r' : Addr) (ho pa ho' pa' : Str) (t u t' u' : Tok) (k1 : ho.length < 10) (k2 : pa.length < 100) (k3 : ho'.length < 10) (k4 : pa'.length < 100) (o1 : PyData.strOk ho = true) (o2 : PyData.strOk pa = true) (o3 : PyData.strOk ho' = true) (o4 : PyData.strOk pa' = true) :
    SaysL w mean mg mb 64 1 200 [.ref mg', .ref r, .ref r'] (fun h => h.get? r = some { cls := .type "tuple", data := .seq #[.str ho t, .str pa u] } ∧ h.get? r' = some { cls := .type "tuple", data := .seq #[.str ho' t', .str pa' u'] }) (fun v _ => v = .bool (subF ho pa ho' pa')) := by
  w_top off
  unfold SaysL; k_fill
  intro dp un gd cn cs a ccd cl outer A₀ base h₀ L m s Q E B F X T hk hpre hd hu ret
  (k_dflt (refine' says_enter B F X T hk ?k6 ?k7 ?k8 ?k9 ?kB ?_ ret ?c2 ?c3 ?c4 ?c5; (case k6 => k_is); (case k7 => k_is); (case k8 => omega); (case k9 => exact BindsTo.of_eq rfl); (case c5 => decide); (case kB => exact locs rfl); (case c2 => exact rfl); (case c3 => exact rfl); (case c4 => exact rfl); k_whole; intro h' L' eL F' N' B' X' T'; (try dsimp only); (try k_lift B'); (try k_fold)))
  have hl1 : s.heap.IsTuple r #[.str ho t, .str pa u] := ⟨_, hpre.1, rfl, _, rfl⟩
  have hl2 : s.heap.IsTuple r' #[.str ho' t', .str pa' u'] := ⟨_, hpre.2, rfl, _, rfl⟩
  have hr1 : ∃ as, Reads s.heap (.ref r) (.tuple [.str ho, .str pa]) as := ⟨_, reads_tuple_at hpre.1 rfl rfl (by repeat constructor)⟩
  have hr2 : ∃ as, Reads s.heap (.ref r') (.tuple [.str ho', .str pa']) as := ⟨_, reads_tuple_at hpre.2 rfl rfl (by repeat constructor)⟩
  obtain ⟨as1, hr1⟩ := hr1
  obtain ⟨as2, hr2⟩ := hr2
  k_steps
  all_goals ((try dsimp only); (try (k_unfold; try dsimp only)); refine EndS.intro rfl (by k_asm) (by k_asm) ?_)
  · rename (_ ∧ _) => ha
    unfold subF; rw [if_pos ha]
  · rename (¬ _) => ha
    rename ((ho != ho') = true) => hb
    have hb' : ¬ ho = ho' := by simpa using hb
    unfold subF; rw [if_neg ha, if_neg hb']
  · rename (¬ _) => ha
    rename ((ho != ho') = false) => hb
    rename (_ = true) => hc
    have hb' : ho = ho' := by simpa using hb
    have hc' : ¬ Txt.slice pa (some (-1)) none = Str.ofString "/" := by simpa using hc
    unfold subF; rw [if_neg ha, if_pos hb', if_neg hc']
  · rename (¬ _) => ha
    rename ((ho != ho') = false) => hb
    rename ((Txt.slice pa (some (-1)) none != _) = false) => hc
    have hb' : ho = ho' := by simpa using hb
    have hc' : Txt.slice pa (some (-1)) none = Str.ofString "/" := by simpa using hc
    unfold subF; rw [if_neg ha, if_pos hb', if_pos hc']
end Mine

/-! part S1 -/
namespace Mine

theorem str1 {x : Str} (h : x.length = 1) : ∃ c, x = ⟨#[c]⟩ := by
  obtain ⟨⟨l⟩⟩ := x
  match l, h with
  | [c], _ => exact ⟨c, rfl⟩
theorem apS (a b : Array Nat) : (⟨a⟩ : Str) ++ (⟨b⟩ : Str) = ⟨a ++ b⟩ := rfl
theorem glue10 (c0 c1 c2 c3 c4 c5 c6 c7 c8 c9 : Nat) : Txt.join (Str.ofString "") [⟨#[c0]⟩, ⟨#[c1]⟩, ⟨#[c2]⟩, ⟨#[c3]⟩, ⟨#[c4]⟩, ⟨#[c5]⟩, ⟨#[c6]⟩, ⟨#[c7]⟩, ⟨#[c8]⟩, ⟨#[c9]⟩] = ⟨#[c0, c1, c2, c3, c4, c5, c6, c7, c8, c9]⟩ := by
  have e : Str.ofString "" = ⟨#[]⟩ := by decide +kernel
  show Builtin.Str.glued _ _ = _
  rw [StrLaws.glued_eq_join, e]
  simp [Str.join, apS]
theorem fileF_is (n : Int) : ∃ c0 c1 c2 c3 c4 c5 c6 c7 c8 c9, fileF n = ⟨#[c0, c1, c2, c3, c4, c5, c6, c7, c8, c9]⟩ ∧ chAt n 0 = ⟨#[c0]⟩ ∧ chAt n 1 = ⟨#[c1]⟩ ∧ chAt n 2 = ⟨#[c2]⟩ ∧ chAt n 3 = ⟨#[c3]⟩ ∧ chAt n 4 = ⟨#[c4]⟩ ∧ chAt n 5 = ⟨#[c5]⟩ ∧ chAt n 6 = ⟨#[c6]⟩ ∧ chAt n 7 = ⟨#[c7]⟩ ∧ chAt n 8 = ⟨#[c8]⟩ ∧ chAt n 9 = ⟨#[c9]⟩ := by
  obtain ⟨c0, h0⟩ := str1 (chAt_len (n := n) (i := 0) (by decide))
  obtain ⟨c1, h1⟩ := str1 (chAt_len (n := n) (i := 1) (by decide))
  obtain ⟨c2, h2⟩ := str1 (chAt_len (n := n) (i := 2) (by decide))
  obtain ⟨c3, h3⟩ := str1 (chAt_len (n := n) (i := 3) (by decide))
  obtain ⟨c4, h4⟩ := str1 (chAt_len (n := n) (i := 4) (by decide))
  obtain ⟨c5, h5⟩ := str1 (chAt_len (n := n) (i := 5) (by decide))
  obtain ⟨c6, h6⟩ := str1 (chAt_len (n := n) (i := 6) (by decide))
  obtain ⟨c7, h7⟩ := str1 (chAt_len (n := n) (i := 7) (by decide))
  obtain ⟨c8, h8⟩ := str1 (chAt_len (n := n) (i := 8) (by decide))
  obtain ⟨c9, h9⟩ := str1 (chAt_len (n := n) (i := 9) (by decide))
  refine ⟨c0, c1, c2, c3, c4, c5, c6, c7, c8, c9, ?_, h0, h1, h2, h3, h4, h5, h6, h7, h8, h9⟩
  unfold fileF
  rw [h0, h1, h2, h3, h4, h5, h6, h7, h8, h9]
  exact glue10 ..
theorem fileF_len (n : Int) : (fileF n).length = 10 := by
  obtain ⟨c0, c1, c2, c3, c4, c5, c6, c7, c8, c9, e, _⟩ := fileF_is n
  rw [e]; rfl
def part (x : Str) (k : Int) : Str := Txt.replace (Txt.slice (Txt.slice x (some k) none) none (some 3)) (Str.ofString "-") (Str.ofString "")
theorem strike_list (x : Str) : (Txt.replace x (Str.ofString "-") (Str.ofString "")).cps.toList = x.cps.toList.filter (· != 45) := by
  have e1 : Str.ofString "-" = ⟨#[45]⟩ := by decide +kernel
  have e2 : Str.ofString "" = ⟨#[]⟩ := by decide +kernel
  rw [e1, e2]; exact replace_strikes x 45
theorem part_len {x : Str} {k : Int} (h : x.length ≤ 10) : (part x k).length < 20 := by
  have e : (part x k).length = (part x k).cps.toList.length := by simp [Str.length]
  have h1 := PyProof.Txt.length_slice_le (Txt.slice x (some k) none) none (some 3)
  have h2 := PyProof.Txt.length_slice_le x (some k) none
  rw [e, part, strike_list]
  have h3 := List.length_filter_le (· != 45) (Txt.slice (Txt.slice x (some k) none) none (some 3)).cps.toList
  have h4 : (Txt.slice (Txt.slice x (some k) none) none (some 3)).cps.toList.length = (Txt.slice (Txt.slice x (some k) none) none (some 3)).length := by simp [Str.length]
  omega
theorem kind_len {x : Str} (h : x.length ≤ 10) : (Txt.slice x none (some (-9))).length < 20 := by
  have h2 := PyProof.Txt.length_slice_le x none (some (-9))
  omega
end Mine

/-! part C9 -/
namespace Mine

theorem filemode_says' (w : World) (mean : ExcName → Option Value) (mg mb : Str → Option Value) (n : Int) (t : Tok) (h0 : 0 ≤ n) (h1 : n < 65536) :
    SaysL w mean mg mb 125 2 40 [.int n t] (fun _ => True) (fun v _ => ∃ x t, v = .str x t ∧ x.length ≤ 10 ∧ fileF n = x) := by
  intro dp un gd cn cs a ccd cl outer A₀ base h₀ L m s Q E B F X T hk hpre hd hu ret
  exact filemode_says w mean mg mb n t h0 h1 dp un gd cn cs a ccd cl outer A₀ base h₀ L m s Q E B F X T hk hpre hd hu (fun v tl h' tk' ke nw r => ret v tl h' tk' ke nw (by obtain ⟨t9, e9⟩ := r; exact ⟨_, _, e9, Nat.le_of_eq (fileF_len n), rfl⟩))
local macro_rules | `(tactic| walk_at "call ref") => `(tactic| (k_here; (with_reducible show wpAny _ _ (call (Value.ref 125) [Value.int _ _]) _ _ _); k_dflt (refine' says_use0 (filemode_says' _ _ _ _ _ _ ?p0 ?p1) ?k1 ?k2 ?k3 ?k4 ?k5 ?kK ?kp ?kd ?ku ?_; (case p0 => assumption); (case p1 => assumption); (case k1 => k_asm); (case k2 => k_asm); (case k3 => k_asm); (case k4 => k_asm); (case k5 => k_asm); (case kK => exact Eq.refl _); (case kp => trivial); (case kd => ktr_room); (case ku => ktr_units)); intro v9 h9 tk9 F9 N9 r9; obtain ⟨x9, t9, e9, l9, q9⟩ := r9; subst e9; (try dsimp only)))
local macro_rules | `(tactic| walk_at "subscriptTail") => `(tactic| ((with_reducible show wpAny _ _ (subscriptTail (Expr.Subscript _ _ _) (Expr.Slice none (some _) none _) _ _) _ _ _); refine toksUp ?_; (with_reducible rename Fr _ _ _ _ => F'); (with_reducible rename News _ _ _ _ => N'); refine slice_strN_ns_len (s := ⟨_, _, _, _, _⟩) F' N' ?_; intro _ _ _ _ _ _ htk; dsimp only at htk))
local macro_rules | `(tactic| walk_at "call builtin:str.replace") => `(tactic| (refine SC.replaceW (by show @Ne Nat _ _; omega) (by show @Ne Nat _ _; omega) (by show @Ne Nat _ _; omega) (by decide) (by omega) (by decide) ?_; intro _ _))
/-- the pieces made so far -/
def SP (x : Str) (its : Array Value) (i : Nat) (ys : List Value) : Prop := ys.length = i ∧ ∀ (j : Nat) (k : Int) (t : Tok), j < i → its[j]? = some (.int k t) → ∃ t', ys[j]? = some (.str (part x k) t')
theorem SP.nil {x : Str} {its : Array Value} : SP x its 0 [] := ⟨rfl, fun j _ _ h => absurd h (Nat.not_lt_zero j)⟩
theorem SP.snoc {x : Str} {its : Array Value} {i : Nat} {ys : List Value} {k : Int} {t t' : Tok} (h : SP x its i ys) (e : its[i]? = some (.int k t)) : SP x its (i + 1) (ys ++ [.str (part x k) t']) := by
  refine ⟨by rw [List.length_append, h.1]; rfl, fun j k' t1 hj e' => ?_⟩
  by_cases hi : j < i
  · obtain ⟨t2, e2⟩ := h.2 j k' t1 hi e'
    exact ⟨t2, by rw [List.getElem?_append_left (by rw [h.1]; exact hi)]; exact e2⟩
  · have hj' : j = i := by omega
    subst hj'
    rw [e] at e'
    have e3 : Value.int k t = .int k' t1 := Option.some.inj e'
    injection e3 with e4 e5
    subst e4
    exact ⟨t', by rw [List.getElem?_append_right (by rw [h.1]; exact Nat.le_refl _), h.1, Nat.sub_self]; rfl⟩
theorem SP.three {x : Str} {a b c : Int} {t0 t1 t2 : Tok} {ys : List Value} (h : SP x #[.int a t0, .int b t1, .int c t2] 3 ys) : ∃ u0 u1 u2, ys = [.str (part x a) u0, .str (part x b) u1, .str (part x c) u2] := by
  obtain ⟨u0, e0⟩ := h.2 0 a t0 (by decide) rfl
  obtain ⟨u1, e1⟩ := h.2 1 b t1 (by decide) rfl
  obtain ⟨u2, e2⟩ := h.2 2 c t2 (by decide) rfl
  refine ⟨u0, u1, u2, ?_⟩
  match ys, h.1, e0, e1, e2 with
  | [y0, y1, y2], _, e0, e1, e2 =>
    have f0 : y0 = _ := Option.some.inj e0
    have f1 : y1 = _ := Option.some.inj e1
    have f2 : y2 = _ := Option.some.inj e2
    rw [f0, f1, f2]
theorem int3 {a b c : Int} {t0 t1 t2 : Tok} {i : Nat} {v : Value} (h : #[Value.int a t0, Value.int b t1, Value.int c t2][i]? = some v) : ∃ k t, v = .int k t := by
  match i, h with
  | 0, h => exact ⟨_, _, (Option.some.inj h).symm⟩
  | 1, h => exact ⟨_, _, (Option.some.inj h).symm⟩
  | 2, h => exact ⟨_, _, (Option.some.inj h).symm⟩
  | i + 3, h => simp at h
theorem spelled_says (w : World) (mean : ExcName → Option Value) (mg mb : Str → Option Value) (n : Int) (t : Tok) (h0 : 0 ≤ n) (h1 : n < 65536) :
    SaysL w mean mg mb 135 3 100 [.int n t] (fun _ => True) (AddrAre (part (fileF n) (-9)) (Txt.slice (fileF n) none (some (-9))) (dash (part (fileF n) (-6))) (dash (part (fileF n) (-3)))) := by
  w_top off
  unfold SaysL; k_fill
  intro dp un gd cn cs a ccd cl outer A₀ base h₀ L m s Q E B F X T hk hpre hd hu ret
  (k_dflt (refine' says_enterC B F X T hk ?k6 ?k7 ?k8 ?k9 ?kB ?kD ?_ ret ?c2 ?c3 ?c4; (case k6 => k_is); (case k7 => k_is); (case k8 => omega); (case k9 => exact BindsTo.of_eq rfl); (case kB => exact rfl); (case kD => decide +kernel); (case c2 => exact rfl); (case c3 => exact rfl); (case c4 => exact rfl); k_whole; intro h' L' tk' cells' eL F' N' Y' B' X' T'; k_cells Y'; (try simp only [List.cons_append, List.nil_append] at N'); (try dsimp only); (try k_lift B'); (try k_fold)))
  repeat ((fail_if_success (with_reducible show wpAny _ _ (eval (Expr.ListComp _ _ _ _) _) _ _ _)); (first | (k_unfold; (try dsimp only)) | walk1 | (dsimp only; walk1)))
  rename (fileF n = _) => q9
  rename (Str.length _ ≤ 10) => l9
  subst q9
  k_dflt (refine ListComp_tup (F₀ := by k_asm) (by with_unfolding_all rfl) (by decide) (by rfl) (by decide) (by rfl) ?_)
  repeat ((fail_if_success (with_reducible show TupSrc _ _ _ _ _ _ _ _ _ _ _ _ _ _)); (first | (k_unfold; (try dsimp only)) | walk1 | (dsimp only; walk1)))
  refine TupSrc.ledger (by rfl) (by k_asm) (by k_asm) (List.mem_cons_self ..) (by exact Nat.le_of_ble_eq_true rfl) ?_
  intro g'
  refine compRest_its (n := 3) (fun its i ys news => news = _ ∧ SP (fileF n) its i ys) ?_ ?_ _ 0 [] _ rfl ⟨rfl, SP.nil⟩
  · intro i ys news v I oI C oC D m₂ h tk E' hi hJ hP hC hx F N off
    obtain ⟨rfl, hS⟩ := hJ
    obtain ⟨k, t, rfl⟩ := int3 hP
    repeat ((fail_if_success (with_reducible show LCg.CompEnd _ _ _ _ _ _ _ _ _ _ _ _ _ _)); (first | (k_unfold; (try dsimp only)) | walk1 | (dsimp only; walk1)))
    refine LCg.CompEnd.intro (by k_asm) (by k_asm) _ (fun p hp => hp) (LCg.Off3.of off) (Or.inr ⟨_, List.mem_cons_self .., rfl, _, rfl⟩) ⟨rfl, hS.snoc hP⟩
  · intro ys news hJ
    obtain ⟨rfl, hS⟩ := hJ
    obtain ⟨u0, u1, u2, rfl⟩ := hS.three
    clear hS
    repeat ((fail_if_success (with_reducible show wpAny _ _ (call (Value.ref 130) _) _ _ _)); (first | (k_unfold; (try dsimp only)) | walk1 | (dsimp only; walk1)))
    (k_dflt (refine' says_use (addr_says w mean mg mb _ _ _ _ _ _ _ _ ?p0 ?p1 ?p2 ?p3) ?k1 ?k2 ?k3 ?k4 ?k5 ?kK ?kp ?kd ?ku ?_))
    case p0 => exact part_len l9
    case p1 => exact kind_len l9
    case p2 => exact part_len l9
    case p3 => exact part_len l9
    case k1 => k_asm
    case k2 => k_asm
    case k3 => k_asm
    case k4 => k_asm
    case k5 => k_asm
    case kK => exact Eq.refl _
    case kp => trivial
    case kd => show dp + 1 + 1 < recursionLimit; omega
    case ku => show un + 3 + 8 < cLine; omega
    intro v9 tl9 h9 tk9 F9 N9 a9 r9
    exact EndS.introS rfl F9 N9 r9 (fun p hp => List.mem_append_left _ hp)
end Mine

/-! part C10 -/
namespace Mine

theorem signs_small : ∀ (n : Fin 16) (c : Fin 3), (signsF (n.val : Int) (c.val : Int)).length < 20 := by decide +kernel
theorem signs_len {n c : Int} (h0 : 0 ≤ n) (h1 : n < 16) (h2 : 0 ≤ c) (h3 : c < 3) : (signsF n c).length < 20 := by
  obtain ⟨n, rfl⟩ := Int.eq_ofNat_of_zero_le h0
  obtain ⟨c, rfl⟩ := Int.eq_ofNat_of_zero_le h2
  exact signs_small ⟨n, by omega⟩ ⟨c, by omega⟩
theorem signs_says' (w : World) (mean : ExcName → Option Value) (mg mb : Str → Option Value) (n c : Int) (t u : Tok) (h0 : 0 ≤ n) (h1 : n < 16) (h2 : 0 ≤ c) (h3 : c < 3) :
    SaysL w mean mg mb 149 1 40 [.int n t, .int c u] (fun _ => True) (fun v _ => ∃ x t, v = .str x t ∧ x.length < 20 ∧ signsF n c = x) := by
  intro dp un gd cn cs a ccd cl outer A₀ base h₀ L m s Q E B F X T hk hpre hd hu ret
  exact signs_says w mean mg mb n c t u h0 h1 h2 h3 dp un gd cn cs a ccd cl outer A₀ base h₀ L m s Q E B F X T hk hpre hd hu (fun v tl h' tk' ke nw r => ret v tl h' tk' ke nw (by obtain ⟨t9, e9⟩ := r; exact ⟨_, _, e9, signs_len h0 h1 h2 h3, rfl⟩))
def kindS (k : Int) : Str := Txt.item (Str.ofString "?pc?d?b?-?l?s") k
local macro_rules | `(tactic| walk_at "call ref") => `(tactic| (k_here; (with_reducible show wpAny _ _ (call (Value.ref 149) [Value.int _ _, Value.int _ _]) _ _ _); k_dflt (refine' says_use0 (signs_says' _ _ _ _ _ _ _ _ ?p0 ?p1 ?p2 ?p3) ?k1 ?k2 ?k3 ?k4 ?k5 ?kK ?kp ?kd ?ku ?_; (case p0 => assumption); (case p1 => assumption); (case p2 => decide); (case p3 => decide); (case k1 => k_asm); (case k2 => k_asm); (case k3 => k_asm); (case k4 => k_asm); (case k5 => k_asm); (case kK => exact Eq.refl _); (case kp => trivial); (case kd => ktr_room); (case ku => ktr_units)); intro v9 h9 tk9 F9 N9 r9; obtain ⟨x9, t9, e9, l9, q9⟩ := r9; subst e9; (try dsimp only)))
local macro_rules | `(tactic| walk_at "assign Tuple") => `(tactic| (k_here; (with_reducible show wpAny _ _ (assign (Expr.Tuple _ _ _) _ (Value.ref _)) _ _ _); k_dflt (refine' kun_list ?k1 ?k2 ?k3 ?k4 ?k5 ?k6 ?_; (case k3 => ((with_reducible rename Heap.IsList _ _ _ => hl9); exact hl9.at (fun o e => Fr.keep (by k_asm) _ o e))); (case k1 => k_asm); (case k2 => k_asm); (case k4 => exact rfl); (case k5 => exact rfl); (case k6 => exact rfl); k_whole); intro h' F' N'; (try k_sweep)))
theorem hand_says (w : World) (mean : ExcName → Option Value) (mg mb : Str → Option Value) (l : Addr) (us ki gr ot : Int) (t1 t2 t3 t4 : Tok) (h0 : 0 ≤ us) (h1 : us < 16) (h2 : 0 ≤ ki) (h3 : ki < 13) (h4 : 0 ≤ gr) (h5 : gr < 16) (h6 : 0 ≤ ot) (h7 : ot < 16) :
    SaysL w mean mg mb 156 3 100 [.ref l] (fun h => h.get? l = some (list4 us ki gr ot t1 t2 t3 t4)) (AddrAre (signsF us 0) (kindS ki) (dash (signsF gr 1)) (dash (signsF ot 2))) := by
  w_top off
  unfold SaysL; k_fill
  intro dp un gd cn cs a ccd cl outer A₀ base h₀ L m s Q E B F X T hk hpre hd hu ret
  (k_dflt (refine' says_enter B F X T hk ?k6 ?k7 ?k8 ?k9 ?kB ?_ ret ?c2 ?c3 ?c4 ?c5; (case k6 => k_is); (case k7 => k_is); (case k8 => omega); (case k9 => exact BindsTo.of_eq rfl); (case c5 => decide); (case kB => exact locs rfl); (case c2 => exact rfl); (case c3 => exact rfl); (case c4 => exact rfl); k_whole; intro h' L' eL F' N' B' X' T'; (try dsimp only); (try k_lift B'); (try k_fold)))
  have hl1 : s.heap.IsList l #[.int us t1, .int ki t2, .int gr t3, .int ot t4] := ⟨_, hpre, rfl, _, rfl⟩
  repeat ((fail_if_success (with_reducible show wpAny _ _ (call (Value.ref 130) _) _ _ _)); (first | (k_unfold; (try dsimp only)) | walk1 | (dsimp only; walk1)))
  rename (signsF us 0 = _) => q1
  rename (signsF gr 1 = _) => q2
  rename (signsF ot 2 = _) => q3
  subst q1 q2 q3
  (k_dflt (refine' says_use (addr_says w mean mg mb _ _ _ _ _ _ _ _ ?p0 ?p1 ?p2 ?p3) ?k1 ?k2 ?k3 ?k4 ?k5 ?kK ?kp ?kd ?ku ?_))
  case p0 => assumption
  case p1 => exact (by decide : (1 : Nat) < 20)
  case p2 => assumption
  case p3 => assumption
  case k1 => k_asm
  case k2 => k_asm
  case k3 => k_asm
  case k4 => k_asm
  case k5 => k_asm
  case kK => exact Eq.refl _
  case kp => trivial
  case kd => show dp + 1 + 1 < recursionLimit; omega
  case ku => show un + 3 + 8 < cLine; omega
  intro v9 tl9 h9 tk9 F9 N9 a9 r9
  (try dsimp only); (try (k_unfold; try dsimp only))
  exact EndS.introS rfl F9 N9 r9 (fun p hp => List.mem_append_left _ hp)
end Mine

/-! part C7 -/
namespace Mine

def sameF (a b c d a' b' c' d' : Int) : Int := if a = a' then (if b = b' then (if c = c' then (if d = d' then 4 else 3) else 2) else 1) else 0
theorem whl_split {b : Bool} {T F : Prop} (t : b = true → T) (f : b = false → F) : WhlIf b T F := by
  cases b
  · exact WhlIf.no rfl (f rfl)
  · exact WhlIf.yes rfl (t rfl)
local macro_rules | `(tactic| walk_at "exec While BoolOp") => `(tactic| (k_here; k_dflt (refine whl_start 100 ?_)))
local macro_rules | `(tactic| walk_at "WhlIf") => `(tactic| (refine whl_split ?_ ?_ <;> intro hb9))
local macro_rules | `(tactic| walk_at "WhlIf") => `(tactic| (first | (refine WhlIf.yes (by with_unfolding_all rfl) ?_) | (refine WhlIf.no (by with_unfolding_all rfl) ?_) | (refine WhlIf.yes (by decide) ?_) | (refine WhlIf.no (by decide) ?_)))
theorem same_says (w : World) (mean : ExcName → Option Value) (mg mb : Str → Option Value) (p q : Addr) (a1 b1 c1 d1 a2 b2 c2 d2 : Int) (t1 u1 x1 y1 t2 u2 x2 y2 : Tok) :
    SaysL w mean mg mb 163 1 40 [.ref p, .ref q] (fun h => h.get? p = some (list4 a1 b1 c1 d1 t1 u1 x1 y1) ∧ h.get? q = some (list4 a2 b2 c2 d2 t2 u2 x2 y2)) (fun v _ => ∃ t, v = .int (sameF a1 b1 c1 d1 a2 b2 c2 d2) t) := by
  w_top off
  unfold SaysL; k_fill
  intro dp un gd cn cs a ccd cl outer A₀ base h₀ L m s Q E B F X T hk hpre hd hu ret
  (k_dflt (refine' says_enter B F X T hk ?k6 ?k7 ?k8 ?k9 ?kB ?_ ret ?c2 ?c3 ?c4 ?c5; (case k6 => k_is); (case k7 => k_is); (case k8 => omega); (case k9 => exact BindsTo.of_eq rfl); (case c5 => decide); (case kB => exact locs rfl); (case c2 => exact rfl); (case c3 => exact rfl); (case c4 => exact rfl); k_whole; intro h' L' eL F' N' B' X' T'; (try dsimp only); (try k_lift B'); (try k_fold)))
  have hl1 : s.heap.IsList p #[.int a1 t1, .int b1 u1, .int c1 x1, .int d1 y1] := ⟨_, hpre.1, rfl, _, rfl⟩
  have hl2 : s.heap.IsList q #[.int a2 t2, .int b2 u2, .int c2 x2, .int d2 y2] := ⟨_, hpre.2, rfl, _, rfl⟩
  k_steps
  all_goals ((try dsimp only); (try (k_unfold; try dsimp only)); refine EndS.intro rfl (by k_asm) (by k_asm) ?_)
  all_goals (refine ⟨_, congrArg (fun z => Value.int z _) ?_⟩; unfold sameF)
  · rename ([a1, b1, c1, d1].getD (Int.toNat 0) 0 = _) => e1
    rename ([a1, b1, c1, d1].getD (Int.toNat (0 + 1)) 0 = _) => e2
    rename ([a1, b1, c1, d1].getD (Int.toNat (0 + 1 + 1)) 0 = _) => e3
    rename ([a1, b1, c1, d1].getD (Int.toNat (0 + 1 + 1 + 1)) 0 = _) => e4
    have f1 : a1 = a2 := e1
    have f2 : b1 = b2 := e2
    have f3 : c1 = c2 := e3
    have f4 : d1 = d2 := e4
    rw [if_pos f1, if_pos f2, if_pos f3, if_pos f4]; rfl
  · rename ([a1, b1, c1, d1].getD (Int.toNat 0) 0 = _) => e1
    rename ([a1, b1, c1, d1].getD (Int.toNat (0 + 1)) 0 = _) => e2
    rename ([a1, b1, c1, d1].getD (Int.toNat (0 + 1 + 1)) 0 = _) => e3
    rename ([a1, b1, c1, d1].getD (Int.toNat (0 + 1 + 1 + 1)) 0 ≠ _) => e4
    have f1 : a1 = a2 := e1
    have f2 : b1 = b2 := e2
    have f3 : c1 = c2 := e3
    have f4 : ¬ d1 = d2 := e4
    rw [if_pos f1, if_pos f2, if_pos f3, if_neg f4]; rfl
  · rename ([a1, b1, c1, d1].getD (Int.toNat 0) 0 = _) => e1
    rename ([a1, b1, c1, d1].getD (Int.toNat (0 + 1)) 0 = _) => e2
    rename ([a1, b1, c1, d1].getD (Int.toNat (0 + 1 + 1)) 0 ≠ _) => e3
    have f1 : a1 = a2 := e1
    have f2 : b1 = b2 := e2
    have f3 : ¬ c1 = c2 := e3
    rw [if_pos f1, if_pos f2, if_neg f3]; rfl
  · rename ([a1, b1, c1, d1].getD (Int.toNat 0) 0 = _) => e1
    rename ([a1, b1, c1, d1].getD (Int.toNat (0 + 1)) 0 ≠ _) => e2
    have f1 : a1 = a2 := e1
    have f2 : ¬ b1 = b2 := e2
    rw [if_pos f1, if_neg f2]; rfl
  · rename ([a1, b1, c1, d1].getD (Int.toNat 0) 0 ≠ _) => e1
    have f1 : ¬ a1 = a2 := e1
    rw [if_neg f1]
end Mine

/-! part D7 -/
namespace Mine

theorem ints_item {vs : List Value} {ns : List Int} {i : Nat} {v : Value} (h : IntsAre vs ns) (hv : vs.toArray[i]? = some v) : ∃ n t, v = .int n t ∧ ns[i]? = some n := by
  have hil : i < ns.length := by
    rw [← h.length]
    have q := (Array.getElem?_eq_some_iff.mp hv).1
    rwa [List.size_toArray] at q
  obtain ⟨t, ht⟩ := h.get i _ (List.getElem?_eq_getElem hil)
  rw [List.getElem?_toArray, ht] at hv
  exact ⟨_, t, (Option.some.inj hv).symm, List.getElem?_eq_getElem hil⟩
end Mine

/-! part M1 -/
namespace Mine

/-- the item at an index, counted from either end -/
def ItAt (its : Array Value) (k : Int) (x : Value) : Prop :=
  (0 ≤ k ∧ k < 2 ^ 63 ∧ its[k.toNat]? = some x) ∨ (k < 0 ∧ -(its.size : Int) ≤ k ∧ -(2 ^ 63) ≤ k ∧ its[(k + its.size).toNat]? = some x)
theorem item_at {prog : Program} {w : World} {A : Around} {E : Value → Shared → Prop} {s : Shared} {value slice : Expr} {l : Addr} {its : Array Value} {k : Int} {u : Tok} {x : Value} {Q : Value → Shared → Prop} (hl : s.heap.IsList l its) (hx : ItAt its k x) (h : Q x s)
    (hs : subscripted slice false (.ref l) (.int k u) = operate [.ref l, .int k u] (getItem (.ref l) (.int k u)) := by with_unfolding_all rfl) (hg : ∀ r, letTemporaryGo value (.ref l) r = pure () := by intro _; with_unfolding_all rfl) :
    wpAny (model prog w) A (subscriptTail value slice (.ref l) (.int k u)) Q E s := by
  rcases hx with ⟨h0, h1, h2⟩ | ⟨h0, h1, h2, h3⟩
  · exact subscriptTail_builtin hl.typeIs slot_list_getitem.lookup (wpAny_getItem_list hl h0 h1 h2 h) hs hg
  · exact subscriptTail_builtin hl.typeIs slot_list_getitem.lookup (wpAny_getItem_list_neg hl h0 h1 h2 h3 h) hs hg
theorem ItAt.nat {its : Array Value} {i : Nat} {x : Value} (hi : i < 1000) (h : its[i]? = some x) : ItAt its (i : Int) x := .inl ⟨by omega, by omega, by rw [Int.toNat_natCast]; exact h⟩
/-- the item ahead, behind the first the last -/
theorem ItAt.pred {its : Array Value} {i : Nat} {x : Value} (hi : i < its.size) (hs : its.size < 1000) (h : its[(i + its.size - 1) % its.size]? = some x) : ItAt its ((i : Int) - 1) x := by
  by_cases e : i = 0
  · subst e
    refine .inr ⟨by omega, by omega, by omega, ?_⟩
    have e1 : (((0 : Nat) : Int) - 1 + its.size).toNat = (0 + its.size - 1) % its.size := by
      rw [Nat.mod_eq_of_lt (by omega)]; omega
    rw [e1]; exact h
  · refine .inl ⟨by omega, by omega, ?_⟩
    have e1 : (((i : Nat) : Int) - 1).toNat = (i + its.size - 1) % its.size := by
      have e2 : i + its.size - 1 = (i - 1) + its.size := by omega
      rw [e2, Nat.add_mod_right, Nat.mod_eq_of_lt (by omega)]; omega
    rw [e1]; exact h
def pathF (ki gr ot : Str) : Nat → Str
  | 0 => Str.ofString ""
  | 1 => Str.ofString "/"
  | 2 => Str.ofString "/" ++ ki
  | 3 => Str.ofString "/" ++ ki ++ Str.ofString "/" ++ gr
  | 4 => Str.ofString "/" ++ ki ++ Str.ofString "/" ++ gr ++ Str.ofString "/"
  | _ => Str.ofString "/" ++ ki ++ Str.ofString "/" ++ gr ++ Str.ofString "/" ++ ot
/-- six addresses as a list of the ledger -/
theorem addr_open {ho ki gr ot : Str} {v : Value} {tl : List (Addr × Obj)} (h : AddrAre ho ki gr ot v tl) : ∃ (l : Addr) (its : Array Value), v = .ref l ∧ (l, W.listOf its 6) ∈ tl ∧
    ∀ m, m < 6 → ∃ (r : Addr) (t u : Tok), its[m]? = some (.ref r) ∧ (r, tupS ho t (pathF ki gr ot m) u) ∈ tl := by
  obtain ⟨l, a0, a1, a2, a3, a4, a5, t, u0, u1, u2, u3, u4, u5, rfl, rfl⟩ := h
  refine ⟨l, _, rfl, List.mem_cons_self .., fun m hm => ?_⟩
  match m, hm with
  | 0, _ => exact ⟨a0, t, u0, rfl, .tail _ (.head _)⟩
  | 1, _ => exact ⟨a1, t, u1, rfl, .tail _ (.tail _ (.head _))⟩
  | 2, _ => exact ⟨a2, t, u2, rfl, .tail _ (.tail _ (.tail _ (.head _)))⟩
  | 3, _ => exact ⟨a3, t, u3, rfl, .tail _ (.tail _ (.tail _ (.tail _ (.head _))))⟩
  | 4, _ => exact ⟨a4, t, u4, rfl, .tail _ (.tail _ (.tail _ (.tail _ (.tail _ (.head _)))))⟩
  | 5, _ => exact ⟨a5, t, u5, rfl, .tail _ (.tail _ (.tail _ (.tail _ (.tail _ (.tail _ (.head _))))))⟩
def needF : Nat → Int
  | 0 => 1
  | 1 => 1
  | 2 => 2
  | 3 => 3
  | 4 => 3
  | _ => 4
theorem need_open {t0 t1 t2 t3 t4 t5 : Tok} (m : Nat) (hm : m < 6) : ∃ t, (#[Value.int 1 t0, Value.int 1 t1, Value.int 2 t2, Value.int 3 t3, Value.int 3 t4, Value.int 4 t5])[m]? = some (.int (needF m) t) := by
  match m, hm with
  | 0, _ => exact ⟨_, rfl⟩
  | 1, _ => exact ⟨_, rfl⟩
  | 2, _ => exact ⟨_, rfl⟩
  | 3, _ => exact ⟨_, rfl⟩
  | 4, _ => exact ⟨_, rfl⟩
  | 5, _ => exact ⟨_, rfl⟩
theorem news_swap {h₀ h : Heap} {L : Addr} {x : Addr × Obj} {a b : List (Addr × Obj)} (N : News h₀ L h (x :: (a ++ b))) : News h₀ L h (x :: (b ++ a)) := fun p hp => N p (by
  rcases List.mem_cons.mp hp with e | hp
  · rw [e]; exact List.mem_cons_self ..
  · rcases List.mem_append.mp hp with hp | hp
    · exact List.mem_cons_of_mem _ (List.mem_append_right _ hp)
    · exact List.mem_cons_of_mem _ (List.mem_append_left _ hp))
theorem comp_end {h₀ : Heap} {L I C D : Addr} {m : Str → Option Value} {s₁ : Shared} {oI oC oD : Obj} {S : List (Addr × Obj) → Prop} {rest : Value → List (Addr × Obj) → Prop} {y : Value} {h' : Heap} {tk : Nat} {tl9 tl nw : List (Addr × Obj)}
    (F : Fr h₀ L h' m) (N : News h₀ L h' (tl9 ++ ((I, oI) :: (C, oC) :: (D, oD) :: (tl ++ nw)))) (a9 : ∀ q ∈ (I, oI) :: (C, oC) :: (D, oD) :: (tl ++ nw), ∀ p ∈ tl9, q.1 ≠ p.1) (off : ∀ p ∈ tl ++ nw, p.1 ≠ I ∧ p.1 ≠ C ∧ p.1 ≠ D)
    (hS : S ((tl9 ++ tl) ++ nw)) (r : rest y ((tl9 ++ tl) ++ nw)) :
    LCg.CompEnd h₀ L m s₁ I oI C oC D oD S rest y { s₁ with heap := h', toks := tk } := by
  refine LCg.CompEnd.intro F N ((tl9 ++ tl) ++ nw) (fun p hp => ?_) (LCg.Off3.of fun p hp => ?_) hS r
  · rcases List.mem_cons.mp hp with e | hp
    · rw [e]; exact List.mem_append_right _ (List.mem_cons_self ..)
    · rcases List.mem_cons.mp hp with e | hp
      · rw [e]; exact List.mem_append_right _ (List.mem_cons_of_mem _ (List.mem_cons_self ..))
      · rcases List.mem_cons.mp hp with e | hp
        · rw [e]; exact List.mem_append_right _ (List.mem_cons_of_mem _ (List.mem_cons_of_mem _ (List.mem_cons_self ..)))
        · rw [List.append_assoc] at hp
          rcases List.mem_append.mp hp with hp | hp
          · exact List.mem_append_left _ hp
          · exact List.mem_append_right _ (List.mem_cons_of_mem _ (List.mem_cons_of_mem _ (List.mem_cons_of_mem _ hp)))
  · rw [List.append_assoc] at hp
    rcases List.mem_append.mp hp with hp | hp
    · exact ⟨fun e => a9 _ (List.mem_cons_self ..) p hp e.symm, fun e => a9 _ (List.mem_cons_of_mem _ (List.mem_cons_self ..)) p hp e.symm, fun e => a9 _ (List.mem_cons_of_mem _ (List.mem_cons_of_mem _ (List.mem_cons_self ..))) p hp e.symm⟩
    · exact off p hp
end Mine

/-! part S2 -/
namespace Mine

set_option maxHeartbeats 1000000
theorem idx_lo {n : Nat} {i : Int} (h : i < 0) (h' : 0 ≤ i + n) : Builtin.Str.strSliceIndices (some i) none 1 n = Builtin.Str.strSliceIndices (some (i + n)) none 1 n := by
  unfold Builtin.Str.strSliceIndices
  simp only [if_pos h, if_neg (Int.not_lt.mpr h')]
theorem idx_hi {n : Nat} {i : Int} (h : i < 0) (h' : 0 ≤ i + n) : Builtin.Str.strSliceIndices none (some i) 1 n = Builtin.Str.strSliceIndices none (some (i + n)) 1 n := by
  unfold Builtin.Str.strSliceIndices
  simp only [if_pos h, if_neg (Int.not_lt.mpr h')]
theorem slice_lo {x : Str} {i : Int} (h : i < 0) (h' : 0 ≤ i + x.length) : Txt.slice x (some i) none = Txt.slice x (some (i + x.length)) none := by
  unfold Txt.slice
  rw [idx_lo h h']
theorem slice_hi {x : Str} {i : Int} (h : i < 0) (h' : 0 ≤ i + x.length) : Txt.slice x none (some i) = Txt.slice x none (some (i + x.length)) := by
  unfold Txt.slice
  rw [idx_hi h h']
theorem from_list {x : Str} {i : Nat} (h : i ≤ x.length) : (Txt.slice x (some (i : Int)) none).cps.toList = x.cps.toList.drop i := by
  have e := eq_of_beq (slice_closes_fromL (x := x) (i := i) (b := x.length) (by omega) (by omega) rfl)
  rw [e]
  show (List.take _ (List.drop _ _)) = _
  rw [Int.toNat_natCast, List.take_of_length_le]
  rw [List.length_drop]
  have : x.cps.toList.length = x.length := by simp [Str.length]
  omega
theorem to_list {x : Str} {i : Nat} (h : i ≤ x.length) : (Txt.slice x none (some (i : Int))).cps.toList = x.cps.toList.take i := by
  have e := eq_of_beq (slice_closes_toL (x := x) (j := i) (by omega) (by omega))
  rw [e]
  show (List.take _ (List.drop _ _)) = _
  have e2 : ((i : Int) - 0).toNat = i := by omega
  rw [e2]; rfl
theorem str_eq {x y : Str} (h : x.cps.toList = y.cps.toList) : x = y := by
  obtain ⟨⟨a⟩⟩ := x
  obtain ⟨⟨b⟩⟩ := y
  have e : a = b := h
  rw [e]
theorem app_list (x y : Str) : (x ++ y).cps.toList = x.cps.toList ++ y.cps.toList := by
  show (x.cps ++ y.cps).toList = _
  simp
theorem last_list (x : Str) : (Txt.slice x (some (-1)) none).cps.toList = x.cps.toList.drop (x.length - 1) := by
  by_cases e : x.length = 0
  · have e1 : x.cps.toList = [] := by
      apply List.eq_nil_of_length_eq_zero
      simpa [Str.length] using e
    have h := PyProof.Txt.length_slice_le x (some (-1)) none
    have e2 : (Txt.slice x (some (-1)) none).cps.toList = [] := by
      apply List.eq_nil_of_length_eq_zero
      have : (Txt.slice x (some (-1)) none).length = 0 := by omega
      simpa [Str.length] using this
    rw [e1, e2, List.drop_nil]
  · rw [slice_lo (by decide) (by omega)]
    have e1 : (-1 : Int) + x.length = ((x.length - 1 : Nat) : Int) := by omega
    rw [e1]
    exact from_list (by omega)
theorem starts_iff (x y : Str) : Txt.startswith x y = true ↔ y.cps.toList <+: x.cps.toList := by
  unfold Txt.startswith Builtin.Str.subAt
  have hx : x.cps.toList.length = x.length := by simp [Str.length]
  have hy : y.cps.toList.length = y.length := by simp [Str.length]
  have ex : (x.cps.extract 0 (0 + y.length)).toList = x.cps.toList.take y.length := by
    rw [Array.toList_extract, Nat.zero_add]; simp
  rw [Bool.and_eq_true, decide_eq_true_eq, beq_iff_eq]
  constructor
  · rintro ⟨h1, h2⟩
    rw [List.prefix_iff_eq_take, hy, ← ex, h2]
  · intro h
    refine ⟨by have := h.length_le; omega, ?_⟩
    rw [List.prefix_iff_eq_take, hy, ← ex] at h
    exact (Array.toList_inj.mp h).symm
/-- lists without a slash -/
def Free (a : List Nat) : Prop := ∀ c ∈ a, c ≠ 47
theorem free_cons {c : Nat} {a : List Nat} : Free (c :: a) ↔ c ≠ 47 ∧ Free a := by
  unfold Free
  exact List.forall_mem_cons
theorem cut_pre : ∀ {a b x y : List Nat}, Free a → Free b → ((a ++ 47 :: x) <+: (b ++ 47 :: y) ↔ a = b ∧ x <+: y)
  | [], [], x, y, _, _ => by simp
  | [], d :: b, x, y, _, hb => by
    have := (free_cons.mp hb).1
    simp [List.cons_prefix_cons, this.symm]
  | c :: a, [], x, y, ha, _ => by
    have := (free_cons.mp ha).1
    simp [List.cons_prefix_cons, this]
  | c :: a, d :: b, x, y, ha, hb => by
    simp only [List.cons_append, List.cons_prefix_cons, cut_pre (free_cons.mp ha).2 (free_cons.mp hb).2, List.cons.injEq, and_assoc]
theorem cut_no : ∀ {a b x : List Nat}, Free b → ¬ (a ++ 47 :: x) <+: b
  | _, _, _, hb, h => hb 47 (h.subset (List.mem_append_right _ (List.mem_cons_self ..))) rfl
theorem cut_eq : ∀ {a b x y : List Nat}, Free a → Free b → ((a ++ 47 :: x) = (b ++ 47 :: y) ↔ a = b ∧ x = y)
  | [], [], x, y, _, _ => by simp
  | [], d :: b, x, y, _, hb => by
    have := (free_cons.mp hb).1
    simp
    intro e; exact absurd e.symm this
  | c :: a, [], x, y, ha, _ => by
    have := (free_cons.mp ha).1
    simp [this]
  | c :: a, d :: b, x, y, ha, hb => by
    simp only [List.cons_append, List.cons.injEq, cut_eq (free_cons.mp ha).2 (free_cons.mp hb).2, and_assoc]
theorem free_ne {a b x : List Nat} (ha : Free a) : ¬ a = b ++ 47 :: x := fun e => ha 47 (by rw [e]; exact List.mem_append_right _ (List.mem_cons_self ..)) rfl
theorem ne_free {a b x : List Nat} (ha : Free a) : ¬ b ++ 47 :: x = a := fun e => free_ne ha e.symm
def pathL (K G O : List Nat) : Nat → List Nat
  | 0 => []
  | 1 => [47]
  | 2 => 47 :: K
  | 3 => 47 :: (K ++ 47 :: G)
  | 4 => 47 :: (K ++ 47 :: (G ++ [47]))
  | _ => 47 :: (K ++ 47 :: (G ++ 47 :: O))
def prefL (K G O : List Nat) : Nat → List Nat
  | 0 => [47]
  | 1 => [47]
  | 2 => 47 :: (K ++ [47])
  | 3 => 47 :: (K ++ 47 :: (G ++ [47]))
  | 4 => 47 :: (K ++ 47 :: (G ++ [47]))
  | _ => 47 :: (K ++ 47 :: (G ++ 47 :: (O ++ [47])))
def condL (K G O K' G' O' : List Nat) : Nat → Prop
  | 0 => True
  | 1 => True
  | 2 => K = K'
  | 3 => K = K' ∧ G = G'
  | 4 => K = K' ∧ G = G'
  | _ => K = K' ∧ G = G' ∧ O = O'
theorem list_law {K G O K' G' O' : List Nat} (hK : Free K) (hG : Free G) (hO : Free O) (hK' : Free K') (hG' : Free G') (hO' : Free O') (nK : K ≠ []) (nG : G ≠ []) (nO : O ≠ []) {m j : Nat} (hm : m < 6) (hj : j < 6) :
    (pathL K G O m = pathL K' G' O' j ∨ prefL K G O m <+: pathL K' G' O' j) ↔ m ≤ j ∧ condL K G O K' G' O' m := by
  have hm' : m = 0 ∨ m = 1 ∨ m = 2 ∨ m = 3 ∨ m = 4 ∨ m = 5 := by omega
  have hj' : j = 0 ∨ j = 1 ∨ j = 2 ∨ j = 3 ∨ j = 4 ∨ j = 5 := by omega
  have z : Free [] := fun c h => nomatch h
  rcases hm' with rfl | rfl | rfl | rfl | rfl | rfl <;> rcases hj' with rfl | rfl | rfl | rfl | rfl | rfl
  all_goals simp only [pathL, prefL, condL, List.cons.injEq, true_and, List.cons_prefix_cons, cut_pre hK hK', cut_pre hG hG', cut_pre hO hO', cut_eq hK hK', cut_eq hG hG', cut_eq hO hO', cut_no hK', cut_no hG', cut_no hO', free_ne hK, free_ne hG, free_ne hO, ne_free hK', ne_free hG', ne_free hO', cut_no z, List.nil_prefix, List.prefix_nil, Nat.le_refl, and_true, or_true, or_false, false_or, true_or, and_false, reduceCtorEq]
  all_goals simp_all
end Mine

/-! part S3 -/
namespace Mine

set_option maxHeartbeats 2000000
theorem slash_list : (Str.ofString "/").cps.toList = [47] := by decide +kernel
theorem none_list : (Str.ofString "").cps.toList = [] := by decide +kernel
theorem path_list (ki gr ot : Str) {m : Nat} (hm : m < 6) : (pathF ki gr ot m).cps.toList = pathL ki.cps.toList gr.cps.toList ot.cps.toList m := by
  have hm' : m = 0 ∨ m = 1 ∨ m = 2 ∨ m = 3 ∨ m = 4 ∨ m = 5 := by omega
  rcases hm' with rfl | rfl | rfl | rfl | rfl | rfl
  all_goals simp only [pathF, pathL, app_list, slash_list, none_list, List.cons_append, List.nil_append, List.append_assoc]
theorem len_list' (x : Str) : x.cps.toList.length = x.length := by simp [Str.length]
theorem last_is (p : Str) : (Txt.slice p (some (-1)) none = Str.ofString "/") ↔ p.cps.toList.getLast? = some 47 := by
  have e : p.cps.toList.drop (p.length - 1) = p.cps.toList.getLast?.toList := by
    rw [← len_list']
    generalize p.cps.toList = l
    rcases List.eq_nil_or_concat l with rfl | ⟨a, c, rfl⟩
    · rfl
    · simp
  constructor
  · intro h
    have h1 := last_list p
    rw [h, slash_list, e] at h1
    cases hl : p.cps.toList.getLast? with
    | none => rw [hl] at h1; cases h1
    | some c => rw [hl] at h1; simp at h1; rw [h1]
  · intro h
    refine str_eq ?_
    rw [last_list, e, h, slash_list]; rfl
theorem free_last {K : List Nat} (h : Free K) : ¬ K.getLast? = some 47 := fun e => h 47 (List.mem_of_getLast? e) rfl
theorem last_cons {K : List Nat} (n : K ≠ []) (a : Nat) : (a :: K).getLast? = K.getLast? := by
  cases K with
  | nil => exact absurd rfl n
  | cons b r => rfl
theorem last_app {K G : List Nat} (n : G ≠ []) : (K ++ G).getLast? = G.getLast? := by
  rw [List.getLast?_append]
  cases e : G.getLast? with
  | none => exact absurd (List.getLast?_eq_none_iff.mp e) n
  | some c => rfl
theorem pref_list {ki gr ot : Str} (hK : Free ki.cps.toList) (hG : Free gr.cps.toList) (hO : Free ot.cps.toList) (nK : ki.cps.toList ≠ []) (nG : gr.cps.toList ≠ []) (nO : ot.cps.toList ≠ []) {m : Nat} (hm : m < 6) :
    (if Txt.slice (pathF ki gr ot m) (some (-1)) none = Str.ofString "/" then pathF ki gr ot m else pathF ki gr ot m ++ Str.ofString "/").cps.toList = prefL ki.cps.toList gr.cps.toList ot.cps.toList m := by
  have hm' : m = 0 ∨ m = 1 ∨ m = 2 ∨ m = 3 ∨ m = 4 ∨ m = 5 := by omega
  have e := path_list ki gr ot hm
  generalize pathF ki gr ot m = p at e
  generalize ki.cps.toList = K at *
  generalize gr.cps.toList = G at *
  generalize ot.cps.toList = O at *
  have l := last_is p
  rw [e] at l
  rcases hm' with rfl | rfl | rfl | rfl | rfl | rfl
  · rw [if_neg (by rw [l]; exact fun h => nomatch h), app_list, e, slash_list]; rfl
  · rw [if_pos (by rw [l]; rfl), e]; rfl
  · rw [if_neg (by rw [l]; simp only [pathL]; rw [last_cons nK]; exact free_last hK), app_list, e, slash_list]; rfl
  · rw [if_neg (by rw [l]; simp only [pathL]; rw [last_cons (by simp), last_app (by simp), last_cons nG]; exact free_last hG), app_list, e, slash_list]; simp [pathL, prefL]
  · rw [if_pos (by rw [l]; simp only [pathL]; rw [last_cons (by simp), last_app (by simp), last_cons (by simp), last_app (by simp)]; rfl), e]; rfl
  · rw [if_neg (by rw [l]; simp only [pathL]; rw [last_cons (by simp), last_app (by simp), last_cons (by simp), last_app (by simp), last_cons nO]; exact free_last hO), app_list, e, slash_list]; simp [pathL, prefL]
theorem sub_iff {ho ki gr ot ki' gr' ot' : Str} (hK : Free ki.cps.toList) (hG : Free gr.cps.toList) (hO : Free ot.cps.toList) (hK' : Free ki'.cps.toList) (hG' : Free gr'.cps.toList) (hO' : Free ot'.cps.toList) (nK : ki.cps.toList ≠ []) (nG : gr.cps.toList ≠ []) (nO : ot.cps.toList ≠ []) {m j : Nat} (hm : m < 6) (hj : j < 6) :
    subF ho (pathF ki gr ot m) ho (pathF ki' gr' ot' j) = true ↔ m ≤ j ∧ condL ki.cps.toList gr.cps.toList ot.cps.toList ki'.cps.toList gr'.cps.toList ot'.cps.toList m := by
  rw [← list_law hK hG hO hK' hG' hO' nK nG nO hm hj, ← path_list ki gr ot hm, ← path_list ki' gr' ot' hj, ← pref_list hK hG hO nK nG nO hm]
  unfold subF
  by_cases e : pathF ki gr ot m = pathF ki' gr' ot' j
  · rw [if_pos ⟨rfl, e⟩, e]; simp
  · rw [if_neg (fun h => e h.2), if_pos rfl]
    have e' : ¬ (pathF ki gr ot m).cps.toList = (pathF ki' gr' ot' j).cps.toList := fun h => e (str_eq h)
    by_cases s : Txt.slice (pathF ki gr ot m) (some (-1)) none = Str.ofString "/"
    · rw [if_pos s, if_pos s, starts_iff]
      exact ⟨.inr, fun h => h.resolve_left e'⟩
    · rw [if_neg s, if_neg s, starts_iff]
      exact ⟨.inr, fun h => h.resolve_left e'⟩
end Mine

/-! part S4 -/
namespace Mine

set_option maxHeartbeats 2000000
/-- figures within their ranges -/
structure KeyOk (u k g o : Int) : Prop where
  u0 : 0 ≤ u
  u1 : u < 16
  k0 : 0 ≤ k
  k1 : k < 13
  kk : k = 0 ∨ k = 1 ∨ k = 2 ∨ k = 4 ∨ k = 6 ∨ k = 8 ∨ k = 10 ∨ k = 12
  g0 : 0 ≤ g
  g1 : g < 16
  o0 : 0 ≤ o
  o1 : o < 16
/-- short, no slash, code points that are -/
def good (x : Str) : Bool := x.cps.toList.all (fun c => c != 47 && decide (c < 0x110000)) && decide (x.cps.toList.length < 10)
theorem host_good : ∀ a : Fin 16, good (signsF (a.val : Int) 0) = true := by decide +kernel
theorem group_good : ∀ a : Fin 16, (good (dash (signsF (a.val : Int) 1)) && !(dash (signsF (a.val : Int) 1)).cps.toList.isEmpty) = true := by decide +kernel
theorem others_good : ∀ a : Fin 16, (good (dash (signsF (a.val : Int) 2)) && !(dash (signsF (a.val : Int) 2)).cps.toList.isEmpty) = true := by decide +kernel
theorem kind_good : ∀ a : Fin 13, (good (kindS (a.val : Int)) && !(kindS (a.val : Int)).cps.toList.isEmpty) = true := by decide +kernel
theorem host_inj : ∀ a b : Fin 16, (signsF (a.val : Int) 0).cps.toList = (signsF (b.val : Int) 0).cps.toList → a = b := by decide +kernel
theorem group_inj : ∀ a b : Fin 16, (dash (signsF (a.val : Int) 1)).cps.toList = (dash (signsF (b.val : Int) 1)).cps.toList → a = b := by decide +kernel
theorem others_inj : ∀ a b : Fin 16, (dash (signsF (a.val : Int) 2)).cps.toList = (dash (signsF (b.val : Int) 2)).cps.toList → a = b := by decide +kernel
def isKind (k : Nat) : Bool := [0, 1, 2, 4, 6, 8, 10, 12].contains k
theorem kind_inj : ∀ a b : Fin 13, isKind a.val = true → isKind b.val = true → (kindS (a.val : Int)).cps.toList = (kindS (b.val : Int)).cps.toList → a = b := by decide +kernel
theorem fin_of {n : Nat} {x : Int} (h0 : 0 ≤ x) (h1 : x < n) : ∃ a : Fin n, (a.val : Int) = x := ⟨⟨x.toNat, by omega⟩, by show ((x.toNat : Nat) : Int) = x; omega⟩
theorem good_free {x : Str} (h : good x = true) : Free x.cps.toList := by
  unfold good at h
  rw [Bool.and_eq_true, List.all_eq_true] at h
  intro c hc e
  have := h.1 c hc
  rw [e] at this
  exact absurd this (by decide)
theorem good_ok {x : Str} (h : good x = true) : ∀ c ∈ x.cps.toList, c < 0x110000 := by
  unfold good at h
  rw [Bool.and_eq_true, List.all_eq_true] at h
  intro c hc
  have := h.1 c hc
  rw [Bool.and_eq_true, decide_eq_true_eq] at this
  exact this.2
theorem good_len {x : Str} (h : good x = true) : x.cps.toList.length < 10 := by
  unfold good at h
  rw [Bool.and_eq_true, decide_eq_true_eq] at h
  exact h.2
theorem str_ok {x : Str} (h : ∀ c ∈ x.cps.toList, c < 0x110000) : PyData.strOk x = true := by
  unfold PyData.strOk
  rw [Array.all_eq_true']
  intro c hc
  exact decide_eq_true (h c (by simpa using hc))
theorem host_fit {u : Int} (h0 : 0 ≤ u) (h1 : u < 16) : (signsF u 0).length < 10 ∧ PyData.strOk (signsF u 0) = true := by
  obtain ⟨a, rfl⟩ := fin_of (n := 16) h0 h1
  have g := host_good a
  exact ⟨by rw [← len_list']; exact good_len g, str_ok (good_ok g)⟩
theorem ne_nil {α : Type} {l : List α} (h : (!l.isEmpty) = true) : l ≠ [] := by
  intro e; rw [e] at h; cases h
theorem pieces {u k g o : Int} (h : KeyOk u k g o) : (good (kindS k) = true ∧ (kindS k).cps.toList ≠ []) ∧ (good (dash (signsF g 1)) = true ∧ (dash (signsF g 1)).cps.toList ≠ []) ∧ (good (dash (signsF o 2)) = true ∧ (dash (signsF o 2)).cps.toList ≠ []) := by
  obtain ⟨a, ha⟩ := fin_of (n := 13) h.k0 h.k1
  obtain ⟨b, hb⟩ := fin_of (n := 16) h.g0 h.g1
  obtain ⟨c, hc⟩ := fin_of (n := 16) h.o0 h.o1
  rw [← ha, ← hb, ← hc]
  have g1 := kind_good a
  have g2 := group_good b
  have g3 := others_good c
  rw [Bool.and_eq_true] at g1 g2 g3
  exact ⟨⟨g1.1, ne_nil g1.2⟩, ⟨g2.1, ne_nil g2.2⟩, ⟨g3.1, ne_nil g3.2⟩⟩
theorem path_all {P : Nat → Prop} {K G O : List Nat} (h : P 47) (hK : ∀ c ∈ K, P c) (hG : ∀ c ∈ G, P c) (hO : ∀ c ∈ O, P c) {m : Nat} (hm : m < 6) : ∀ c ∈ pathL K G O m, P c := by
  have hm' : m = 0 ∨ m = 1 ∨ m = 2 ∨ m = 3 ∨ m = 4 ∨ m = 5 := by omega
  intro c hc
  rcases hm' with rfl | rfl | rfl | rfl | rfl | rfl
  all_goals simp only [pathL, List.mem_cons, List.mem_append, List.not_mem_nil, or_false] at hc
  · rw [hc]; exact h
  · rcases hc with e | e
    · rw [e]; exact h
    · exact hK c e
  · rcases hc with e | e | e | e
    · rw [e]; exact h
    · exact hK c e
    · rw [e]; exact h
    · exact hG c e
  · rcases hc with e | e | e | e | e
    · rw [e]; exact h
    · exact hK c e
    · rw [e]; exact h
    · exact hG c e
    · rw [e]; exact h
  · rcases hc with e | e | e | e | e | e
    · rw [e]; exact h
    · exact hK c e
    · rw [e]; exact h
    · exact hG c e
    · rw [e]; exact h
    · exact hO c e
theorem path_len {K G O : List Nat} (hK : K.length < 10) (hG : G.length < 10) (hO : O.length < 10) {m : Nat} (hm : m < 6) : (pathL K G O m).length < 100 := by
  have hm' : m = 0 ∨ m = 1 ∨ m = 2 ∨ m = 3 ∨ m = 4 ∨ m = 5 := by omega
  rcases hm' with rfl | rfl | rfl | rfl | rfl | rfl
  all_goals simp only [pathL, List.length_cons, List.length_append, List.length_nil]
  all_goals omega
theorem path_fit {u k g o : Int} (h : KeyOk u k g o) {m : Nat} (hm : m < 6) : (pathF (kindS k) (dash (signsF g 1)) (dash (signsF o 2)) m).length < 100 ∧ PyData.strOk (pathF (kindS k) (dash (signsF g 1)) (dash (signsF o 2)) m) = true := by
  obtain ⟨⟨k1, _⟩, ⟨k2, _⟩, ⟨k3, _⟩⟩ := pieces h
  refine ⟨by rw [← len_list', path_list _ _ _ hm]; exact path_len (good_len k1) (good_len k2) (good_len k3) hm, str_ok ?_⟩
  rw [path_list _ _ _ hm]
  exact path_all (by decide) (good_ok k1) (good_ok k2) (good_ok k3) hm
theorem host_iff {u u' : Int} (h0 : 0 ≤ u) (h1 : u < 16) (h0' : 0 ≤ u') (h1' : u' < 16) : signsF u 0 = signsF u' 0 ↔ u = u' := by
  obtain ⟨a, rfl⟩ := fin_of (n := 16) h0 h1
  obtain ⟨b, rfl⟩ := fin_of (n := 16) h0' h1'
  exact ⟨fun e => by rw [host_inj a b (by rw [e])], fun e => by rw [e]⟩
theorem group_iff {u u' : Int} (h0 : 0 ≤ u) (h1 : u < 16) (h0' : 0 ≤ u') (h1' : u' < 16) : (dash (signsF u 1)).cps.toList = (dash (signsF u' 1)).cps.toList ↔ u = u' := by
  obtain ⟨a, rfl⟩ := fin_of (n := 16) h0 h1
  obtain ⟨b, rfl⟩ := fin_of (n := 16) h0' h1'
  exact ⟨fun e => by rw [group_inj a b e], fun e => by rw [e]⟩
theorem others_iff {u u' : Int} (h0 : 0 ≤ u) (h1 : u < 16) (h0' : 0 ≤ u') (h1' : u' < 16) : (dash (signsF u 2)).cps.toList = (dash (signsF u' 2)).cps.toList ↔ u = u' := by
  obtain ⟨a, rfl⟩ := fin_of (n := 16) h0 h1
  obtain ⟨b, rfl⟩ := fin_of (n := 16) h0' h1'
  exact ⟨fun e => by rw [others_inj a b e], fun e => by rw [e]⟩
theorem isKind_of {k : Nat} (h : (k : Int) = 0 ∨ (k : Int) = 1 ∨ (k : Int) = 2 ∨ (k : Int) = 4 ∨ (k : Int) = 6 ∨ (k : Int) = 8 ∨ (k : Int) = 10 ∨ (k : Int) = 12) : isKind k = true := by
  rcases h with h | h | h | h | h | h | h | h
  · rw [Int.ofNat.inj h]; rfl
  · rw [Int.ofNat.inj h]; rfl
  · rw [Int.ofNat.inj h]; rfl
  · rw [Int.ofNat.inj h]; rfl
  · rw [Int.ofNat.inj h]; rfl
  · rw [Int.ofNat.inj h]; rfl
  · rw [Int.ofNat.inj h]; rfl
  · rw [Int.ofNat.inj h]; rfl
theorem kind_iff {u k g o u' k' g' o' : Int} (h : KeyOk u k g o) (h' : KeyOk u' k' g' o') : (kindS k).cps.toList = (kindS k').cps.toList ↔ k = k' := by
  obtain ⟨a, ha⟩ := fin_of (n := 13) h.k0 h.k1
  obtain ⟨b, hb⟩ := fin_of (n := 13) h'.k0 h'.k1
  have i1 : isKind a.val = true := isKind_of (by rw [ha]; exact h.kk)
  have i2 : isKind b.val = true := isKind_of (by rw [hb]; exact h'.kk)
  rw [← ha, ← hb]
  exact ⟨fun e => by rw [kind_inj a b i1 i2 e], fun e => by rw [e]⟩
theorem law_plain {u k g o u' k' g' o' : Int} (h : KeyOk u k g o) (h' : KeyOk u' k' g' o') {m j : Nat} (hm : m < 6) (hj : j < 6) :
    subF (signsF u 0) (pathF (kindS k) (dash (signsF g 1)) (dash (signsF o 2)) m) (signsF u' 0) (pathF (kindS k') (dash (signsF g' 1)) (dash (signsF o' 2)) j) = decide (m ≤ j ∧ needF m ≤ sameF u k g o u' k' g' o') := by
  have hm' : m = 0 ∨ m = 1 ∨ m = 2 ∨ m = 3 ∨ m = 4 ∨ m = 5 := by omega
  by_cases e : u = u'
  · subst e
    obtain ⟨⟨k1, k2⟩, ⟨k3, k4⟩, ⟨k5, k6⟩⟩ := pieces h
    obtain ⟨⟨q1, q2⟩, ⟨q3, q4⟩, ⟨q5, q6⟩⟩ := pieces h'
    have s := sub_iff (ho := signsF u 0) (good_free k1) (good_free k3) (good_free k5) (good_free q1) (good_free q3) (good_free q5) k2 k4 k6 hm hj
    have c : condL (kindS k).cps.toList (dash (signsF g 1)).cps.toList (dash (signsF o 2)).cps.toList (kindS k').cps.toList (dash (signsF g' 1)).cps.toList (dash (signsF o' 2)).cps.toList m ↔ needF m ≤ sameF u k g o u k' g' o' := by
      have i1 := kind_iff h h'
      have i2 := group_iff h.g0 h.g1 h'.g0 h'.g1
      have i3 := others_iff h.o0 h.o1 h'.o0 h'.o1
      unfold sameF
      rw [if_pos rfl]
      rcases hm' with rfl | rfl | rfl | rfl | rfl | rfl
      all_goals simp only [condL, needF, i1, i2, i3]
      all_goals (by_cases a1 : k = k' <;> by_cases a2 : g = g' <;> by_cases a3 : o = o' <;> simp [a1, a2, a3])
    rw [Bool.eq_iff_iff, s, c, decide_eq_true_eq]
  · have e1 : ¬ signsF u 0 = signsF u' 0 := fun x => e ((host_iff h.u0 h.u1 h'.u0 h'.u1).mp x)
    have l : subF (signsF u 0) (pathF (kindS k) (dash (signsF g 1)) (dash (signsF o 2)) m) (signsF u' 0) (pathF (kindS k') (dash (signsF g' 1)) (dash (signsF o' 2)) j) = false := by
      unfold subF
      rw [if_neg (fun x => e1 x.1), if_neg e1]
    have r : ¬ (m ≤ j ∧ needF m ≤ sameF u k g o u' k' g' o') := by
      unfold sameF
      rw [if_neg e]
      rcases hm' with rfl | rfl | rfl | rfl | rfl | rfl <;> simp [needF]
    rw [l, decide_eq_false r]
end Mine

/-! part S5 -/
namespace Mine

set_option maxHeartbeats 2000000
theorem part_list {x : Str} (hx : x.length = 10) {k : Int} {d : Nat} (hd : d < 8) (hk : k + 10 = (d : Int)) (hk0 : k < 0) : (part x k).cps.toList = ((x.cps.toList.drop d).take 3).filter (· != 45) := by
  have e : Txt.slice x (some k) none = Txt.slice x (some (d : Int)) none := by
    rw [slice_lo hk0 (by omega), hx]
    exact congrArg (fun z => Txt.slice x (some z) none) (by omega)
  have e1 : (Txt.slice x (some k) none).cps.toList = x.cps.toList.drop d := by rw [e]; exact from_list (by omega)
  have e2 : (Txt.slice x (some k) none).length = 10 - d := by
    have : (Txt.slice x (some k) none).cps.toList.length = (Txt.slice x (some k) none).length := by simp [Str.length]
    rw [← this, e1, List.length_drop]
    have : x.cps.toList.length = x.length := by simp [Str.length]
    omega
  rw [part, strike_list]
  have e3 : (Txt.slice (Txt.slice x (some k) none) none (some 3)).cps.toList = (Txt.slice x (some k) none).cps.toList.take 3 := to_list (i := 3) (by omega)
  rw [e3, e1]
theorem kind_list {x : Str} (hx : x.length = 10) : (Txt.slice x none (some (-9))).cps.toList = x.cps.toList.take 1 := by
  have e : Txt.slice x none (some (-9)) = Txt.slice x none (some ((1 : Nat) : Int)) := by
    rw [slice_hi (by decide) (by omega), hx]
    rfl
  rw [e]; exact to_list (by omega)
theorem cut_list (n : Int) : (part (fileF n) (-9)).cps.toList = ((chAt n 1).cps.toList ++ ((chAt n 2).cps.toList ++ (chAt n 3).cps.toList)).filter (· != 45) ∧ (part (fileF n) (-6)).cps.toList = ((chAt n 4).cps.toList ++ ((chAt n 5).cps.toList ++ (chAt n 6).cps.toList)).filter (· != 45) ∧
    (part (fileF n) (-3)).cps.toList = ((chAt n 7).cps.toList ++ ((chAt n 8).cps.toList ++ (chAt n 9).cps.toList)).filter (· != 45) ∧ (Txt.slice (fileF n) none (some (-9))).cps.toList = (chAt n 0).cps.toList := by
  have hl := fileF_len n
  refine ⟨?_, ?_, ?_, ?_⟩
  · rw [part_list hl (d := 1) (by decide) (by decide) (by decide)]
    obtain ⟨c0, c1, c2, c3, c4, c5, c6, c7, c8, c9, e, h0, h1, h2, h3, h4, h5, h6, h7, h8, h9⟩ := fileF_is n
    rw [e, h1, h2, h3]; rfl
  · rw [part_list hl (d := 4) (by decide) (by decide) (by decide)]
    obtain ⟨c0, c1, c2, c3, c4, c5, c6, c7, c8, c9, e, h0, h1, h2, h3, h4, h5, h6, h7, h8, h9⟩ := fileF_is n
    rw [e, h4, h5, h6]; rfl
  · rw [part_list hl (d := 7) (by decide) (by decide) (by decide)]
    obtain ⟨c0, c1, c2, c3, c4, c5, c6, c7, c8, c9, e, h0, h1, h2, h3, h4, h5, h6, h7, h8, h9⟩ := fileF_is n
    rw [e, h7, h8, h9]; rfl
  · rw [kind_list hl]
    obtain ⟨c0, c1, c2, c3, c4, c5, c6, c7, c8, c9, e, h0, h1, h2, h3, h4, h5, h6, h7, h8, h9⟩ := fileF_is n
    rw [e, h0]; rfl
theorem test_nat (k : Nat) {i m : Nat} (hi : i ≠ 0) : testAt (k : Int) i (m : Int) = decide (k &&& m = m) := by
  unfold testAt
  rw [if_neg hi, bitAnd_pp (Int.natCast_nonneg k) (Int.natCast_nonneg m), Int.toNat_natCast, Int.toNat_natCast]
  by_cases e : k &&& m = m
  · rw [e]; simp
  · rw [decide_eq_false e, beq_eq_false_iff_ne]
    exact fun h => e (by exact_mod_cast h)
theorem mask {k m : Nat} (hm : m < 4096) : (k &&& m = m) ↔ ∀ i : Fin 12, m.testBit i.val = true → k.testBit i.val = true := by
  constructor
  · intro h i hi
    have e := congrArg (fun z => z.testBit i.val) h
    simp only [Nat.testBit_and, hi, Bool.and_true] at e
    exact e
  · intro h
    apply Nat.eq_of_testBit_eq
    intro i
    rw [Nat.testBit_and]
    by_cases hi : i < 12
    · cases e : m.testBit i with
      | true => rw [h ⟨i, hi⟩ e]; rfl
      | false => rw [Bool.and_false]
    · have e : m.testBit i = false := Nat.testBit_lt_two_pow (Nat.lt_of_lt_of_le hm (Nat.pow_le_pow_right (n := 2) (by decide) (show 12 ≤ i by omega)))
      rw [e, Bool.and_false]
theorem one_bit (k p m : Nat) (hp : p < 12) (hm : m < 4096) (d : ∀ i : Fin 12, m.testBit i.val = true ↔ i.val = p) : decide (k &&& m = m) = k.testBit p := by
  rw [Bool.eq_iff_iff, decide_eq_true_eq, mask hm]
  exact ⟨fun h => h ⟨p, hp⟩ ((d _).mpr rfl), fun h i hi => by rw [(d i).mp hi]; exact h⟩
theorem two_bits (k p q m : Nat) (hp : p < 12) (hq : q < 12) (hm : m < 4096) (d : ∀ i : Fin 12, m.testBit i.val = true ↔ i.val = p ∨ i.val = q) : decide (k &&& m = m) = (k.testBit p && k.testBit q) := by
  rw [Bool.eq_iff_iff, decide_eq_true_eq, mask hm, Bool.and_eq_true]
  refine ⟨fun h => ⟨h ⟨p, hp⟩ ((d _).mpr (.inl rfl)), h ⟨q, hq⟩ ((d _).mpr (.inr rfl))⟩, fun h i hi => ?_⟩
  rcases (d i).mp hi with e | e
  · rw [e]; exact h.1
  · rw [e]; exact h.2
def chR (t : Bool) : Str := if t then Str.ofString "r" else Str.ofString "-"
def chW (t : Bool) : Str := if t then Str.ofString "w" else Str.ofString "-"
def chX (c : Nat) (x s : Bool) : Str := if s && x then (if c < 2 then Str.ofString "s" else Str.ofString "t") else if s then (if c < 2 then Str.ofString "S" else Str.ofString "T") else if x then Str.ofString "x" else Str.ofString "-"
theorem ch_r (k i p m : Nat) (hi : i ≠ 0) (hr : rowsAt i = [(((m : Nat) : Int), Str.ofString "r")]) (hp : p < 12) (hm : m < 4096) (d : ∀ j : Fin 12, m.testBit j.val = true ↔ j.val = p) : chAt (k : Int) i = chR (k.testBit p) := by
  unfold chAt noneAt
  rw [hr, if_neg hi]
  show (if testAt (k : Int) i (m : Int) = true then _ else _) = _
  rw [test_nat k hi, one_bit k p m hp hm d]; rfl
theorem ch_w (k i p m : Nat) (hi : i ≠ 0) (hr : rowsAt i = [(((m : Nat) : Int), Str.ofString "w")]) (hp : p < 12) (hm : m < 4096) (d : ∀ j : Fin 12, m.testBit j.val = true ↔ j.val = p) : chAt (k : Int) i = chW (k.testBit p) := by
  unfold chAt noneAt
  rw [hr, if_neg hi]
  show (if testAt (k : Int) i (m : Int) = true then _ else _) = _
  rw [test_nat k hi, one_bit k p m hp hm d]; rfl
theorem ch_x (k i c p q m m1 m2 : Nat) (hi : i ≠ 0) (hr : rowsAt i = [(((m : Nat) : Int), if c < 2 then Str.ofString "s" else Str.ofString "t"), (((m1 : Nat) : Int), if c < 2 then Str.ofString "S" else Str.ofString "T"), (((m2 : Nat) : Int), Str.ofString "x")])
    (hp : p < 12) (hq : q < 12) (hm : m < 4096) (hm1 : m1 < 4096) (hm2 : m2 < 4096) (d : ∀ j : Fin 12, m.testBit j.val = true ↔ j.val = p ∨ j.val = q) (d1 : ∀ j : Fin 12, m1.testBit j.val = true ↔ j.val = p) (d2 : ∀ j : Fin 12, m2.testBit j.val = true ↔ j.val = q) :
    chAt (k : Int) i = chX c (k.testBit q) (k.testBit p) := by
  unfold chAt noneAt
  rw [hr, if_neg hi]
  show (if testAt (k : Int) i (m : Int) = true then _ else if testAt (k : Int) i (m1 : Int) = true then _ else if testAt (k : Int) i (m2 : Int) = true then _ else _) = _
  rw [test_nat k hi, test_nat k hi, test_nat k hi, two_bits k p q m hp hq hm d, one_bit k p m1 hp hm1 d1, one_bit k q m2 hq hm2 d2]; rfl
theorem three : ∀ (c : Fin 3) (r w x s : Bool), ((chR r).cps.toList ++ ((chW w).cps.toList ++ (chX c.val x s).cps.toList)).filter (· != 45) = (signsF ((4 * r.toNat + 2 * w.toNat + x.toNat + 8 * s.toNat : Nat) : Int) (c.val : Int)).cps.toList := by decide +kernel
theorem bit_nat (k p : Nat) : (k.testBit p).toNat = k / 2 ^ p % 2 := by
  rw [Nat.testBit_eq_decide_div_mod_eq]
  have h : k / 2 ^ p % 2 = 0 ∨ k / 2 ^ p % 2 = 1 := by omega
  rcases h with h | h <;> rw [h] <;> rfl
end Mine

/-! part S6 -/
namespace Mine

set_option maxHeartbeats 2000000
theorem user_sig (k : Nat) : part (fileF (k : Int)) (-9) = signsF (userK (k : Int)) 0 := by
  refine str_eq ?_
  rw [(cut_list k).1, ch_r k 1 8 256 (by decide) rfl (by decide) (by decide) (by decide), ch_w k 2 7 128 (by decide) rfl (by decide) (by decide) (by decide), ch_x k 3 0 11 6 2112 2048 64 (by decide) rfl (by decide) (by decide) (by decide) (by decide) (by decide) (by decide) (by decide) (by decide)]
  rw [three ⟨0, by decide⟩]
  have e : ((4 * (k.testBit 8).toNat + 2 * (k.testBit 7).toNat + (k.testBit 6).toNat + 8 * (k.testBit 11).toNat : Nat) : Int) = userK (k : Int) := by
    unfold userK
    rw [bit_nat, bit_nat, bit_nat, bit_nat, Int.fdiv_eq_ediv_of_nonneg _ (by decide), Int.fdiv_eq_ediv_of_nonneg _ (by decide), Int.fdiv_eq_ediv_of_nonneg _ (by decide), Int.fmod_eq_emod_of_nonneg _ (by decide)]
    omega
  rw [e]; rfl
theorem group_sig (k : Nat) : part (fileF (k : Int)) (-6) = signsF (groupK (k : Int)) 1 := by
  refine str_eq ?_
  rw [(cut_list k).2.1, ch_r k 4 5 32 (by decide) rfl (by decide) (by decide) (by decide), ch_w k 5 4 16 (by decide) rfl (by decide) (by decide) (by decide), ch_x k 6 1 10 3 1032 1024 8 (by decide) rfl (by decide) (by decide) (by decide) (by decide) (by decide) (by decide) (by decide) (by decide)]
  rw [three ⟨1, by decide⟩]
  have e : ((4 * (k.testBit 5).toNat + 2 * (k.testBit 4).toNat + (k.testBit 3).toNat + 8 * (k.testBit 10).toNat : Nat) : Int) = groupK (k : Int) := by
    unfold groupK
    rw [bit_nat, bit_nat, bit_nat, bit_nat, Int.fdiv_eq_ediv_of_nonneg _ (by decide), Int.fdiv_eq_ediv_of_nonneg _ (by decide), Int.fdiv_eq_ediv_of_nonneg _ (by decide), Int.fmod_eq_emod_of_nonneg _ (by decide), Int.fmod_eq_emod_of_nonneg _ (by decide)]
    omega
  rw [e]; rfl
theorem others_sig (k : Nat) : part (fileF (k : Int)) (-3) = signsF (othersK (k : Int)) 2 := by
  refine str_eq ?_
  rw [(cut_list k).2.2.1, ch_r k 7 2 4 (by decide) rfl (by decide) (by decide) (by decide), ch_w k 8 1 2 (by decide) rfl (by decide) (by decide) (by decide), ch_x k 9 2 9 0 513 512 1 (by decide) rfl (by decide) (by decide) (by decide) (by decide) (by decide) (by decide) (by decide) (by decide)]
  rw [three ⟨2, by decide⟩]
  have e : ((4 * (k.testBit 2).toNat + 2 * (k.testBit 1).toNat + (k.testBit 0).toNat + 8 * (k.testBit 9).toNat : Nat) : Int) = othersK (k : Int) := by
    unfold othersK
    rw [bit_nat, bit_nat, bit_nat, bit_nat, Int.fdiv_eq_ediv_of_nonneg _ (by decide), Int.fmod_eq_emod_of_nonneg _ (by decide), Int.fmod_eq_emod_of_nonneg _ (by decide)]
    omega
  rw [e]; rfl
theorem kind_all : ∀ q : Fin 16, pick (fun b => ((q.val : Int) * 4096 == b)) (Str.ofString "?") (rowsAt 0) = kindS (if ([1, 2, 4, 6, 8, 10, 12].any fun x => x == (q.val : Int)) = true then (q.val : Int) else 0) := by decide +kernel
theorem kind_sig (k : Nat) (hk : k < 65536) : Txt.slice (fileF (k : Int)) none (some (-9)) = kindS (kindK (k : Int)) := by
  refine str_eq ?_
  rw [(cut_list k).2.2.2]
  have e : chAt (k : Int) 0 = kindS (kindK (k : Int)) := by
    have h := kind_all ⟨k / 4096, by omega⟩
    have e1 : (((k / 4096 : Nat)) : Int) = (k : Int) / 4096 := by omega
    have e2 : (k : Int).fdiv 4096 = (k : Int) / 4096 := Int.fdiv_eq_ediv_of_nonneg _ (by decide)
    unfold kindK
    rw [e2, ← e1]
    rw [← h]
    unfold chAt
    have e3 : testAt (k : Int) 0 = fun b => (((k / 4096 : Nat) : Int) * 4096 == b) := by
      funext b
      unfold testAt
      rw [if_pos rfl, e1]
    rw [e3]; rfl
  rw [e]
theorem spelled_eq (n : Int) (h0 : 0 ≤ n) (h1 : n < 65536) : part (fileF n) (-9) = signsF (userK n) 0 ∧ Txt.slice (fileF n) none (some (-9)) = kindS (kindK n) ∧ part (fileF n) (-6) = signsF (groupK n) 1 ∧ part (fileF n) (-3) = signsF (othersK n) 2 := by
  obtain ⟨k, rfl⟩ := Int.eq_ofNat_of_zero_le h0
  exact ⟨user_sig k, kind_sig k (by omega), group_sig k, others_sig k⟩
end Mine

/-! part M2 -/
namespace Mine

/-- the addresses of a mode's figures -/
abbrev AddrK (u k g o : Int) : Value → List (Addr × Obj) → Prop := AddrAre (signsF u 0) (kindS k) (dash (signsF g 1)) (dash (signsF o 2))
theorem spelled_says2 (w : World) (mean : ExcName → Option Value) (mg mb : Str → Option Value) (n : Int) (t : Tok) (h0 : 0 ≤ n) (h1 : n < 65536) :
    SaysL w mean mg mb 135 3 100 [.int n t] (fun _ => True) (AddrK (userK n) (kindK n) (groupK n) (othersK n)) := by
  have e := spelled_says w mean mg mb n t h0 h1
  obtain ⟨e1, e2, e3, e4⟩ := spelled_eq n h0 h1
  rw [e1, e2, e3, e4] at e
  exact e
theorem keys_ok (n : Int) (h0 : 0 ≤ n) (h1 : n < 65536) : KeyOk (userK n) (kindK n) (groupK n) (othersK n) := by
  have e8 : ∀ x : Int, x.fmod 8 = x % 8 := fun x => Int.fmod_eq_emod_of_nonneg x (by decide)
  have e2 : ∀ x : Int, x.fmod 2 = x % 2 := fun x => Int.fmod_eq_emod_of_nonneg x (by decide)
  have d : ∀ (x y : Int), 0 ≤ y → x.fdiv y = x / y := fun x y hy => Int.fdiv_eq_ediv_of_nonneg x hy
  have hk : kindK n = 0 ∨ kindK n = 1 ∨ kindK n = 2 ∨ kindK n = 4 ∨ kindK n = 6 ∨ kindK n = 8 ∨ kindK n = 10 ∨ kindK n = 12 := by
    unfold kindK
    split
    · rename_i h
      simp only [List.any_cons, List.any_nil, Bool.or_false, Bool.or_eq_true, beq_iff_eq] at h
      omega
    · exact .inl rfl
  refine ⟨?_, ?_, by omega, by omega, hk, ?_, ?_, ?_, ?_⟩
  all_goals first | unfold userK | unfold groupK | unfold othersK
  all_goals simp only [e8, e2, d _ 64 (by decide), d _ 512 (by decide), d _ 4 (by decide), d _ 8 (by decide), d _ 2 (by decide)]
  all_goals omega
theorem news_behind {h₀ h : Heap} {L : Addr} {a b : List (Addr × Obj)} (N : News h₀ L h (a ++ b)) : News h₀ L h (b ++ a) := fun p hp => N p (by
  rcases List.mem_append.mp hp with hp | hp
  · exact List.mem_append_right _ hp
  · exact List.mem_append_left _ hp)
theorem suburi_says2 (w : World) (mean : ExcName → Option Value) (mg mb : Str → Option Value) (mg' r r' : Addr) {u k g o u' k' g' o' : Int} (h : KeyOk u k g o) (h' : KeyOk u' k' g' o') {m j : Nat} (hm : m < 6) (hj : j < 6) (t1 t2 t3 t4 : Tok) :
    SaysL w mean mg mb 64 1 200 [.ref mg', .ref r, .ref r'] (fun hp => hp.get? r = some (tupS (signsF u 0) t1 (pathF (kindS k) (dash (signsF g 1)) (dash (signsF o 2)) m) t2) ∧ hp.get? r' = some (tupS (signsF u' 0) t3 (pathF (kindS k') (dash (signsF g' 1)) (dash (signsF o' 2)) j) t4))
      (fun v _ => v = .bool (decide (m ≤ j ∧ needF m ≤ sameF u k g o u' k' g' o'))) := by
  have e := suburi_says w mean mg mb mg' r r' _ _ _ _ t1 t2 t3 t4 (host_fit h.u0 h.u1).1 (path_fit h hm).1 (host_fit h'.u0 h'.u1).1 (path_fit h' hj).1 (host_fit h.u0 h.u1).2 (path_fit h hm).2 (host_fit h'.u0 h'.u1).2 (path_fit h' hj).2
  rw [law_plain h h' hm hj] at e
  exact e
end Mine

/-! part L1 -/
namespace Mine

theorem fr_set {h₀ h : Heap} {L : Addr} {m₁ : Str → Option Value} (x : Str) {a : Option Value} (F : Fr h₀ L h m₁) (hx : m₁ x = a) : Fr h₀ L h (fun y => if y = x then a else m₁ y) := by
  have e : m₁ = fun y => if y = x then a else m₁ y := by
    funext y
    by_cases h1 : y = x
    · rw [if_pos h1, h1, hx]
    · rw [if_neg h1]
  rw [← e]; exact F
theorem fr3 {h₀ h : Heap} {L : Addr} {m₁ : Str → Option Value} (x y z : Str) {a b c : Option Value} (F : Fr h₀ L h m₁) (hx : m₁ x = a) (hy : m₁ y = b) (hz : m₁ z = c) :
    Fr h₀ L h (fun q => if q = x then a else if q = y then b else if q = z then c else m₁ q) := by
  have e : m₁ = fun q => if q = x then a else if q = y then b else if q = z then c else m₁ q := by
    funext q
    by_cases h1 : q = x
    · rw [if_pos h1, h1, hx]
    · rw [if_neg h1]
      by_cases h2 : q = y
      · rw [if_pos h2, h2, hy]
      · rw [if_neg h2]
        by_cases h3 : q = z
        · rw [if_pos h3, h3, hz]
        · rw [if_neg h3]
  rw [← e]; exact F
/-- what stands while the modes are made -/
def JM (nd mgr : Addr) (src : Addr × Obj) (tail : List (Addr × Obj)) (i : Nat) (m₁ : Str → Option Value) (news₁ : List (Addr × Obj)) : Prop :=
  m₁ (Str.ofString "needed") = some (.ref nd) ∧ m₁ (Str.ofString "manager") = some (.ref mgr) ∧ ∃ (l : Addr) (vs : List Value) (ns : List Int) (k : Nat), m₁ (Str.ofString "modes") = some (.ref l) ∧
    news₁ = src :: (l, W.listOf vs.toArray k) :: tail ∧ IntsAre vs ns ∧ (∀ n ∈ ns, 0 ≤ n ∧ n < 65536) ∧ ns.length = 4 + 2 * i
theorem fr4 {h₀ h : Heap} {L : Addr} {m₁ : Str → Option Value} (x y z w : Str) {a b c d : Option Value} (F : Fr h₀ L h m₁) (hx : m₁ x = a) (hy : m₁ y = b) (hz : m₁ z = c) (hw : m₁ w = d) :
    Fr h₀ L h (fun q => if q = x then a else if q = y then b else if q = z then c else if q = w then d else m₁ q) := by
  have e : m₁ = fun q => if q = x then a else if q = y then b else if q = z then c else if q = w then d else m₁ q := by
    funext q
    by_cases h1 : q = x
    · rw [if_pos h1, h1, hx]
    · rw [if_neg h1]
      by_cases h2 : q = y
      · rw [if_pos h2, h2, hy]
      · rw [if_neg h2]
        by_cases h3 : q = z
        · rw [if_pos h3, h3, hz]
        · rw [if_neg h3]
          by_cases h4 : q = w
          · rw [if_pos h4, h4, hw]
          · rw [if_neg h4]
  rw [← e]; exact F
theorem item_need {prog : Program} {w : World} {A : Around} {E : Value → Shared → Prop} {s : Shared} {value slice : Expr} {l : Addr} {t0 t1 t2 t3 t4 t5 u : Tok} {m : Nat} {Q : Value → Shared → Prop} (hl : s.heap.IsList l #[Value.int 1 t0, Value.int 1 t1, Value.int 2 t2, Value.int 3 t3, Value.int 3 t4, Value.int 4 t5]) (hm : m < 6) (h : ∀ t, Q (.int (needF m) t) s)
    (hs : subscripted slice false (.ref l) (.int (m : Int) u) = operate [.ref l, .int (m : Int) u] (getItem (.ref l) (.int (m : Int) u)) := by with_unfolding_all rfl) (hg : ∀ r, letTemporaryGo value (.ref l) r = pure () := by intro _; with_unfolding_all rfl) :
    wpAny (model prog w) A (subscriptTail value slice (.ref l) (.int (m : Int) u)) Q E s := by
  obtain ⟨t, e⟩ := need_open (t0 := t0) (t1 := t1) (t2 := t2) (t3 := t3) (t4 := t4) (t5 := t5) m hm
  exact item_at hl (ItAt.nat (by omega) e) (h t) hs hg
theorem sub_cons {α : Type} {a : α} {x y : List α} (h : ∀ p ∈ x, p ∈ y) : ∀ p ∈ a :: x, p ∈ a :: y := fun p hp => by
  rcases List.mem_cons.mp hp with e | hp
  · rw [e]; exact List.mem_cons_self ..
  · exact List.mem_cons_of_mem _ (h p hp)
def over : List (Str × Option Value) → (Str → Option Value) → Str → Option Value
  | [], m => m
  | p :: r, m => fun q => if q = p.1 then p.2 else over r m q
def Holds (m : Str → Option Value) : List (Str × Option Value) → Prop
  | [] => True
  | p :: r => m p.1 = p.2 ∧ Holds m r
theorem over_is {m : Str → Option Value} : ∀ {ps : List (Str × Option Value)}, Holds m ps → over ps m = m
  | [], _ => rfl
  | p :: r, h => by
    funext q
    show (if q = p.1 then p.2 else over r m q) = m q
    by_cases e : q = p.1
    · rw [if_pos e, e]; exact h.1.symm
    · rw [if_neg e, over_is h.2]
theorem fr_over {h₀ h : Heap} {L : Addr} {m₁ : Str → Option Value} (ps : List (Str × Option Value)) (F : Fr h₀ L h m₁) (hp : Holds m₁ ps) : Fr h₀ L h (over ps m₁) := by
  rw [over_is hp]; exact F
def JG (ps : List (Str × Option Value)) (nw : List (Addr × Obj)) (m₁ : Str → Option Value) (news₁ : List (Addr × Obj)) : Prop := Holds m₁ ps ∧ news₁ = nw
def JL (kD l nd mgr : Addr) (nw : List (Addr × Obj)) (m₁ : Str → Option Value) (news₁ : List (Addr × Obj)) : Prop :=
  m₁ (Str.ofString "keys") = some (.ref kD) ∧ m₁ (Str.ofString "modes") = some (.ref l) ∧ m₁ (Str.ofString "needed") = some (.ref nd) ∧ m₁ (Str.ofString "manager") = some (.ref mgr) ∧ news₁ = nw
/-- the keys made so far -/
def KL (ns : List Int) (i : Nat) (ys : List Value) (tl : List (Addr × Obj)) : Prop :=
  ys.length = i ∧ ∀ (j : Nat) (n : Int), j < i → ns[j]? = some n → ∃ (r : Addr) (t u x y : Tok), ys[j]? = some (.ref r) ∧ (r, list4 (userK n) (kindK n) (groupK n) (othersK n) t u x y) ∈ tl
theorem KL.nil {ns : List Int} : KL ns 0 [] [] := ⟨rfl, fun j n hj => absurd hj (Nat.not_lt_zero _)⟩
theorem KL.snoc {ns : List Int} {i : Nat} {ys : List Value} {tl tl9 : List (Addr × Obj)} {n : Int} {v : Value} (h : KL ns i ys tl) (hn : ns[i]? = some n) (k : KeysAre n v tl9) : KL ns (i + 1) (ys ++ [v]) (tl9 ++ tl) := by
  obtain ⟨l, k', t, u, x, y, rfl, rfl, rfl⟩ := k
  refine ⟨by rw [List.length_append, h.1]; rfl, fun j n' hj hn' => ?_⟩
  by_cases e : j < i
  · obtain ⟨r, t, u, x, y, h1, h2⟩ := h.2 j n' e hn'
    exact ⟨r, t, u, x, y, by rw [List.getElem?_append_left (by rw [h.1]; exact e)]; exact h1, List.mem_append_right _ h2⟩
  · have ej : j = i := by omega
    subst ej
    rw [hn] at hn'
    have e2 : n = n' := Option.some.inj hn'
    subst e2
    exact ⟨l, t, u, x, y, by rw [← h.1, List.getElem?_append_right (Nat.le_refl _), Nat.sub_self]; rfl, List.mem_cons_self ..⟩
/-- what stands at the head of a turn -/
theorem turn_facts {vs ys : List Value} {ns : List Int} {tl : List (Addr × Obj)} {i : Nat} (j4 : IntsAre vs ns) (j5 : ∀ n ∈ ns, 0 ≤ n ∧ n < 65536) (hK : KL ns vs.toArray.size ys tl) (hi : i < ns.length) (hns : ns.length ≤ 12) :
    ∃ (n n' : Int) (tv : Tok) (r r' : Addr) (ta tb tc td te tf tg th : Tok), 0 ≤ n ∧ n < 65536 ∧ 0 ≤ n' ∧ n' < 65536 ∧ ItAt vs.toArray ((i : Int) - 1) (.int n tv) ∧ ItAt ys.toArray ((i : Int) - 1) (.ref r) ∧ ItAt ys.toArray (i : Int) (.ref r') ∧
      (r, list4 (userK n) (kindK n) (groupK n) (othersK n) ta tb tc td) ∈ tl ∧ (r', list4 (userK n') (kindK n') (groupK n') (othersK n') te tf tg th) ∈ tl := by
  have hvs : vs.toArray.size = ns.length := by rw [List.size_toArray, j4.length]
  have hys : ys.toArray.size = ns.length := by rw [List.size_toArray, hK.1, hvs]
  have hp : (i + ns.length - 1) % ns.length < ns.length := Nat.mod_lt _ (by omega)
  have e1 := List.getElem?_eq_getElem hp
  have e2 := List.getElem?_eq_getElem hi
  obtain ⟨tv, hv⟩ := j4.get _ _ e1
  obtain ⟨r, ta, tb, tc, td, h1, h2⟩ := hK.2 _ _ (by rw [hvs]; exact hp) e1
  obtain ⟨r', te, tf, tg, th, h3, h4⟩ := hK.2 _ _ (by rw [hvs]; exact hi) e2
  obtain ⟨b0, b1⟩ := j5 _ (List.mem_of_getElem? e1)
  obtain ⟨c0, c1⟩ := j5 _ (List.mem_of_getElem? e2)
  refine ⟨_, _, tv, r, r', ta, tb, tc, td, te, tf, tg, th, b0, b1, c0, c1, ItAt.pred (by rw [hvs]; exact hi) (by rw [hvs]; omega) ?_, ItAt.pred (by rw [hys]; exact hi) (by rw [hys]; omega) ?_, ItAt.nat (by omega) ?_, h2, h4⟩
  · rw [hvs, List.getElem?_toArray]; exact hv
  · rw [hys, List.getElem?_toArray]; exact h1
  · rw [List.getElem?_toArray]; exact h3
end Mine
open Mine
local macro_rules | `(tactic| walk_at "call ref") => `(tactic| (k_here; (with_reducible show wpAny _ _ (call (Value.ref 170) [Value.int _ _, Value.int _ _]) _ _ _); k_dflt (refine' says_use0 (next_says _ _ _ _ _ _ _ _ ?p0 ?p1 ?p2 ?p3) ?k1 ?k2 ?k3 ?k4 ?k5 ?kK ?kp ?kd ?ku ?_; (case p0 => assumption); (case p1 => assumption); (case p2 => assumption); (case p3 => assumption); (case k1 => k_asm); (case k2 => k_asm); (case k3 => k_asm); (case k4 => k_asm); (case k5 => k_asm); (case kK => exact Eq.refl _); (case kp => trivial); (case kd => ktr_room); (case ku => ktr_units)); intro v9 h9 tk9 F9 N9 r9; obtain ⟨r9, t9, e9, l9, q9⟩ := r9; subst e9; (try dsimp only)))
local macro_rules | `(tactic| k_all) => `(tactic| assumption)
theorem PySem.Challenge.cw_nq0085_01_holds : PySem.Challenge.rw_nq0085_01.Holds := by
  refine Mine.hd ?_
  w_top off
  k_go0
  all_goals try k_fold
  repeat ((fail_if_success (with_reducible show wpAny _ _ (exec (Stmt.For _ _ _ _ _) _) _ _ _)); (first | (k_unfold; (try dsimp only)) | walk1 | (dsimp only; walk1)))
  (with_unfolding_all refine' wpAny_For ?_ ?hsFor; (case hsFor => intro _; rfl))
  k_steps
  rename IntsAre _ (List.take 4 _) => hI4
  refine listLoop (by rfl) (by k_asm) (by k_asm) (List.mem_cons_self ..) (JM _ _ _ _) ⟨by with_unfolding_all rfl, by with_unfolding_all rfl, _, _, [16421, 16429, 16877, 33261], 0, by with_unfolding_all rfl, rfl, by repeat constructor, by decide, rfl⟩ ?_ ?_ ?_
  · rintro i m news ⟨_, _, l, vs, ns, k, _, rfl, _⟩
    exact List.mem_cons_self ..
  · intro I oI i v m₁ news₁ h₁ tk₁ hv hJ hn F₁ N₁
    obtain ⟨j1, j2, l, vs, ns, k, j3, rfl, j4, j5, j6⟩ := hJ
    have F₂ := fr3 (Str.ofString "modes") (Str.ofString "needed") (Str.ofString "manager") F₁ j3 j1 j2
    have F₃ := F₂
    have N₃ := N₁
    dsimp only [envOf] at F₃ N₃
    clear F₁ F₂ N₁
    obtain ⟨n, t, rfl, hq4⟩ := ints_item hI4 hv
    have hi4 : i < 4 := by
      have q := (List.getElem?_eq_some_iff.mp hq4).1
      rw [List.length_take] at q
      omega
    clear hq4
    have a1 : 0 ≤ (n.fdiv 6).fmod 65536 := Int.fmod_nonneg_of_pos _ (by decide)
    have a2 : (n.fdiv 6).fmod 65536 < 65536 := Int.fmod_lt_of_pos _ (by decide)
    have a3 : 0 ≤ n.fmod 6 := Int.fmod_nonneg_of_pos _ (by decide)
    have a4 : n.fmod 6 ≤ 5 := Int.le_of_lt_add_one (Int.fmod_lt_of_pos _ (by decide))
    clear hv
    k_steps
    rename IntsAre _ (ns ++ _) => hI9
    rename (0 ≤ (_ : Int)) => hr0
    rename ((_ : Int) < 65536) => hr1
    refine' TEndI.on ?F ?N ?sub ?off ?J
    case F => k_asm
    case N => k_asm
    case J => exact ⟨by with_unfolding_all rfl, by with_unfolding_all rfl, _, _, _, 0, by with_unfolding_all rfl, rfl, hI9, by
      intro x hx
      rcases List.mem_append.mp hx with hx | hx
      · exact j5 x hx
      · rcases List.mem_cons.mp hx with e | hx
        · subst e; exact ⟨a1, a2⟩
        · rw [List.mem_singleton.mp hx]; exact ⟨hr0, hr1⟩, by
      rw [List.length_append, j6]; simp only [List.length_cons, List.length_nil]; omega⟩
    case sub => lcg_sub
    case off =>
      intro p hp
      rcases List.mem_cons.mp hp with e | hp
      · exact hn p (by rw [e]; exact List.mem_cons_self ..)
      · rcases List.mem_cons.mp hp with e | hp
        · rw [e]; k_ne
        · exact hn p (List.mem_cons_of_mem _ (List.mem_cons_of_mem _ hp))
  · intro h' tk' m' news' F' N' hJ
    obtain ⟨j1, j2, l, vs, ns, k, j3, rfl, j4, j5, j6⟩ := hJ
    have hns : ns.length ≤ 12 := by
      have q := hI4.length
      rw [List.length_take] at q
      rw [List.size_toArray] at j6
      omega
    have F₂ := fr3 (Str.ofString "modes") (Str.ofString "needed") (Str.ofString "manager") F' j3 j1 j2
    have F₃ := F₂
    have N₃ := N'
    dsimp only [envOf] at F₃ N₃
    clear F' F₂ N'
    repeat ((fail_if_success (with_reducible show LCg.CompSrc _ _ _ _ _ _ _ _ _ _ _ _ _ _)); (first | (k_unfold; (try dsimp only)) | walk1 | (dsimp only; walk1)))
    refine LCg.CompSrc.ledger (by rfl) (by k_asm) (by k_asm) (List.mem_cons_of_mem _ (List.mem_cons_self ..)) (by rw [List.size_toArray, j4.length, sizeLine_eq]; omega) ?_
    intro g'
    refine compRest_inv (n := vs.toArray.size) (fun i ys news => ∃ tl, news = tl ++ _ ∧ KL ns i ys tl) ?_ ?_ _ 0 [] _ (Nat.zero_add _) ⟨[], rfl, KL.nil⟩
    · intro i ys news v I oI C oC D m₂ h tk E' hi hJ hP hC hx F N off
      obtain ⟨tl, rfl, hK⟩ := hJ
      obtain ⟨n, t, rfl, hq⟩ := ints_item j4 hP
      obtain ⟨b0, b1⟩ := j5 n (List.mem_of_getElem? hq)
      clear hP
      repeat ((fail_if_success (with_reducible show wpAny _ _ (call (Value.ref 142) _) _ _ _)); (first | (k_unfold; (try dsimp only)) | walk1 | (dsimp only; walk1)))
      (k_dflt (refine' says_use (keys_says _ _ _ _ n t b0 b1) ?k1 ?k2 ?k3 ?k4 ?k5 ?kK ?kp ?kd ?ku ?_))
      case k1 => k_asm
      case k2 => k_asm
      case k3 => k_asm
      case k4 => k_asm
      case k5 => k_asm
      case kK => exact Eq.refl _
      case kp => trivial
      case kd => ktr_room
      case ku => ktr_units
      intro v9 tl9 h9 tk9 F9 N9 a9 r9
      refine comp_end F9 N9 a9 off (Or.inr ⟨_, List.mem_append_right _ (List.mem_cons_of_mem _ (List.mem_cons_self ..)), rfl, _, rfl⟩) ⟨tl9 ++ tl, rfl, hK.snoc hq r9⟩
    · intro ys news hJ
      obtain ⟨tl, rfl, hK⟩ := hJ
      unfold LCg.FinA
      intro D h tk F N off
      dsimp only
      have N2 := news_swap N
      simp only [List.cons_append, List.nil_append] at N2
      clear N off
      repeat ((fail_if_success (with_reducible show wpAny _ _ (exec (Stmt.For _ _ _ _ _) _) _ _ _)); (first | (k_unfold; (try dsimp only)) | walk1 | (dsimp only; walk1)))
      (with_unfolding_all refine' wpAny_For ?_ ?hsFor; (case hsFor => intro _; rfl))
      k_steps
      rename IsRange _ _ _ _ _ _ _ _ => hR
      refine rangeLoop (n := ns.length) (by rfl) hR rfl (by omega) (by k_asm) (by k_asm) (JL _ _ _ _ _) ⟨by with_unfolding_all rfl, by with_unfolding_all rfl, by with_unfolding_all rfl, by with_unfolding_all rfl, rfl⟩ ?_ ?_
      · intro I oI i t m₁ news₁ h₁ tk₁ hi hJ hn F₁ N₁
        obtain ⟨q1, q2, q3, q4, rfl⟩ := hJ
        have F₄ := fr4 (Str.ofString "keys") (Str.ofString "modes") (Str.ofString "needed") (Str.ofString "manager") F₁ q1 q2 q3 q4
        have N₄ := N₁
        dsimp only [envOf] at F₄ N₄
        clear F₁ N₁ hR
        obtain ⟨n, n', tv, r, r', ta, tb, tc, td, te, tf, tg, th, b0, b1, c0, c1, hA1, hA2, hA3, hM1, hM2⟩ := turn_facts j4 j5 hK hi hns
        repeat ((fail_if_success (with_reducible show wpAny _ _ (subscriptTail _ _ _ _) _ _ _)); (first | (k_unfold; (try dsimp only)) | walk1 | (dsimp only; walk1)))
        refine item_at (News.isList (by k_asm) (by k_mem)) hA1 ?_
        repeat ((fail_if_success (with_reducible show wpAny _ _ (call (Value.ref 135) _) _ _ _)); (first | (k_unfold; (try dsimp only)) | walk1 | (dsimp only; walk1)))
        have K1 := keys_ok n b0 b1
        have K2 := keys_ok n' c0 c1
        (k_dflt (refine' says_use (spelled_says2 _ _ _ _ n tv b0 b1) ?k1 ?k2 ?k3 ?k4 ?k5 ?kK ?kp ?kd ?ku ?_))
        case k1 => k_asm
        case k2 => k_asm
        case k3 => k_asm
        case k4 => k_asm
        case k5 => k_asm
        case kK => exact Eq.refl _
        case kp => trivial
        case kd => ktr_room
        case ku => ktr_units
        intro v9 tl9 h9 tk9 F9 N9 a9 r9
        obtain ⟨lb, itb, rfl, hb1, hb2⟩ := addr_open r9
        clear r9
        have N5 := news_behind N9
        simp only [List.cons_append, List.nil_append] at N5
        clear N9
        generalize e1 : tl ++ tl9 = tl2 at N5
        have hM1 : _ ∈ tl2 := e1 ▸ List.mem_append_left _ hM1
        have hM2 : _ ∈ tl2 := e1 ▸ List.mem_append_left _ hM2
        have hb1 : _ ∈ tl2 := e1 ▸ List.mem_append_right _ hb1
        have hb2 : ∀ m, m < 6 → ∃ (r : Addr) (t u : Tok), itb[m]? = some (.ref r) ∧ (r, tupS _ t (pathF _ _ _ m) u) ∈ tl2 := fun m hm => by
          obtain ⟨r, t, u, x1, x2⟩ := hb2 m hm
          exact ⟨r, t, u, x1, e1 ▸ List.mem_append_right _ x2⟩
        repeat ((fail_if_success (with_reducible show wpAny _ _ (subscriptTail _ _ _ _) _ _ _)); (first | (k_unfold; (try dsimp only)) | walk1 | (dsimp only; walk1)))
        refine item_at (News.isList (by k_asm) (by k_mem)) hA3 ?_
        repeat ((fail_if_success (with_reducible show wpAny _ _ (call (Value.ref 156) _) _ _ _)); (first | (k_unfold; (try dsimp only)) | walk1 | (dsimp only; walk1)))
        (k_dflt (refine' says_use (hand_says _ _ _ _ r' _ _ _ _ te tf tg th K2.u0 K2.u1 K2.k0 K2.k1 K2.g0 K2.g1 K2.o0 K2.o1) ?k1 ?k2 ?k3 ?k4 ?k5 ?kK ?kp ?kd ?ku ?_))
        case k1 => k_asm
        case k2 => k_asm
        case k3 => k_asm
        case k4 => k_asm
        case k5 => k_asm
        case kK => exact Eq.refl _
        case kp =>
          rename News _ _ _ _ => N6
          have N7 : News _ _ _ tl2 := fun p hp => N6 p (by repeat (first | exact hp | refine List.mem_cons_of_mem _ ?_))
          exact (N7 _ hM2).1
        case kd => ktr_room
        case ku => ktr_units
        intro v9 tl9 h9 tk9 F9 N9 a9 r9
        obtain ⟨lt, itt, rfl, ht1, ht2⟩ := addr_open r9
        clear r9
        have N5 := news_behind N9
        simp only [List.cons_append, List.nil_append] at N5
        clear N9
        generalize e2 : tl2 ++ tl9 = tl3 at N5
        have hM1 : _ ∈ tl3 := e2 ▸ List.mem_append_left _ hM1
        have hM2 : _ ∈ tl3 := e2 ▸ List.mem_append_left _ hM2
        have hb1 : _ ∈ tl3 := e2 ▸ List.mem_append_left _ hb1
        have ht1 : _ ∈ tl3 := e2 ▸ List.mem_append_right _ ht1
        have hb2 : ∀ m, m < 6 → ∃ (r : Addr) (t u : Tok), itb[m]? = some (.ref r) ∧ (r, tupS _ t (pathF _ _ _ m) u) ∈ tl3 := fun m hm => by
          obtain ⟨r, t, u, x1, x2⟩ := hb2 m hm
          exact ⟨r, t, u, x1, e2 ▸ List.mem_append_left _ x2⟩
        have ht2 : ∀ m, m < 6 → ∃ (r : Addr) (t u : Tok), itt[m]? = some (.ref r) ∧ (r, tupS _ t (pathF _ _ _ m) u) ∈ tl3 := fun m hm => by
          obtain ⟨r, t, u, x1, x2⟩ := ht2 m hm
          exact ⟨r, t, u, x1, e2 ▸ List.mem_append_right _ x2⟩
        repeat ((fail_if_success (with_reducible show wpAny _ _ (subscriptTail _ _ _ _) _ _ _)); (first | (k_unfold; (try dsimp only)) | walk1 | (dsimp only; walk1)))
        refine item_at (News.isList (by k_asm) (by k_mem)) hA2 ?_
        repeat ((fail_if_success (with_reducible show wpAny _ _ (subscriptTail _ _ _ _) _ _ _)); (first | (k_unfold; (try dsimp only)) | walk1 | (dsimp only; walk1)))
        refine item_at (News.isList (by k_asm) (by k_mem)) hA3 ?_
        repeat ((fail_if_success (with_reducible show wpAny _ _ (call (Value.ref 163) _) _ _ _)); (first | (k_unfold; (try dsimp only)) | walk1 | (dsimp only; walk1)))
        (k_dflt (refine' says_use0 (same_says _ _ _ _ r r' (userK n) (kindK n) (groupK n) (othersK n) (userK n') (kindK n') (groupK n') (othersK n') ta tb tc td te tf tg th) ?k1 ?k2 ?k3 ?k4 ?k5 ?kK ?kp ?kd ?ku ?_))
        case k1 => k_asm
        case k2 => k_asm
        case k3 => k_asm
        case k4 => k_asm
        case k5 => k_asm
        case kK => exact Eq.refl _
        case kp =>
          rename News _ _ _ _ => N6
          have N7 : News _ _ _ tl3 := fun p hp => N6 p (by repeat (first | exact hp | refine List.mem_cons_of_mem _ ?_))
          exact ⟨(N7 _ hM1).1, (N7 _ hM2).1⟩
        case kd => ktr_room
        case ku => ktr_units
        intro v9 h9 tk9 F9 N9 r9
        obtain ⟨t9, rfl⟩ := r9
        repeat ((fail_if_success (with_reducible show wpAny _ _ (exec (Stmt.For _ _ _ _ _) _) _ _ _)); (first | (k_unfold; (try dsimp only)) | walk1 | (dsimp only; walk1)))
        (with_unfolding_all refine' wpAny_For ?_ ?hsFor; (case hsFor => intro _; rfl))
        k_steps
        rename IsRange _ _ _ _ _ _ _ _ => hR
        refine rangeLoop (n := 6) (by rfl) hR rfl (by decide) (by k_asm) (by k_asm) (JG [(Str.ofString "same", some (.int _ _)), (Str.ofString "tests", some (.ref _)), (Str.ofString "bases", some (.ref _)), (Str.ofString "keys", some (.ref _)), (Str.ofString "modes", some (.ref _)), (Str.ofString "needed", some (.ref _)), (Str.ofString "manager", some (.ref _))] _) ⟨⟨by with_unfolding_all rfl, by with_unfolding_all rfl, by with_unfolding_all rfl, by with_unfolding_all rfl, by with_unfolding_all rfl, by with_unfolding_all rfl, by with_unfolding_all rfl, trivial⟩, rfl⟩ ?_ ?_
        · intro I2 oI2 m tm m₂ news₂ h₂ tk₂ hm hJ hn2 F₂ N₂
          obtain ⟨hp, rfl⟩ := hJ
          have F₅ := fr_over _ F₂ hp
          have N₅ := N₂
          dsimp only [envOf, over] at F₅ N₅
          clear F₂ N₂ hR
          repeat ((fail_if_success (with_reducible show wpAny _ _ (exec (Stmt.For _ _ _ _ _) _) _ _ _)); (first | (k_unfold; (try dsimp only)) | walk1 | (dsimp only; walk1)))
          (with_unfolding_all refine' wpAny_For ?_ ?hsFor; (case hsFor => intro _; rfl))
          k_steps
          rename IsRange _ _ _ _ _ _ _ _ => hR
          refine rangeLoop (n := 6) (by rfl) hR rfl (by decide) (by k_asm) (by k_asm) (JG [(Str.ofString "m", some (.int _ _)), (Str.ofString "same", some (.int _ _)), (Str.ofString "tests", some (.ref _)), (Str.ofString "bases", some (.ref _)), (Str.ofString "keys", some (.ref _)), (Str.ofString "modes", some (.ref _)), (Str.ofString "needed", some (.ref _)), (Str.ofString "manager", some (.ref _))] _) ⟨⟨by with_unfolding_all rfl, by with_unfolding_all rfl, by with_unfolding_all rfl, by with_unfolding_all rfl, by with_unfolding_all rfl, by with_unfolding_all rfl, by with_unfolding_all rfl, by with_unfolding_all rfl, trivial⟩, rfl⟩ ?_ ?_
          · intro I3 oI3 j tj m₃ news₃ h₃ tk₃ hj hJ hn3 F₃ N₃
            obtain ⟨hp3, rfl⟩ := hJ
            have F₆ := fr_over _ F₃ hp3
            have N₆ := N₃
            dsimp only [envOf, over] at F₆ N₆
            clear F₃ N₃ hR
            obtain ⟨rb, tb1, tb2, xb1, xb2⟩ := hb2 m hm
            obtain ⟨rt, tt1, tt2, xt1, xt2⟩ := ht2 j hj
            by_cases hmk : (m : Int) ≤ (j : Int)
            · repeat ((fail_if_success (with_reducible show wpAny _ _ (subscriptTail _ _ _ _) _ _ _)); (first | (k_unfold; (try dsimp only)) | walk1 | (dsimp only; walk1)))
              refine item_need (News.isList (by k_asm) (by k_mem)) hm ?_
              intro tn
              repeat ((fail_if_success (with_reducible show wpAny _ _ (subscriptTail _ _ _ _) _ _ _)); (first | (k_unfold; (try dsimp only)) | walk1 | (dsimp only; walk1)))
              rename News _ _ _ _ => N8
              have N7 : News _ _ _ tl3 := fun p hp => N8 p (by repeat (first | exact hp | refine List.mem_cons_of_mem _ ?_))
              refine item_at (its := itb) ⟨_, (N7 _ hb1).1, rfl, _, rfl⟩ (ItAt.nat (by omega) xb1) ?_
              clear N7
              repeat ((fail_if_success (with_reducible show wpAny _ _ (subscriptTail _ _ _ _) _ _ _)); (first | (k_unfold; (try dsimp only)) | walk1 | (dsimp only; walk1)))
              rename News _ _ _ _ => N8
              have N7 : News _ _ _ tl3 := fun p hp => N8 p (by repeat (first | exact hp | refine List.mem_cons_of_mem _ ?_))
              refine item_at (its := itt) ⟨_, (N7 _ ht1).1, rfl, _, rfl⟩ (ItAt.nat (by omega) xt1) ?_
              clear N7
              repeat ((fail_if_success (with_reducible show wpAny _ _ (call (Value.ref 64) _) _ _ _)); (first | (k_unfold; (try dsimp only)) | walk1 | (dsimp only; walk1)))
              (k_dflt (refine' says_use0 (suburi_says2 _ _ _ _ _ rb rt K1 K2 hm hj tb1 tb2 tt1 tt2) ?k1 ?k2 ?k3 ?k4 ?k5 ?kK ?kp ?kd ?ku ?_))
              case k1 => k_asm
              case k2 => k_asm
              case k3 => k_asm
              case k4 => k_asm
              case k5 => k_asm
              case kK => exact Eq.refl _
              case kp =>
                rename News _ _ _ _ => N8
                have N7 : News _ _ _ tl3 := fun p hp => N8 p (by repeat (first | exact hp | refine List.mem_cons_of_mem _ ?_))
                exact ⟨(N7 _ xb2).1, (N7 _ xt2).1⟩
              case kd => ktr_room
              case ku => ktr_units
              intro v9 h9 tk9 F9 N9 r9
              have r8 : v9 = .bool (decide (needF m ≤ sameF (userK n) (kindK n) (groupK n) (othersK n) (userK n') (kindK n') (groupK n') (othersK n'))) := by
                rw [r9]; exact congrArg Value.bool (by simp only [show m ≤ j by omega, true_and])
              subst r8
              clear r9
              k_steps
              · rename ((_ != _) = true) => hx
                simp at hx
              · refine' TEndI.on ?F ?N ?sub ?off ?J
                case F => k_asm
                case N => k_asm
                case J => exact ⟨⟨by with_unfolding_all rfl, by with_unfolding_all rfl, by with_unfolding_all rfl, by with_unfolding_all rfl, by with_unfolding_all rfl, by with_unfolding_all rfl, by with_unfolding_all rfl, by with_unfolding_all rfl, trivial⟩, rfl⟩
                case sub => exact fun p hp => hp
                case off => exact hn3
            · repeat ((fail_if_success (with_reducible show wpAny _ _ (subscriptTail _ _ _ _) _ _ _)); (first | (k_unfold; (try dsimp only)) | walk1 | (dsimp only; walk1)))
              rename News _ _ _ _ => N8
              have N7 : News _ _ _ tl3 := fun p hp => N8 p (by repeat (first | exact hp | refine List.mem_cons_of_mem _ ?_))
              refine item_at (its := itb) ⟨_, (N7 _ hb1).1, rfl, _, rfl⟩ (ItAt.nat (by omega) xb1) ?_
              clear N7
              repeat ((fail_if_success (with_reducible show wpAny _ _ (subscriptTail _ _ _ _) _ _ _)); (first | (k_unfold; (try dsimp only)) | walk1 | (dsimp only; walk1)))
              rename News _ _ _ _ => N8
              have N7 : News _ _ _ tl3 := fun p hp => N8 p (by repeat (first | exact hp | refine List.mem_cons_of_mem _ ?_))
              refine item_at (its := itt) ⟨_, (N7 _ ht1).1, rfl, _, rfl⟩ (ItAt.nat (by omega) xt1) ?_
              clear N7
              repeat ((fail_if_success (with_reducible show wpAny _ _ (call (Value.ref 64) _) _ _ _)); (first | (k_unfold; (try dsimp only)) | walk1 | (dsimp only; walk1)))
              (k_dflt (refine' says_use0 (suburi_says2 _ _ _ _ _ rb rt K1 K2 hm hj tb1 tb2 tt1 tt2) ?k1 ?k2 ?k3 ?k4 ?k5 ?kK ?kp ?kd ?ku ?_))
              case k1 => k_asm
              case k2 => k_asm
              case k3 => k_asm
              case k4 => k_asm
              case k5 => k_asm
              case kK => exact Eq.refl _
              case kp =>
                rename News _ _ _ _ => N8
                have N7 : News _ _ _ tl3 := fun p hp => N8 p (by repeat (first | exact hp | refine List.mem_cons_of_mem _ ?_))
                exact ⟨(N7 _ xb2).1, (N7 _ xt2).1⟩
              case kd => ktr_room
              case ku => ktr_units
              intro v9 h9 tk9 F9 N9 r9
              have r8 : v9 = .bool false := by
                rw [r9]; exact congrArg Value.bool (decide_eq_false (fun hh => by have := hh.1; omega))
              subst r8
              clear r9
              k_steps
              · rename ((_ != _) = true) => hx
                exact absurd hx (by simp [hmk])
              · refine' TEndI.on ?F ?N ?sub ?off ?J
                case F => k_asm
                case N => k_asm
                case J => exact ⟨⟨by with_unfolding_all rfl, by with_unfolding_all rfl, by with_unfolding_all rfl, by with_unfolding_all rfl, by with_unfolding_all rfl, by with_unfolding_all rfl, by with_unfolding_all rfl, by with_unfolding_all rfl, trivial⟩, rfl⟩
                case sub => exact fun p hp => hp
                case off => exact hn3
          · intro h' tk' m' news' F' N' hJ
            obtain ⟨hp4, rfl⟩ := hJ
            k_steps
            exact TEndI.on F' N' (fun p hp => hp) hn2 ⟨hp4.2, rfl⟩
        · intro h' tk' m' news' F' N' hJ
          obtain ⟨hp4, rfl⟩ := hJ
          k_steps
          have hin : ∀ p ∈ tl, p ∈ tl3 := fun p hp => e2 ▸ List.mem_append_left _ (e1 ▸ List.mem_append_left _ hp)
          exact TEndI.on F' N' (by repeat (first | exact hin | refine sub_cons ?_)) hn ⟨hp4.2.2.2.1, hp4.2.2.2.2.1, hp4.2.2.2.2.2.1, hp4.2.2.2.2.2.2.1, rfl⟩
      · intro h' tk' m' news' F' N' hJ
        k_steps
