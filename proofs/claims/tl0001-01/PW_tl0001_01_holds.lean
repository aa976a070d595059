import PyProof.Rows.All
import Wide.All
import OpenK.AllK
import Wide.FinOn
import PySem.Challenge.RW_tl0001_01
open PySem PySem.W PyProof.Rows PySem.Calls
set_option Elab.async false
set_option compiler.extract_closed false
set_option maxRecDepth 100000
set_option maxHeartbeats 8000000

namespace Mine
open_top hd for PySem.Challenge.rw_tl0001_01
end Mine
namespace Mine
/-- the loose names of the head -/
noncomputable abbrev LZ : List Str := looseW hd.view_39 [Str.ofString "_twin_re_1", Str.ofString "_twin_re_2", Str.ofString "tspecials", Str.ofString "_formatparam"]

/-- what stands in every heap of the call -/
structure Std (w : World) (h : Heap) : Prop where
  x : (hd.heap_39 w.params).In h
  t : ∃ mean mg mb, Top hd.view_39 LZ mean mg mb h

theorem Std.keeps {w : World} {h h' : Heap} (S : Std w h) (k : ∀ b o, h.get? b = some o → h'.get? b = some o) : Std w h' :=
  ⟨S.x.keeps k, let ⟨a, b, c, T⟩ := S.t; ⟨a, b, c, T.keeps k⟩⟩

section
variable {prog : Program} {w : World} {A : Around} {s : Shared} {K : Frag}
theorem enter_fn {p : Program} {loose : List Str} {mean : ExcName → Option Value} {mg mb : Str → Option Value}
    {R : Result → Shared → Prop} {name qual : Str} {params : Arguments} {body : List Stmt} {scope : Scope} {dV kV doc pm cdv ct oc : Value} {an od : Option Addr} {osl : Array (Option Value)} {f : Addr} {args : Args} {binds : List (Str × Value)}
    (X : K.In s.heap) (T : Top p loose mean mg mb s.heap)
    (ho : K.lookup f = some ⟨oc, od, .func (fnOf name qual params body scope dV kV doc pm an cdv ct), osl⟩) (hcd : codeIn K cdv qual = true) (hroom : A.depth < recursionLimit)
    (hbind : BindsTo s (fnOf name qual params body scope dV kV doc pm an cdv ct) args binds) (hloc : ∀ y ∈ binds, scope.names.lookup y.1 = some .local)
    (h : ∀ h₁, Fr s.heap s.heap.objs.size h₁ (fun y => binds.reverse.lookup y) → News s.heap s.heap.objs.size h₁ [] →
      wpAny (model prog w) (A.deeper (envOf qual scope s.heap.objs.size f cdv)) (execs body (envOf qual scope s.heap.objs.size f cdv))
        (fun fl s' => R (.ok (.ret (match fl with | .ret v => v | _ => .none))) s')
        (fun _ _ => False)
        { s with heap := h₁, toks := s.toks + binds.length })
    (hco : scope.isCoroutine = false) (hgen : scope.isGenerator = false) (hk : scope.kind = .function)
    (hcell : ∀ x ∈ scope.names, x.2 ≠ .cell) : codeAny (model prog w) A (.call (.ref f) args) R s :=
  codeAny_call_def (fd := fnOf name qual params body scope dV kV doc pm an cdv ct) (body := body) (binds := binds) hroom (X _ _ ho) rfl T.nolimit (codeRec_of X hcd) rfl hbind hcell hloc
    (fun h₁ hns hk₁ => wpAny_mono (h h₁ ⟨hns, hk₁, Nat.le_refl _⟩ News.nil) (fun _ _ q => q) (fun _ _ q => q.elim)) hco hgen hk
end
end Mine
namespace Mine
/-- what every run keeps -/
structure Inv (s s' : Shared) : Prop where
  tok : s.toks ≤ s'.toks
  bare : AllBare s.gens → AllBare s'.gens
theorem Inv.rfl' {s : Shared} : Inv s s := ⟨Nat.le_refl _, id⟩
theorem Inv.trans {s s' s'' : Shared} (a : Inv s s') (b : Inv s' s'') : Inv s s'' := ⟨Nat.le_trans a.tok b.tok, fun h => b.bare (a.bare h)⟩
theorem bare_set {g : Array GenState} {i : Nat} {x : GenState} (h : AllBare g) (hx : x.bare = true) : AllBare (g.setIfInBounds i x) := by
  intro y hy
  rw [Array.mem_iff_getElem?] at hy
  obtain ⟨j, hj⟩ := hy
  rw [Array.getElem?_setIfInBounds] at hj
  split at hj
  · split at hj
    · cases hj; exact hx
    · cases hj
  · exact h y (Array.mem_of_getElem? hj)
theorem bare_push {g : Array GenState} {x : GenState} (h : AllBare g) (hx : x.bare = true) : AllBare (g.push x) := by
  intro y hy
  rcases Array.mem_push.mp hy with hy | rfl
  · exact h y hy
  · exact hx
theorem Inv.setGen {s : Shared} {g : Nat} {x : GenState} (hx : x.bare = true) : Inv s (s.setGen g x) := ⟨Nat.le_refl _, fun h => bare_set h hx⟩
theorem Inv.newGen {s : Shared} {x : GenState} (hx : x.bare = true) : Inv s { s with gens := s.gens.push x } := ⟨Nat.le_refl _, fun h => bare_push h hx⟩

theorem Runs.inv {M : Model} {Γ : Ctx} {p : Pos} {t : Sem Fin} {fs : List Frame} {s : Shared} {e : End} {s' : Shared} (h : Runs M Γ p t fs s e s') : Inv s s' := by
  induction h with
  | done => exact .rfl'
  | raise => exact .rfl'
  | again _ _ ih => exact ih
  | rule _ ih => exact ih
  | «at» _ ih => exact ih
  | load _ _ ih => exact ih
  | update _ _ ih => exact ⟨ih.tok, ih.bare⟩
  | loadIfAlive _ ih => exact ih
  | point _ ih => exact ih
  | alloc _ ih => exact ⟨ih.tok, ih.bare⟩
  | fresh _ ih => exact ⟨Nat.le_of_succ_le ih.tok, ih.bare⟩
  | ask _ ih => exact ih
  | choose _ _ ih => exact ⟨ih.tok, ih.bare⟩
  | os _ ih => exact ⟨ih.tok, ih.bare⟩
  | handled _ ih => exact ih
  | genState _ _ ih => exact ih
  | stack _ ih => exact ih
  | thread _ ih => exact ih
  | newGen _ ih => exact (Inv.newGen rfl).trans ih
  | call _ _ i1 i2 => exact i1.trans i2
  | callSusp _ ih => exact ih
  | yield => exact .rfl'
  | resumeFresh _ _ q _ i1 i2 => exact (Inv.setGen rfl).trans (i1.trans ((Inv.setGen (End.bare_of_quiet q)).trans i2))
  | resumeSuspended _ _ q _ i1 i2 => exact (Inv.setGen rfl).trans (i1.trans ((Inv.setGen (End.bare_of_quiet q)).trans i2))
  | resumeJustStarted _ _ _ ih => exact ih
  | resumeThrowFresh _ _ ih => exact (Inv.setGen rfl).trans ih
  | resumeRunning _ _ ih => exact ih
  | resumeFinished _ _ ih => exact ih
  | segRet _ _ i1 i2 => exact i1.trans i2
  | segGen _ _ i1 i2 => exact i1.trans ((Inv.setGen rfl).trans i2)
  | segSuspOut _ _ ih => exact ih
  | segSuspGen _ _ q _ i1 i2 => exact i1.trans ((Inv.setGen (End.bare_of_quiet q)).trans i2)

theorem Wakes.inv {M : Model} {Γ : Ctx} {p : Pos} {g : Nat} {r : Resume} {s : Shared} {res : GenResult} {s' : Shared} (h : Wakes M Γ p g r s res s') : Inv s s' := by
  unfold Wakes at h
  split at h
  · exact h.elim
  · split at h
    · obtain ⟨e, s₁, hr, q, _, rfl⟩ := h
      exact (Inv.setGen rfl).trans ((Runs.inv hr).trans (Inv.setGen (End.bare_of_quiet q)))
    · obtain ⟨_, rfl⟩ := h; exact .rfl'
    · obtain ⟨_, rfl⟩ := h; exact Inv.setGen rfl
  · obtain ⟨e, s₁, hr, q, _, rfl⟩ := h
    exact (Inv.setGen rfl).trans ((Runs.inv hr).trans (Inv.setGen (End.bare_of_quiet q)))
  · obtain ⟨_, rfl⟩ := h; exact .rfl'
  · obtain ⟨_, rfl⟩ := h; exact .rfl'

theorem wp_inv {α : Type} {M : Model} {Γ : Ctx} {s₀ : Shared} {Q : α → Pos → Shared → Prop} {E : Value → Pos → Shared → Prop} (m : Sem α) :
    ∀ {p : Pos} {s : Shared}, Inv s₀ s → Sem.wp M Γ m (fun a p' s' => Inv s₀ s' → Q a p' s') (fun e p' s' => Inv s₀ s' → E e p' s') p s → Sem.wp M Γ m Q E p s := by
  induction m with
  | pure a => intro p s hi h; exact h hi
  | raise x => intro p s hi h; exact h hi
  | unsupported what => intro p s _ h; exact h.elim
  | finish x => intro p s _ h; exact h.elim
  | register a k => intro p s _ h; exact h.elim
  | yield v g l k => intro p s _ h; exact h.elim
  | fork c k => intro p s _ h; exact h.elim
  | await a f d l k => intro p s _ h; exact h.elim
  | rule tag k ih => intro p s hi h; exact ih () hi h
  | «at» p' k ih => intro p s hi h; exact ih () hi h
  | load a part k ih => intro p s hi h; obtain ⟨o, ho, h⟩ := h; exact ⟨o, ho, ih o hi h⟩
  | update a part f k ih => intro p s hi h; obtain ⟨ha, h⟩ := h; exact ⟨ha, ih () ⟨hi.tok, hi.bare⟩ h⟩
  | alloc o k ih => intro p s hi h; exact ih _ ⟨hi.tok, hi.bare⟩ h
  | loadIfAlive a k ih => intro p s hi h; exact ih _ hi h
  | point l k ih => intro p s hi h; exact ih () hi h
  | fresh k ih => intro p s hi h; exact ih _ ⟨Nat.le_succ_of_le hi.tok, hi.bare⟩ h
  | ask k ih => intro p s hi h; exact ih _ hi h
  | choose src n k ih => intro p s hi h; exact ⟨h.1, ih _ ⟨hi.tok, hi.bare⟩ h.2⟩
  | os q l k ih => intro p s hi h; exact ih _ ⟨hi.tok, hi.bare⟩ h
  | call c h g l k ih => intro p s hi hw; obtain ⟨r, s₁, hret, hw⟩ := hw; exact ⟨r, s₁, hret, ih r (hi.trans (Runs.inv hret)) hw⟩
  | handled own k ih => intro p s hi h; exact ih _ hi h
  | newGen c k ih => intro p s hi h; exact ih _ (hi.trans (Inv.newGen rfl)) h
  | genState g k ih => intro p s hi h; obtain ⟨st, hg, h⟩ := h; exact ⟨st, hg, ih _ hi h⟩
  | resume g r l k ih => intro p s hi h; obtain ⟨res, s₁, hwk, h⟩ := h; exact ⟨res, s₁, hwk, ih res (hi.trans (Wakes.inv hwk)) h⟩
  | stack k ih => intro p s hi h; exact ih _ hi h
  | thread k ih => intro p s hi h; exact ih _ hi h

theorem wpAny_inv {α : Type} {M : Model} {A : Around} {t : Sem α} {Q : α → Shared → Prop} {E : Value → Shared → Prop} {s : Shared}
    (h : wpAny M A t (fun a s' => Inv s s' → Q a s') (fun e s' => Inv s s' → E e s') s) : wpAny M A t Q E s :=
  fun Γ p hΓ => wp_inv t .rfl' (h Γ p hΓ)
theorem codeAny_inv {M : Model} {A : Around} {c : Code} {R : Result → Shared → Prop} {s : Shared}
    (h : codeAny M A c (fun r s' => Inv s s' → R r s') s) : codeAny M A c R s := fun Γ p hc hΓ => by
  obtain ⟨r, s', hr, hR⟩ := h Γ p hc hΓ
  exact ⟨r, s', hr, hR (Runs.inv hr)⟩
/-- a walked tree hands on the tokens' bound -/
theorem wpAny_tok {α : Type} {M : Model} {A : Around} {t : Sem α} {Q : α → Shared → Prop} {E : Value → Shared → Prop} {s : Shared}
    (h : wpAny M A t (fun a s' => s.toks ≤ s'.toks → Q a s') E s) : wpAny M A t Q E s :=
  wpAny_inv (wpAny_mono h (fun _ _ q i => q i.tok) fun _ _ q _ => q)
end Mine
namespace Mine
/-- a text by its signs -/
def S (l : List Nat) : Str := ⟨l.toArray⟩
theorem S_cps (l : List Nat) : (S l).cps.toList = l := rfl
theorem S_len (l : List Nat) : (S l).length = l.length := by simp [S, Str.length]
theorem S_app (a b : List Nat) : S a ++ S b = S (a ++ b) := Str.ext' (by simp [S, Str.cps_append])
theorem S_of (x : Str) : S x.cps.toList = x := Str.ext' (by simp [S])
theorem S_inj {a b : List Nat} (h : S a = S b) : a = b := by
  have := congrArg (fun x : Str => x.cps.toList) h
  simpa [S_cps] using this
theorem S_beq (a b : List Nat) : (S a == S b) = decide (a = b) := by
  by_cases h : a = b
  · subst h; simp
  · have : S a ≠ S b := fun e => h (S_inj e)
    rw [decide_eq_false h]
    exact beq_eq_false_iff_ne.mpr this
theorem S_of_cps {x : Str} {l : List Nat} (h : x.cps.toList = l) : x = S l := by rw [← h, S_of]

def repL (c : Nat) (z : List Nat) (l : List Nat) : List Nat := l.flatMap fun d => if d = c then z else [d]
theorem repL_append (c : Nat) (z a b : List Nat) : repL c z (a ++ b) = repL c z a ++ repL c z b := by simp [repL]
theorem repL_free (c : Nat) (z l : List Nat) (h : c ∉ l) : repL c z l = l := by
  induction l with
  | nil => rfl
  | cons d r ih =>
    have h1 : ¬ d = c := fun e => h (e ▸ List.mem_cons_self ..)
    have h2 : c ∉ r := fun m => h (List.mem_cons_of_mem _ m)
    have := ih h2
    simp only [repL, List.flatMap_cons, if_neg h1] at this ⊢
    rw [this]; rfl
theorem repL_join (c : Nat) (z : List Nat) : ∀ parts : List Str, (∀ p ∈ parts, c ∉ p.cps.toList) → repL c z (Str.join ⟨#[c]⟩ parts).cps.toList = (Str.join (S z) parts).cps.toList
  | [], _ => rfl
  | [p], h => repL_free c z _ (h p (List.mem_singleton.mpr rfl))
  | p :: q :: r, h => by
    have ih := repL_join c z (q :: r) fun a ha => h a (List.mem_cons_of_mem _ ha)
    show repL c z (p ++ ⟨#[c]⟩ ++ Str.join ⟨#[c]⟩ (q :: r)).cps.toList = (p ++ S z ++ Str.join (S z) (q :: r)).cps.toList
    simp only [Str.cps_append, Array.toList_append]
    rw [repL_append, repL_append, ih, repL_free c z _ (h p (List.mem_cons_self ..))]
    have : repL c z [c] = z := by simp [repL]
    show p.cps.toList ++ repL c z [c] ++ _ = _
    rw [this, S_cps]
theorem replace_sign (l z : List Nat) (c : Nat) : Txt.replace (S l) (S [c]) (S z) = S (repL c z l) := by
  apply S_of_cps
  show (Txt.replace (S l) ⟨#[c]⟩ (S z)).cps.toList = _
  rw [StrLaws.replace_one, ← repL_join c z _ (StrLaws.split_free (S l) c), StrLaws.join_split, S_cps]

/-- marks and backslashes, each with a backslash ahead -/
def escL (l : List Nat) : List Nat := l.flatMap fun c => if c = 92 ∨ c = 34 then [92, c] else [c]
theorem escL_is (l : List Nat) : repL 34 [92, 34] (repL 92 [92, 92] l) = escL l := by
  induction l with
  | nil => rfl
  | cons d r ih =>
    have e : repL 92 [92, 92] (d :: r) = (if d = 92 then [92, 92] else [d]) ++ repL 92 [92, 92] r := by simp [repL]
    rw [e, repL_append, ih]
    by_cases h : d = 92
    · subst h; simp [repL, escL]
    · by_cases h2 : d = 34
      · subst h2; simp [repL, escL]
      · simp [repL, escL, h, h2]
theorem len_flatMap_le {α β : Type} (f : α → List β) (k : Nat) (h : ∀ a, (f a).length ≤ k) (l : List α) : (l.flatMap f).length ≤ k * l.length := by
  induction l with
  | nil => simp
  | cons a r ih =>
    rw [List.flatMap_cons, List.length_append, List.length_cons, Nat.mul_succ]
    have := h a
    omega
theorem repL_len (c : Nat) (z l : List Nat) (hz : 1 ≤ z.length) : (repL c z l).length ≤ z.length * l.length := by
  refine len_flatMap_le _ _ (fun d => ?_) l
  split
  · exact Nat.le_refl _
  · exact hz
theorem escL_len (l : List Nat) : (escL l).length ≤ 2 * l.length := by
  refine len_flatMap_le _ _ (fun d => ?_) l
  split <;> simp
theorem escL_append (a b : List Nat) : escL (a ++ b) = escL a ++ escL b := by simp [escL]
theorem escL_ge (l : List Nat) : l.length ≤ (escL l).length := by
  induction l with
  | nil => simp
  | cons d r ih =>
    have e : escL (d :: r) = (if d = 92 ∨ d = 34 then [92, d] else [d]) ++ escL r := by simp [escL]
    rw [e, List.length_append, List.length_cons]
    split <;> simp <;> omega
/-- the text of the parameter named by a dot -/
def fmtL (l : List Nat) : List Nat := [46, 61, 34] ++ escL l ++ [34]
end Mine
namespace Mine
/-- each line end is both signs; b: a return stood just ahead -/
def crl : Bool → List Nat → List Nat
  | _, [] => []
  | b, c :: r => if c = 10 then (if b then crl false r else 13 :: 10 :: crl false r) else if c = 13 then 13 :: 10 :: crl true r else c :: crl false r
/-- a dot more ahead of a row that begins with one; b: a row begins here -/
def dotL : Bool → List Nat → List Nat
  | _, [] => []
  | b, c :: r => (if b = true ∧ c = 46 then [46, 46] else [c]) ++ dotL (c == 10) r
def quoteL (l : List Nat) : List Nat := dotL true (crl false l)
theorem crl_len : ∀ (b : Bool) (l : List Nat), (crl b l).length ≤ 2 * l.length
  | _, [] => by simp [crl]
  | b, c :: r => by
    have h1 := crl_len false r
    have h2 := crl_len true r
    unfold crl
    split
    · split <;> simp <;> omega
    · split <;> simp <;> omega
theorem dotL_len : ∀ (b : Bool) (l : List Nat), (dotL b l).length ≤ 2 * l.length
  | _, [] => by simp [dotL]
  | b, c :: r => by
    have h1 := dotL_len (c == 10) r
    unfold dotL
    split <;> simp <;> omega
theorem quoteL_len (l : List Nat) : (quoteL l).length ≤ 4 * l.length := by
  have h1 := crl_len false l
  have h2 := dotL_len true (crl false l)
  unfold quoteL; omega
theorem crl_true {r : List Nat} (h : r.head? ≠ some 10) : crl true r = crl false r := by
  cases r with
  | nil => rfl
  | cons c r =>
    have : ¬ c = 10 := fun e => h (by rw [e]; rfl)
    simp [crl, this]
theorem drop_at {l : List Nat} {p : Nat} (h : p < l.length) : l.drop p = l.getD p 0 :: l.drop (p + 1) := by
  rw [List.drop_eq_getElem_cons h, List.getD_eq_getElem?_getD, List.getElem?_eq_getElem h]; rfl
theorem crl_run (l : List Nat) : ∀ (n p j : Nat), j - p = n → p ≤ j → j ≤ l.length → (∀ k, p ≤ k → k < j → l.getD k 0 ≠ 10 ∧ l.getD k 0 ≠ 13) →
    crl false (l.drop p) = (l.drop p).take (j - p) ++ crl false (l.drop j)
  | 0, p, j, hn, hpj, hj, _ => by
    have : j = p := by omega
    subst this; simp
  | n + 1, p, j, hn, hpj, hj, hk => by
    have hp : p < l.length := by omega
    have ih := crl_run l n (p + 1) j (by omega) (by omega) hj fun k h1 h2 => hk k (by omega) h2
    have h0 := hk p (Nat.le_refl _) (by omega)
    rw [drop_at hp]
    have e : j - p = (j - (p + 1)) + 1 := by omega
    rw [e, List.take_succ_cons]
    simp only [crl, if_neg h0.1, if_neg h0.2]
    rw [ih]; rfl
def atb (l : List Nat) (p : Nat) : Bool := p == 0 || l.getD (p - 1) 0 == 10
theorem dot_run (l : List Nat) : ∀ (n p j : Nat), j - p = n → p ≤ j → j ≤ l.length → (∀ k, p ≤ k → k < j → ¬ (atb l k = true ∧ l.getD k 0 = 46)) →
    dotL (atb l p) (l.drop p) = (l.drop p).take (j - p) ++ dotL (atb l j) (l.drop j)
  | 0, p, j, hn, hpj, hj, _ => by
    have : j = p := by omega
    subst this; simp
  | n + 1, p, j, hn, hpj, hj, hk => by
    have hp : p < l.length := by omega
    have ih := dot_run l n (p + 1) j (by omega) (by omega) hj fun k h1 h2 => hk k (by omega) h2
    have h0 := hk p (Nat.le_refl _) (by omega)
    have ea : atb l (p + 1) = (l.getD p 0 == 10) := by simp [atb]
    rw [drop_at hp]
    have e : j - p = (j - (p + 1)) + 1 := by omega
    rw [e, List.take_succ_cons]
    simp only [dotL, if_neg h0]
    rw [← ea, ih]; rfl
end Mine
section
open PySem.Builtin PySem.Builtin.Str
namespace Mine
theorem clipZ (a n : Nat) : max (0 : Int) (min (a : Int) (n : Int)) = max (0 : Int) (min ((min a n : Nat) : Int) (n : Int)) := by
  have h : (((min a n : Nat) : Int)) = min (a : Int) (n : Int) := by omega
  rw [h, Int.min_assoc, Int.min_self]
theorem slice_clip (a b : Nat) (n : Nat) : strSliceIndices (some (a : Int)) (some (b : Int)) 1 n = strSliceIndices (some ((min a n : Nat) : Int)) (some ((min b n : Nat) : Int)) 1 n := by
  have nn : ∀ k : Nat, ¬ ((k : Int) < 0) := fun k => by omega
  have h1 := nn a
  have h2 := nn b
  have h3 := nn (min a n)
  have h4 := nn (min b n)
  have e1 := clipZ a n
  have e2 := clipZ b n
  simp only [strSliceIndices, h1, h2, h3, h4, if_false, e1, e2, show ((1 : Int) > 0) = True from by simp, if_true]
theorem slice_none {a b n : Nat} (h : b ≤ a) (hn : a ≤ n) : strSliceIndices (some (a : Int)) (some (b : Int)) 1 n = [] := by
  have h1 : ¬ ((a : Int) < 0) := by omega
  have h2 : ¬ ((b : Int) < 0) := by omega
  have e1 : max (0 : Int) (min (a : Int) (n : Int)) = a := by omega
  have e2 : max (0 : Int) (min (b : Int) (n : Int)) = b := by omega
  have e3 : ¬ ((a : Int) < b) := by omega
  simp only [strSliceIndices, sliceRange, h1, h2, if_false, e1, e2, e3, show ((1 : Int) > 0) = True from by simp, if_true]
  rfl
theorem slice_S (l : List Nat) (a b : Nat) : Txt.slice (S l) (some (a : Int)) (some (b : Int)) = S ((l.drop a).take (b - a)) := by
  show StrLaws.sliceText (S l) (some (a : Int)) (some (b : Int)) = _
  have hlen : (S l).length = l.length := S_len l
  have e : StrLaws.sliceText (S l) (some (a : Int)) (some (b : Int)) = StrLaws.sliceText (S l) (some ((min a l.length : Nat) : Int)) (some ((min b l.length : Nat) : Int)) := by
    unfold StrLaws.sliceText
    rw [hlen, slice_clip]
  rw [e]
  by_cases hab : min a l.length ≤ min b l.length
  · rw [StrLaws.sliceText_nat _ hab (by rw [hlen]; omega)]
    show S _ = S _
    congr 1
    rw [S_cps]
    by_cases ha : a ≤ l.length
    · have : min a l.length = a := by omega
      rw [this]
      by_cases hb : b ≤ l.length
      · have : min b l.length = b := by omega
        rw [this]
      · have : min b l.length = l.length := by omega
        rw [this, List.take_of_length_le (by rw [List.length_drop]; omega), List.take_of_length_le (by rw [List.length_drop]; omega)]
    · have : min a l.length = l.length := by omega
      rw [this, List.drop_of_length_le (Nat.le_refl _), List.drop_of_length_le (show l.length ≤ a by omega)]
      simp
  · unfold StrLaws.sliceText
    rw [hlen, slice_none (by omega) (by omega)]
    have hb : min b l.length < l.length := by omega
    rw [if_neg (by simp; omega)]
    have : b - a = 0 := by omega
    rw [this, List.take_zero]
    rfl
theorem slice_S_from (l : List Nat) (a : Nat) : Txt.slice (S l) (some (a : Int)) none = S (l.drop a) := by
  have e : Txt.slice (S l) (some (a : Int)) none = Txt.slice (S l) (some (a : Int)) (some ((l.length : Nat) : Int)) := by
    show StrLaws.sliceText (S l) _ _ = StrLaws.sliceText (S l) _ _
    unfold StrLaws.sliceText
    rw [StrLaws.sliceIdx_none_hi, S_len]
  rw [e, slice_S, List.take_of_length_le (by rw [List.length_drop]; omega)]
theorem slice_S_to (l : List Nat) (b : Nat) : Txt.slice (S l) none (some (b : Int)) = S (l.take b) := by
  have e : Txt.slice (S l) none (some (b : Int)) = Txt.slice (S l) (some ((0 : Nat) : Int)) (some (b : Int)) := by
    show StrLaws.sliceText (S l) _ _ = StrLaws.sliceText (S l) _ _
    unfold StrLaws.sliceText
    rw [StrLaws.sliceIdx_none_lo]; rfl
  rw [e, slice_S, List.drop_zero, Nat.sub_zero]
/-- all but the last sign -/
theorem slice_S_m1 (l : List Nat) (a : Nat) : Txt.slice (S l) (some (a : Int)) (some (-1)) = S ((l.drop a).take (l.length - 1 - a)) := by
  cases l with
  | nil =>
    show StrLaws.sliceText (S []) _ _ = _
    unfold StrLaws.sliceText
    rw [if_pos]
    · simp
    · have : (S []).length = 0 := rfl
      rw [this]
      have h2 : ¬ ((a : Int) < 0) := by omega
      simp [strSliceIndices, sliceRange, h2]
      omega
  | cons c r =>
    have e : Txt.slice (S (c :: r)) (some (a : Int)) (some (-1)) = Txt.slice (S (c :: r)) (some (a : Int)) (some (((c :: r).length - 1 : Nat) : Int)) := by
      show StrLaws.sliceText (S _) _ _ = StrLaws.sliceText (S _) _ _
      rw [StrLaws.sliceText_neg_hi (S (c :: r)) _ (by decide) (by rw [S_len, List.length_cons]; omega)]
      congr 2
      rw [S_len, List.length_cons]; omega
    rw [e, slice_S]
theorem item_S (l : List Nat) {i : Int} {k : Nat} (e : i = (k : Nat)) (hk : k < l.length) : Txt.item (S l) i = S [l.getD k 0] := by
  subst e
  show (⟨#[((seqIndex? (k : Int) (S l).length).bind ((S l).cps[·]?)).getD 0]⟩ : Str) = S [l.getD k 0]
  rw [StrLaws.seqIndex_nonneg (by omega) (by rw [S_len]; omega)]
  simp [S, List.getD_eq_getElem?_getD]
theorem item_S_last (l : List Nat) (hk : 0 < l.length) : Txt.item (S l) (-1) = S [l.getD (l.length - 1) 0] := by
  show (⟨#[((seqIndex? (-1) (S l).length).bind ((S l).cps[·]?)).getD 0]⟩ : Str) = S [l.getD (l.length - 1) 0]
  rw [StrLaws.seqIndex_neg (by decide) (by rw [S_len]; omega), S_len]
  have : (-1 + (l.length : Int)).toNat = l.length - 1 := by omega
  rw [this]
  simp [S, List.getD_eq_getElem?_getD]
section
variable {prog : Program} {w : World} {A : Around} {E : Value → Shared → Prop} {s : Shared} {value slice : Expr} {l : List Nat} {t : Tok} {Q : Value → Shared → Prop}
theorem itemS {i : Int} {u : Tok} {k : Nat} (e : i = (k : Nat)) (hk : k < l.length) (hl : l.length ≤ 1000000) (h : Q (.str (S [l.getD k 0]) s.toks) { s with toks := s.toks + 1 })
    (hs : subscripted slice false (.str (S l) t) (.int i u) = operate [.str (S l) t, .int i u] (getItem (.str (S l) t) (.int i u)) := by with_unfolding_all rfl)
    (ht : ∀ r, letTemporaryGo value (.str (S l) t) r = pure () := by intro _; with_unfolding_all rfl) :
    wpAny (model prog w) A (subscriptTail value slice (.str (S l) t) (.int i u)) Q E s := by
  refine item_str (fitsSsize_of (N := 9223372036854775808) (by omega) (by omega) (Int.le_refl _)) (by rw [S_len]; omega) (by rw [S_len]; omega) (fun _ => ?_) hs ht
  rw [item_S l e hk]
  exact h
theorem itemS_last {u : Tok} (hk : 0 < l.length) (hl : l.length ≤ 1000000) (h : Q (.str (S [l.getD (l.length - 1) 0]) s.toks) { s with toks := s.toks + 1 })
    (hs : subscripted slice false (.str (S l) t) (.int (-1) u) = operate [.str (S l) t, .int (-1) u] (getItem (.str (S l) t) (.int (-1) u)) := by with_unfolding_all rfl)
    (ht : ∀ r, letTemporaryGo value (.str (S l) t) r = pure () := by intro _; with_unfolding_all rfl) :
    wpAny (model prog w) A (subscriptTail value slice (.str (S l) t) (.int (-1) u)) Q E s := by
  refine item_str (by decide) (by rw [S_len]; omega) (by rw [S_len]; omega) (fun _ => ?_) hs ht
  rw [item_S_last l hk]
  exact h
end
section
variable {prog : Program} {w : World} {A : Around} {E : Value → Shared → Prop} {value slice : Expr} {l : List Nat} {t ui uj : Tok} {Q : Value → Shared → Prop} {h₀ hp : Heap} {L : Addr} {m : Str → Option Value} {news : List (Addr × Obj)} {g : Array GenState} {d : Drawn} {tk : Nat} {os : OsState}
theorem sliceS_ss {i j : Int} {a b : Nat} (ea : i = (a : Nat)) (eb : j = (b : Nat)) (F : Fr h₀ L hp m) (N : News h₀ L hp news) (hl : l.length ≤ 1000000)
    (h : ∀ h' t' k, Fr h₀ L h' m → News h₀ L h' news → tk ≤ k → Q (.str (S ((l.drop a).take (b - a))) t') ⟨h', g, d, k, os⟩)
    (hs : subscripted slice false (.str (S l) t) (.ref hp.objs.size) = operate [.ref hp.objs.size, .str (S l) t] (getItem (.str (S l) t) (.ref hp.objs.size)) := by with_unfolding_all rfl)
    (ht : ∀ r, letTemporaryGo value (.str (S l) t) r = pure () := by intro _; with_unfolding_all rfl) :
    wpAny (model prog w) A (subscriptTail value slice (.str (S l) t) (.ref hp.objs.size)) Q E ⟨hp.push { cls := .type "slice", data := .fields #[.int i ui, .int j uj, .none] }, g, d, tk, os⟩ := by
  subst ea eb
  refine wpAny_tok (slice_strN_ss (s := ⟨hp, g, d, tk, os⟩) (hsz := by rw [S_len, sizeLine_eq]; omega) F N (fun h' t' k F' N' hk => ?_) hs ht)
  rw [slice_S]
  exact h h' t' k F' N' hk
theorem sliceS_sm {i : Int} {a : Nat} (ea : i = (a : Nat)) (F : Fr h₀ L hp m) (N : News h₀ L hp news) (hl : l.length ≤ 1000000)
    (h : ∀ h' t' k, Fr h₀ L h' m → News h₀ L h' news → tk ≤ k → Q (.str (S ((l.drop a).take (l.length - 1 - a))) t') ⟨h', g, d, k, os⟩)
    (hs : subscripted slice false (.str (S l) t) (.ref hp.objs.size) = operate [.ref hp.objs.size, .str (S l) t] (getItem (.str (S l) t) (.ref hp.objs.size)) := by with_unfolding_all rfl)
    (ht : ∀ r, letTemporaryGo value (.str (S l) t) r = pure () := by intro _; with_unfolding_all rfl) :
    wpAny (model prog w) A (subscriptTail value slice (.str (S l) t) (.ref hp.objs.size)) Q E ⟨hp.push { cls := .type "slice", data := .fields #[.int i ui, .int (-1) uj, .none] }, g, d, tk, os⟩ := by
  subst ea
  refine wpAny_tok (slice_strN_ss (s := ⟨hp, g, d, tk, os⟩) (hsz := by rw [S_len, sizeLine_eq]; omega) F N (fun h' t' k F' N' hk => ?_) hs ht)
  rw [slice_S_m1]
  exact h h' t' k F' N' hk
theorem sliceS_ns {j : Int} {b : Nat} (eb : j = (b : Nat)) (F : Fr h₀ L hp m) (N : News h₀ L hp news) (hl : l.length ≤ 1000000)
    (h : ∀ h' t' k, Fr h₀ L h' m → News h₀ L h' news → tk ≤ k → Q (.str (S (l.take b)) t') ⟨h', g, d, k, os⟩)
    (hs : subscripted slice false (.str (S l) t) (.ref hp.objs.size) = operate [.ref hp.objs.size, .str (S l) t] (getItem (.str (S l) t) (.ref hp.objs.size)) := by with_unfolding_all rfl)
    (ht : ∀ r, letTemporaryGo value (.str (S l) t) r = pure () := by intro _; with_unfolding_all rfl) :
    wpAny (model prog w) A (subscriptTail value slice (.str (S l) t) (.ref hp.objs.size)) Q E ⟨hp.push { cls := .type "slice", data := .fields #[.none, .int j uj, .none] }, g, d, tk, os⟩ := by
  subst eb
  refine wpAny_tok (slice_strN_ns (s := ⟨hp, g, d, tk, os⟩) (hsz := by rw [S_len, sizeLine_eq]; omega) F N (fun h' t' k F' N' hk => ?_) hs ht)
  rw [slice_S_to]
  exact h h' t' k F' N' hk
end
theorem foldl_reps (l : List Nat) : ∀ (n : Nat) (a : Array Nat), ((List.replicate n l.toArray).foldl (· ++ ·) a).toList = a.toList ++ (List.replicate n l).flatten
  | 0, a => by simp
  | n + 1, a => by
    rw [List.replicate_succ, List.foldl_cons, foldl_reps l n, List.replicate_succ, List.flatten_cons]
    simp
/-- a text so many times -/
theorem mul_S (l : List Nat) (n : Nat) : Txt.mul (S l) (n : Int) = S (List.replicate n l).flatten := by
  unfold Txt.mul
  split
  · have : n = 0 := by omega
    subst this; rfl
  · split
    · rename_i h1 h2
      rw [Bool.or_eq_true] at h2
      rcases h2 with h2 | h2
      · have : n = 1 := by have := eq_of_beq h2; omega
        subst this; simp
      · rw [S_len] at h2
        have : l = [] := List.eq_nil_of_length_eq_zero (by simpa using h2)
        subst this
        have : (List.replicate n ([] : List Nat)).flatten = [] := by simp
        rw [this]
    · refine S_of_cps ?_
      show ((List.replicate n (S l).cps).foldl (· ++ ·) #[]).toList = _
      have e : (S l).cps = l.toArray := rfl
      rw [e, foldl_reps]
      simp
theorem has_S (l : List Nat) (c : Nat) : (occurrences (S l) (S [c]) 0 (S l).length 1).isEmpty = !decide (c ∈ l) := by
  have := StrLaws.found_one (S l) c
  rw [S_cps] at this
  rw [← this, Bool.not_not]; rfl
end Mine
end
namespace Mine

/-- room for n calls more -/
structure Rm (A : Around) (n : Nat) : Prop where
  hd : A.handled = none
  dep : A.depth + n ≤ 900
  un : A.units + 10 * n ≤ 9000
theorem Rm.deeper {A : Around} {n : Nat} (h : Rm A (n + 1)) (env : Env) : Rm (A.deeper env) n :=
  ⟨h.hd, by have := h.dep; show A.depth + 1 + n ≤ 900; omega, by have := h.un; show A.units + 3 + 10 * n ≤ 9000; omega⟩
theorem Rm.in1 {A : Around} {n : Nat} (h : Rm A (n + 1)) : Rm A.in1 n :=
  ⟨h.hd, by have := h.dep; show A.depth + n ≤ 900; omega, by have := h.un; show A.units + 1 + 10 * n ≤ 9000; omega⟩
theorem Rm.less {A : Around} {n m : Nat} (h : Rm A n) (hm : m ≤ n) : Rm A m := ⟨h.hd, by have := h.dep; omega, by have := h.un; omega⟩
theorem Rm.room {A : Around} {n : Nat} (h : Rm A n) : A.depth < recursionLimit := by have := h.dep; show A.depth < 1000; omega
theorem Rm.units {A : Around} {n : Nat} (h : Rm A n) : A.units < cLine := by have := h.un; show A.units < 9900; omega

/-- what a call leaves -/
structure Kp (s s' : Shared) : Prop where
  keep : ∀ b o, s.heap.get? b = some o → s'.heap.get? b = some o
  os : s'.os = s.os
  tok : s.toks ≤ s'.toks
theorem Kp.refl {s : Shared} : Kp s s := ⟨fun _ _ e => e, rfl, Nat.le_refl _⟩
theorem Kp.trans {s s' s'' : Shared} (a : Kp s s') (b : Kp s' s'') : Kp s s'' := ⟨fun x o e => b.keep x o (a.keep x o e), b.os.trans a.os, Nat.le_trans a.tok b.tok⟩
theorem frKp {h₀ h h' : Heap} {L : Addr} {m : Str → Option Value} (F : Fr h₀ L h m) (k : ∀ b o, h.get? b = some o → h'.get? b = some o) : Fr h₀ L h' m :=
  ⟨F.ns.keeps k, fun b o e => k _ _ (F.keep b o e), F.above⟩
theorem newsKp {h₀ h h' : Heap} {L : Addr} {news : List (Addr × Obj)} (N : News h₀ L h news) (k : ∀ b o, h.get? b = some o → h'.get? b = some o) : News h₀ L h' news :=
  fun p hp => ⟨k _ _ (N p hp).1, (N p hp).2⟩

theorem ret_str {R : Result → Shared → Prop} {s s' : Shared} {x y : Str} {t : Tok} (h : ∀ t s', Kp s s' → R (.ok (.ret (.str y t))) s') (e : x = y) (k : Kp s s') : R (.ok (.ret (.str x t))) s' := by
  subst e; exact h t s' k
theorem Kp.of {s : Shared} {h' : Heap} {L : Addr} {m : Str → Option Value} {g : Array GenState} {d : Drawn} {t : Nat} (F : Fr s.heap L h' m) (ht : s.toks ≤ t) : Kp s ⟨h', g, d, t, s.os⟩ :=
  ⟨F.keep, rfl, ht⟩
section
variable {prog : Program} {w : World} {A : Around} {E : Value → Shared → Prop} {s : Shared}
theorem kp_str {h₀ : Heap} {L : Addr} {m : Str → Option Value} {news : List (Addr × Obj)} {x : Str} {Q : Value → Shared → Prop} (F : Fr h₀ L s.heap m) (N : News h₀ L s.heap news)
    (h : ∀ t' h' g' d' k', Fr h₀ L h' m → News h₀ L h' news → s.toks ≤ k' → Q (.str x t') ⟨h', g', d', k', s.os⟩) : ∀ t' s', Kp s s' → Q (.str x t') s' := by
  rintro t' ⟨h', g', d', k', o'⟩ ⟨a, b, c⟩
  cases b
  exact h t' h' g' d' k' (frKp F a) (newsKp N a) c
theorem rep_call {l zl : List Nat} {c : Nat} {y z : Str} {t u v : Nat} {Q : Value → Shared → Prop} (hy : y = S [c]) (hz : z = S zl) (hne : (y == z) = false)
    (hu : u ≠ 0) (hv : v ≠ 0) (huv : u ≠ v) (hl : l.length ≤ 100000) (hzl : zl.length ≤ 10)
    (hq : ∀ t' k, s.toks ≤ k → Q (.str (S (repL c zl l)) t') { s with toks := k }) :
    wpAny (model prog w) A (call (.builtin "str.replace") [.str (S l) t, .str y u, .str z v]) Q E s := by
  refine wpAny_tok (SC.replace hu hv huv hne ?_ fun t' k hk => ?_)
  · rw [hz, S_len, S_len]
    have : (l.length + 1) * zl.length ≤ (l.length + 1) * 10 := Nat.mul_le_mul_left _ hzl
    omega
  · rw [hy, hz, replace_sign]
    exact hq t' k hk
theorem li_bs : Str.ofString "\\" = S [92] := by decide +kernel
theorem li_bs2 : Str.ofString "\\\\" = S [92, 92] := by decide +kernel
theorem li_q : Str.ofString "\"" = S [34] := by decide +kernel
theorem li_bsq : Str.ofString "\\\"" = S [92, 34] := by decide +kernel
theorem li_cr : Str.ofString "\r" = S [13] := by decide +kernel
theorem li_lf : Str.ofString "\n" = S [10] := by decide +kernel
theorem li_crlf : Str.ofString "\r\n" = S [13, 10] := by decide +kernel
theorem li_dot : Str.ofString "." = S [46] := by decide +kernel
theorem li_dots : Str.ofString ".." = S [46, 46] := by decide +kernel
theorem li_eq : Str.ofString "=" = S [61] := by decide +kernel
theorem li_eqq : Str.ofString "=\"" = S [61, 34] := by decide +kernel
theorem li_no : Str.ofString "" = S [] := by decide +kernel
theorem li_op : Str.ofString "(" = S [40] := by decide +kernel
theorem li_cl : Str.ofString ")" = S [41] := by decide +kernel
theorem li_o : Str.ofString "o" = S [111] := by decide +kernel
theorem li_deeds : Str.ofString "(o)" = S [40, 111, 41] := by decide +kernel
theorem li_marks : Str.ofString "\"\\" = S [34, 92] := by decide +kernel
theorem li_empty : Str.empty = S [] := rfl
/-- the tokens' floor -/
def TokB (n : Nat) : Prop := 0 < n
theorem gen_tok {α : Type} {n tk : Nat} {t : Sem α} {Q : α → Shared → Prop} {hp : Heap} {g : Array GenState} {d : Drawn} {os : OsState} (B : TokB n) (hle : n ≤ tk)
    (h : ∀ k, n ≤ k → 0 < k → wpAny (model prog w) A t Q E ⟨hp, g, d, k, os⟩) : wpAny (model prog w) A t Q E ⟨hp, g, d, tk, os⟩ := h tk hle (Nat.lt_of_lt_of_le B hle)
/-- the tokens' floor, without more -/
def TokW (_ : Nat) : Prop := True
theorem gen_tokW {α : Type} {n tk : Nat} {t : Sem α} {Q : α → Shared → Prop} {hp : Heap} {g : Array GenState} {d : Drawn} {os : OsState} (_ : TokW n) (hle : n ≤ tk)
    (h : ∀ k, n ≤ k → wpAny (model prog w) A t Q E ⟨hp, g, d, k, os⟩) : wpAny (model prog w) A t Q E ⟨hp, g, d, tk, os⟩ := h tk hle
theorem len_S {l : List Nat} {t : Tok} {Q : Value → Shared → Prop} (hl : l.length ≤ 1000000000) (h : Q (.int l.length (s.toks + 1)) { s with toks := s.toks + 1 + 1 }) :
    wpAny (model prog w) A (call (.builtin "len") [.str (S l) t]) Q E s := by
  refine len_str ?_ ?_
  · rw [S_len]; omega
  · rw [S_len]; exact h
end
end Mine
open Mine
local macro_rules | `(tactic| walk_at "mine len") => `(tactic| first | omega | (refine Nat.le_trans (repL_len _ _ _ (by decide)) ?_; (simp only [List.length_cons, List.length_nil]; omega)))
local macro_rules | `(tactic| walk_at "mine lit") => `(tactic| first | exact li_bs | exact li_bs2 | exact li_q | exact li_bsq | exact li_cr | exact li_lf | exact li_crlf | exact li_dot | exact li_dots | exact li_eq | exact li_eqq | exact li_no | exact li_op | exact li_cl | exact li_o | exact li_deeds | exact li_marks | exact rfl)
local macro_rules | `(tactic| walk_at "call builtin:len") => `(tactic| ((with_reducible show wpAny _ _ (call (Value.builtin "len") [Value.str (S _) _]) _ _ _); refine len_S (by omega) ?_))
local macro_rules | `(tactic| walk_at "call builtin:str.replace") => `(tactic| ((with_reducible show wpAny _ _ (call (Value.builtin _) [Value.str (S _) _, Value.str _ _, Value.str _ _]) _ _ _); (refine' rep_call ?a1 ?a2 ?a3 ?a4 ?a5 ?a6 ?a7 ?a8 ?_; (case a1 => walk_at "mine lit"); (case a2 => walk_at "mine lit"); (case a3 => decide +kernel); (case a4 => ((try dsimp only); omega)); (case a5 => ((try dsimp only); omega)); (case a6 => ((try dsimp only); omega)); (case a7 => walk_at "mine len"); (case a8 => decide)); intro t' k' hk'; (try dsimp only at hk'); (try dsimp only)))
local macro_rules | `(tactic| walk_at "mine size") => `(tactic| ((try simp only [escL_is, li_bs, li_bs2, li_q, li_bsq, li_cr, li_lf, li_crlf, li_dot, li_dots, li_eq, li_eqq, li_no, li_op, li_cl, li_o, li_deeds, li_marks, li_empty, S_app, S_len, Str.length_append, List.length_append, List.length_cons, List.length_nil, sizeLine_eq]); omega))
local macro_rules | `(tactic| size_fits) => `(tactic| walk_at "mine size")
local macro_rules | `(tactic| walk_at "forall") => `(tactic| (intro hTk; (try dsimp only at hTk)))
local macro_rules | `(tactic| walk_at "execs cons") => `(tactic| (refine gen_tokW (by with_reducible assumption) (by (try simp only [List.length_cons, List.length_nil]); omega) ?_; intro tk' hTk'; (try dsimp only); refine wpAny_execs_cons (wpAny_tok ?_)))
local macro_rules | `(tactic| walk_at "execs cons") => `(tactic| (refine gen_tok (by with_reducible assumption) (by (try simp only [List.length_cons, List.length_nil]); omega) ?_; intro tk' hTk' hTk0; (try dsimp only); refine wpAny_execs_cons (wpAny_tok ?_)))
local macro_rules | `(tactic| walk_at "exec If") => `(tactic| refine wpAny_If (wpAny_tok ?_))
namespace Mine
theorem fill1 : (PySem.Challenge.rw_tl0001_01.prog = PySem.Challenge.rw_tl0001_01.prog) ∧ (hd.heap_39 = hd.heap_39) := by k_fill; exact ⟨rfl, rfl⟩
theorem formatparam_spec {w : World} {A : Around} {s : Shared} {R : Result → Shared → Prop} {l : List Nat} {t0 t1 : Tok} (S₀ : Std w s.heap) (H : Rm A 5) (ht : 0 < s.toks)
   (hl0 : 0 < l.length) (hl : l.length ≤ 5000) (h : ∀ t s', Kp s s' → R (.ok (.ret (.str (S (fmtL l)) t))) s') :
   codeAny (model PySem.Challenge.rw_tl0001_01.row.prog w) A (.call (.ref 82) ⟨[.str (Str.ofString ".") t0, .str (S l) t1], []⟩) R s := by
  obtain ⟨mean, mg, mb, T⟩ := S₀.t
  have X := S₀.x
  refine' enter_fn (binds := [(Str.ofString "param", .str (Str.ofString ".") t0), (Str.ofString "value", .str (S l) t1), (Str.ofString "quote", .int 1 421)]) X T ?k1 ?k2 ?k3 ?k4 ?k5 ?_ ?k6 ?k7 ?k8 ?k9
  case k1 => k_is
  case k2 => k_is
  case k3 => exact H.room
  case k4 => exact binds_K X rfl (by k_is) rfl rfl rfl
  case k5 => exact locs rfl
  case k6 => rfl
  case k7 => rfl
  case k8 => rfl
  case k9 => decide
  intro h₁ F N
  have hlS : 0 < (S l).length := by rw [S_len]; exact hl0
  have hE := escL_len l
  w_top off
  have hB : TokB s.toks := ht
  (try k_fold)
  k_steps
  dsimp only
  refine ret_str h ?_ (Kp.of (by assumption) (by omega))
  simp only [escL_is, li_q, li_dot, li_eqq, li_empty, S_app, fmtL]
  rfl
end Mine
section
open PySem.Sre (M)
namespace Mine
theorem runFor_add : ∀ (a b : Nat) (m : M), M.runFor (a + b) m = M.runFor b (M.runFor a m)
  | 0, b, m => by rw [Nat.zero_add]; rfl
  | a + 1, b, m => by
    rw [Nat.add_right_comm]
    show (if m.outcome.isSome then m else M.runFor (a + b) m.step) = M.runFor b (if m.outcome.isSome then m else M.runFor a m.step)
    cases h : m.outcome.isSome with
    | true =>
      simp only [if_true]
      cases b with
      | zero => rfl
      | succ b => show m = (if m.outcome.isSome then m else _); rw [h]; rfl
    | false =>
      simp only [Bool.false_eq_true, if_false]
      exact runFor_add a b m.step
theorem runFor_done {m : M} (h : m.outcome.isSome = true) : ∀ n, M.runFor n m = m
  | 0 => rfl
  | n + 1 => by show (if m.outcome.isSome then m else _) = m; rw [h]; rfl

/-- m goes to m' in at most n steps -/
def Goes (n : Nat) (m m' : M) : Prop := ∃ k, k ≤ n ∧ M.runFor k m = m'
theorem Goes.refl {m : M} : Goes 0 m m := ⟨0, Nat.le_refl _, rfl⟩
theorem Goes.trans {a b : Nat} {m m' m'' : M} (h : Goes a m m') (g : Goes b m' m'') : Goes (a + b) m m'' := by
  obtain ⟨i, hi, e⟩ := h
  obtain ⟨j, hj, f⟩ := g
  exact ⟨i + j, by omega, by rw [runFor_add, e, f]⟩
theorem Goes.step {n : Nat} {m m' : M} (ho : m.outcome.isSome = false) (h : Goes n m.step m') : Goes (n + 1) m m' := by
  obtain ⟨i, hi, e⟩ := h
  refine ⟨i + 1, by omega, ?_⟩
  show (if m.outcome.isSome then m else M.runFor i m.step) = m'
  rw [ho]; exact e
theorem Goes.mono {a b : Nat} {m m' : M} (h : Goes a m m') (hab : a ≤ b) : Goes b m m' := let ⟨i, hi, e⟩ := h; ⟨i, Nat.le_trans hi hab, e⟩

section
variable {prog : Program} {w : World} {A : Around} {E : Value → Shared → Prop} {s : Shared}
theorem drive_wp {m' : M} (ho : m'.outcome.isSome = true) {Q : M → Shared → Prop} (hq : Q m' s) :
    ∀ (turns k : Nat) (m : M), k < 4 * turns → M.runFor k m = m' → wpAny (model prog w) A (Builtin.Re.reDrive turns m) Q E s
  | 0, k, m, hk, _ => by omega
  | t + 1, k, m, hk, e => by
    unfold Builtin.Re.reDrive
    show wpAny _ _ (if (M.runFor 4 m).outcome.isSome then pure (M.runFor 4 m) else (do rule "sre.turn"; Builtin.Re.reDrive t (M.runFor 4 m))) Q E s
    by_cases h4 : k ≤ 4
    · have : M.runFor 4 m = m' := by
        have : (4 : Nat) = k + (4 - k) := by omega
        rw [this, runFor_add, e, runFor_done ho]
      rw [this, ho]
      exact wpAny_pure hq
    · cases hs : (M.runFor 4 m).outcome.isSome with
      | true =>
        have : m' = M.runFor 4 m := by
          have : k = 4 + (k - 4) := by omega
          rw [← e, this, runFor_add, runFor_done hs]
        rw [if_pos rfl, ← this]
        exact wpAny_pure hq
      | false =>
        rw [if_neg Bool.false_ne_true]
        refine wpAny_bind (wpAny_rule (drive_wp ho hq t (k - 4) _ (by omega) ?_))
        have : k = 4 + (k - 4) := by omega
        rw [this, runFor_add] at e
        exact e

theorem runEnd_wp {n : Nat} {m m' : M} (g : Goes n m m') (hn : n < 2 ^ 60) {b : Bool} (ho : m'.outcome = some (if b then .matched else .failed)) {Q : Option M → Shared → Prop}
    (hq : Q (if b then some m' else none) s) : wpAny (model prog w) A (Builtin.Re.reRunToEnd m) Q E s := by
  obtain ⟨k, hk, e⟩ := g
  unfold Builtin.Re.reRunToEnd
  refine wpAny_bind (drive_wp (m' := m') (by rw [ho]; rfl) ?_ _ k m (by omega) e)
  refine wpAny_bind (wpAny_forIn_list _ (fun _ _ s' => s' = s) _ ?_ ?_ _ _ rfl)
  · rintro x rest b s' rfl
    show wpAny _ _ (if m'.seen.has x then (do rule _; pure _) else pure _) _ _ _
    cases m'.seen.has x with
    | true => exact wpAny_bind (wpAny_rule (wpAny_pure rfl))
    | false => exact wpAny_pure rfl
  · rintro _ s' rfl
    rw [ho]
    cases b with
    | true => exact wpAny_pure hq
    | false => exact wpAny_pure hq
end
end Mine
end
section
open PySem.Sre (M)
namespace Mine
def code1 : Array Nat := #[14, 4, 0, 1, 1, 6, 1, 16, 46, 1]
def code2 : Array Nat := #[14, 9, 4, 1, 2, 16, 10, 16, 13, 0, 7, 7, 16, 13, 16, 10, 15, 18, 5, 16, 10, 15, 13, 11, 16, 13, 5, 5, 0, 16, 10, 1, 15, 2, 0, 1]

/-- the machine ahead of a try at i -/
def at1 (text : Array Nat) (h i : Nat) (first : Bool) (seen : Sre.Seen) : M :=
  { code := code1, text, lim := text.size, start := i, lastStart := text.size, pc := 5, pos := i, handed := h, outermost := first, marks := #[],
    frames := [{ wait := .nextStart, pc := 5, pos := i, outermost := first }], weight := 1, seen }
def cond1 (text : Array Nat) (i : Nat) : Bool := (i == 0 || text.getD (i - 1) 0 == 10) && (decide (i < text.size) && text.getD i 0 == 46)

theorem at1_step (text : Array Nat) (h i : Nat) (first : Bool) (seen : Sre.Seen) :
    (at1 text h i first seen).step = (if (i == 0 || text.getD (i - 1) 0 == 10) then { at1 text h i first ((seen.add 6).add 44) with pc := 7 } else { at1 text h i first ((seen.add 6).add 44) with answer := some false }) := by
  rfl
theorem at1_no (text : Array Nat) (h i : Nat) (first : Bool) (seen : Sre.Seen) :
    ({ at1 text h i first seen with answer := some false } : M).step =
      if i < text.size then at1 text (i + 1) (i + 1) false seen else { at1 text h i first seen with frames := [], weight := 0, answer := some false } := by
  rfl
theorem at1_over (text : Array Nat) (h i : Nat) (first : Bool) (seen : Sre.Seen) :
    ({ at1 text h i first seen with frames := [], weight := 0, answer := some false } : M).step = { at1 text h i first seen with frames := [], weight := 0, answer := some false, outcome := some .failed } := by
  rfl
theorem at1_lit (text : Array Nat) (h i : Nat) (first : Bool) (seen : Sre.Seen) :
    ({ at1 text h i first seen with pc := 7 } : M).step =
      if i ≥ text.size then { at1 text h i first (seen.add 16) with pc := 7, answer := some false }
      else (if text.getD i 0 == 46 then { at1 text h i first (seen.add 16) with pc := 9, pos := i + 1 } else { at1 text h i first (seen.add 16) with pc := 7, answer := some false }) := by
  show (if i ≥ text.size then _ else _) = _
  split
  · rfl
  · show (match (Except.ok (text.getD i 0 == 46, seen.add 16) : Except String (Bool × Sre.Seen)) with | .error why => _ | .ok (false, seen) => _ | .ok (true, seen) => _) = _
    cases (text.getD i 0 == 46) <;> rfl
theorem at1_no7 (text : Array Nat) (h i : Nat) (first : Bool) (seen : Sre.Seen) :
    ({ at1 text h i first seen with pc := 7, answer := some false } : M).step =
      if i < text.size then at1 text (i + 1) (i + 1) false seen else { at1 text h i first seen with frames := [], weight := 0, answer := some false } := by
  rfl
theorem at1_ok (text : Array Nat) (h i : Nat) (first : Bool) (seen : Sre.Seen) :
    ({ at1 text h i first seen with pc := 9, pos := i + 1 } : M).step = { at1 text h i first (seen.add 1) with pc := 9, pos := i + 1, handed := i + 1, answer := some true } := by
  cases first <;> rfl
theorem at1_yes (text : Array Nat) (h i : Nat) (first : Bool) (seen : Sre.Seen) :
    ({ at1 text h i first seen with pc := 9, pos := i + 1, handed := i + 1, answer := some true } : M).step =
      { at1 text h i first seen with handed := i + 1, frames := [], weight := 0, answer := some true } := by
  rfl
theorem at1_end (text : Array Nat) (h i : Nat) (first : Bool) (seen : Sre.Seen) :
    ({ at1 text h i first seen with handed := i + 1, frames := [], weight := 0, answer := some true } : M).step =
      { at1 text h i first seen with handed := i + 1, frames := [], weight := 0, answer := some true, outcome := some .matched } := by
  rfl

/-- how a search ends: a place and what stands behind it, or none -/
def Found (m' : M) (i e : Nat) : Prop := m'.outcome = some .matched ∧ m'.start = i ∧ m'.handed = e
theorem search1 (text : Array Nat) : ∀ (n h i : Nat) (first : Bool) (seen : Sre.Seen), text.size - i = n → i ≤ text.size →
    (∃ j m', i ≤ j ∧ j < text.size ∧ cond1 text j = true ∧ (∀ k, i ≤ k → k < j → cond1 text k = false) ∧ Goes (4 * n + 6) (at1 text h i first seen) m' ∧ Found m' j (j + 1)) ∨
    (∃ m', (∀ k, i ≤ k → k < text.size → cond1 text k = false) ∧ Goes (4 * n + 6) (at1 text h i first seen) m' ∧ m'.outcome = some .failed) := by
    intro n
    induction n using Nat.strongRecOn with
    | ind n ih =>
    intro h i first seen hn hi
    have again : ∀ (m : M) (c : Nat), c ≤ 3 → Goes c (at1 text h i first seen) m → m.outcome.isSome = false → ∀ (seen' : Sre.Seen),
        m.step = (if i < text.size then at1 text (i + 1) (i + 1) false seen' else { at1 text h i first seen' with frames := [], weight := 0, answer := some false }) → cond1 text i = false →
        (∃ j m', i ≤ j ∧ j < text.size ∧ cond1 text j = true ∧ (∀ k, i ≤ k → k < j → cond1 text k = false) ∧ Goes (4 * n + 6) (at1 text h i first seen) m' ∧ Found m' j (j + 1)) ∨
        (∃ m', (∀ k, i ≤ k → k < text.size → cond1 text k = false) ∧ Goes (4 * n + 6) (at1 text h i first seen) m' ∧ m'.outcome = some .failed) := by
      intro m c hc g ho seen' e hno
      by_cases hlt : i < text.size
      · rw [if_pos hlt] at e
        have g1 : Goes (c + 1) (at1 text h i first seen) (at1 text (i + 1) (i + 1) false seen') := g.trans (Goes.step ho (by rw [e]; exact Goes.refl))
        have hn' : 0 < n := by omega
        rcases ih (n - 1) (by omega) (i + 1) (i + 1) false seen' (by omega) hlt with ⟨j, m', h1, h2, h3, h4, h5, h6⟩ | ⟨m', h1, h2, h3⟩
        · refine .inl ⟨j, m', by omega, h2, h3, fun k hk hkj => ?_, (g1.trans h5).mono (by omega), h6⟩
          by_cases hki : k = i
          · rw [hki]; exact hno
          · exact h4 k (by omega) hkj
        · refine .inr ⟨m', fun k hk hkj => ?_, (g1.trans h2).mono (by omega), h3⟩
          by_cases hki : k = i
          · rw [hki]; exact hno
          · exact h1 k (by omega) hkj
      · rw [if_neg hlt] at e
        refine .inr ⟨_, fun k hk hkj => by omega, (g.trans (Goes.step ho (by rw [e]; exact Goes.step rfl (by rw [at1_over]; exact Goes.refl)))).mono (by omega), rfl⟩
    cases hb : (i == 0 || text.getD (i - 1) 0 == 10) with
    | false =>
      have e1 := at1_step text h i first seen
      rw [hb, if_neg Bool.false_ne_true] at e1
      refine again _ 1 (by omega) (Goes.step rfl (by rw [e1]; exact Goes.refl)) rfl _ (at1_no text h i first ((seen.add 6).add 44)) (by unfold cond1; rw [hb]; rfl)
    | true =>
      have e1 := at1_step text h i first seen
      rw [hb, if_pos rfl] at e1
      have g1 : Goes 1 (at1 text h i first seen) { at1 text h i first ((seen.add 6).add 44) with pc := 7 } := Goes.step rfl (by rw [e1]; exact Goes.refl)
      have e2 := at1_lit text h i first ((seen.add 6).add 44)
      by_cases hlt : i ≥ text.size
      · rw [if_pos hlt] at e2
        refine again _ 2 (by omega) (g1.trans (Goes.step rfl (by rw [e2]; exact Goes.refl))) rfl _ (at1_no7 text h i first _) ?_
        unfold cond1
        rw [decide_eq_false (by omega)]; simp
      · rw [if_neg hlt] at e2
        cases hc : (text.getD i 0 == 46) with
        | false =>
          rw [hc, if_neg Bool.false_ne_true] at e2
          refine again _ 2 (by omega) (g1.trans (Goes.step rfl (by rw [e2]; exact Goes.refl))) rfl _ (at1_no7 text h i first _) ?_
          unfold cond1
          rw [hc]; simp
        | true =>
          rw [hc, if_pos rfl] at e2
          refine .inl ⟨i, _, Nat.le_refl _, by omega, ?_, fun k h1 h2 => by omega,
            (g1.trans (Goes.step rfl (by rw [e2]; exact Goes.step rfl (by rw [at1_ok]; exact Goes.step rfl (by rw [at1_yes]; exact Goes.step rfl (by rw [at1_end]; exact Goes.refl)))))).mono (by omega), rfl, rfl, rfl⟩
          unfold cond1
          rw [hb, hc, decide_eq_true (by omega)]; rfl

theorem start1 (text : Array Nat) (p : Nat) (hp : p < text.size) : Sre.forSearch code1 text 0 p text.size false = at1 text p p true (({} : Sre.Seen).add 14) := by
  have e : Sre.forSearch code1 text 0 p text.size false =
      if (decide (p > text.size) || decide (text.size - p < 1)) = true then ({ at1 text p p true (({} : Sre.Seen).add 14) with frames := [], weight := 0, lastStart := 0, answer := some false } : M)
      else at1 text p p true (({} : Sre.Seen).add 14) := by
    rfl
  rw [e, if_neg (by simp; omega)]
theorem start1_end (text : Array Nat) (p : Nat) (hp : text.size ≤ p) : ∃ m', Goes 1 (Sre.forSearch code1 text 0 p text.size false) m' ∧ m'.outcome = some .failed := by
  have e : Sre.forSearch code1 text 0 p text.size false =
      if (decide (p > text.size) || decide (text.size - p < 1)) = true then ({ at1 text p p true (({} : Sre.Seen).add 14) with frames := [], weight := 0, lastStart := 0, answer := some false } : M)
      else at1 text p p true (({} : Sre.Seen).add 14) := by
    rfl
  rw [e, if_pos (by simp; omega)]
  exact ⟨_, Goes.step rfl Goes.refl, rfl⟩
end Mine
end
section
open PySem.Sre (M)
namespace Mine
/-- the machine of the second pattern, within a try -/
def b2 (text : Array Nat) (i pc pos h : Nat) (om : Bool) (fs : List Sre.Frame) (wt : Nat) (seen : Sre.Seen) : M :=
  { code := code2, text, lim := text.size, start := i, lastStart := text.size, pc, pos, handed := h, outermost := om, marks := #[], frames := fs, weight := wt, seen }
def fr0 (i : Nat) (first : Bool) : Sre.Frame := { wait := .nextStart, pc := 10, pos := i, outermost := first }
def frB (pc i : Nat) (first : Bool) : Sre.Frame := { wait := .nextBranch, pc, pos := i, outermost := first, kept := { lastmark := -1, lastindex := -1, whole := false, marks := #[] } }
def frL (i : Nat) (first : Bool) : Sre.Frame := { wait := .lookNot, pc := 26, pos := i, outermost := first, kept := { lastmark := -1, lastindex := -1, whole := false, marks := #[] } }

section
variable (text : Array Nat) (i pos h : Nat) (om : Bool) (fs : List Sre.Frame) (wt : Nat) (seen : Sre.Seen)
theorem b2_branch : (b2 text i 10 i h om [fr0 i om] 1 seen).step = b2 text i 12 i i om [frB 11 i om, fr0 i om] 2 (seen.add 7) := rfl
theorem b2_lit12 : (b2 text i 12 pos h om fs wt seen).step = if pos ≥ text.size then { b2 text i 12 pos h om fs wt (seen.add 16) with answer := some false }
    else (if text.getD pos 0 == 13 then b2 text i 14 (pos + 1) h om fs wt (seen.add 16) else { b2 text i 12 pos h om fs wt (seen.add 16) with answer := some false }) := by
  show (if pos ≥ text.size then _ else _) = _
  split
  · rfl
  · show (match (Except.ok (text.getD pos 0 == 13, seen.add 16) : Except String (Bool × Sre.Seen)) with | .error why => _ | .ok (false, seen) => _ | .ok (true, seen) => _) = _
    cases (text.getD pos 0 == 13) <;> rfl
theorem b2_lit14 : (b2 text i 14 pos h om fs wt seen).step = if pos ≥ text.size then { b2 text i 14 pos h om fs wt (seen.add 16) with answer := some false }
    else (if text.getD pos 0 == 10 then b2 text i 16 (pos + 1) h om fs wt (seen.add 16) else { b2 text i 14 pos h om fs wt (seen.add 16) with answer := some false }) := by
  show (if pos ≥ text.size then _ else _) = _
  split
  · rfl
  · show (match (Except.ok (text.getD pos 0 == 10, seen.add 16) : Except String (Bool × Sre.Seen)) with | .error why => _ | .ok (false, seen) => _ | .ok (true, seen) => _) = _
    cases (text.getD pos 0 == 10) <;> rfl
theorem b2_lit19 : (b2 text i 19 pos h om fs wt seen).step = if pos ≥ text.size then { b2 text i 19 pos h om fs wt (seen.add 16) with answer := some false }
    else (if text.getD pos 0 == 10 then b2 text i 21 (pos + 1) h om fs wt (seen.add 16) else { b2 text i 19 pos h om fs wt (seen.add 16) with answer := some false }) := by
  show (if pos ≥ text.size then _ else _) = _
  split
  · rfl
  · show (match (Except.ok (text.getD pos 0 == 10, seen.add 16) : Except String (Bool × Sre.Seen)) with | .error why => _ | .ok (false, seen) => _ | .ok (true, seen) => _) = _
    cases (text.getD pos 0 == 10) <;> rfl
theorem b2_lit24 : (b2 text i 24 pos h om fs wt seen).step = if pos ≥ text.size then { b2 text i 24 pos h om fs wt (seen.add 16) with answer := some false }
    else (if text.getD pos 0 == 13 then b2 text i 26 (pos + 1) h om fs wt (seen.add 16) else { b2 text i 24 pos h om fs wt (seen.add 16) with answer := some false }) := by
  show (if pos ≥ text.size then _ else _) = _
  split
  · rfl
  · show (match (Except.ok (text.getD pos 0 == 13, seen.add 16) : Except String (Bool × Sre.Seen)) with | .error why => _ | .ok (false, seen) => _ | .ok (true, seen) => _) = _
    cases (text.getD pos 0 == 13) <;> rfl
theorem b2_lit29 : (b2 text i 29 pos h om fs wt seen).step = if pos ≥ text.size then { b2 text i 29 pos h om fs wt (seen.add 16) with answer := some false }
    else (if text.getD pos 0 == 10 then b2 text i 31 (pos + 1) h om fs wt (seen.add 16) else { b2 text i 29 pos h om fs wt (seen.add 16) with answer := some false }) := by
  show (if pos ≥ text.size then _ else _) = _
  split
  · rfl
  · show (match (Except.ok (text.getD pos 0 == 10, seen.add 16) : Except String (Bool × Sre.Seen)) with | .error why => _ | .ok (false, seen) => _ | .ok (true, seen) => _) = _
    cases (text.getD pos 0 == 10) <;> rfl
theorem b2_j16 : (b2 text i 16 pos h om fs wt seen).step = b2 text i 35 pos h om fs wt (seen.add 15) := rfl
theorem b2_j21 : (b2 text i 21 pos h om fs wt seen).step = b2 text i 35 pos h om fs wt (seen.add 15) := rfl
theorem b2_j32 : (b2 text i 32 pos h om fs wt seen).step = b2 text i 35 pos h om fs wt (seen.add 15) := rfl
theorem b2_ok : (b2 text i 35 pos h om fs wt seen).step = { b2 text i 35 pos pos om fs wt (seen.add 1) with answer := some true } := by cases om <;> rfl
theorem b2_next11 : ({ b2 text i 12 pos h om [frB 11 i om, fr0 i om] 2 seen with answer := some false } : M).step = b2 text i 19 i i om [frB 18 i om, fr0 i om] 2 seen := rfl
theorem b2_next14 : ({ b2 text i 14 pos h om [frB 11 i om, fr0 i om] 2 seen with answer := some false } : M).step = b2 text i 19 i i om [frB 18 i om, fr0 i om] 2 seen := rfl
theorem b2_next18 : ({ b2 text i 19 pos h om [frB 18 i om, fr0 i om] 2 seen with answer := some false } : M).step = b2 text i 24 i i om [frB 23 i om, fr0 i om] 2 seen := rfl
theorem b2_look : (b2 text i 26 pos h om [frB 23 i om, fr0 i om] 2 seen).step = b2 text i 29 pos pos false [frL pos om, frB 23 i om, fr0 i om] 3 (seen.add 5) := rfl
theorem b2_lookno : ({ b2 text i 29 pos h false [frL pos om, frB 23 i om, fr0 i om] 3 seen with answer := some false } : M).step = b2 text i 32 pos h om [frB 23 i om, fr0 i om] 2 seen := rfl
theorem b2_yes (q : Nat) : ({ b2 text i 35 pos h om [frB q i om, fr0 i om] 2 seen with answer := some true } : M).step = { b2 text i q i h om [fr0 i om] 1 seen with answer := some true } := rfl
theorem b2_yes0 (q : Nat) : ({ b2 text i q i h om [fr0 i om] 1 seen with answer := some true } : M).step = { b2 text i 10 i h om [] 0 seen with answer := some true } := rfl
theorem b2_end : ({ b2 text i 10 i h om [] 0 seen with answer := some true } : M).step = { b2 text i 10 i h om [] 0 seen with answer := some true, outcome := some .matched } := rfl
end

/-- from the success on -/
theorem b2_won (text : Array Nat) (i pos h : Nat) (om : Bool) (q : Nat) (seen : Sre.Seen) : ∃ m', Goes 4 (b2 text i 35 pos h om [frB q i om, fr0 i om] 2 seen) m' ∧ Found m' i pos :=
  ⟨_, Goes.step rfl (by rw [b2_ok]; exact Goes.step rfl (by rw [b2_yes]; exact Goes.step rfl (by rw [b2_yes0]; exact Goes.step rfl (by rw [b2_end]; exact Goes.refl)))), rfl, rfl, rfl⟩

def isEnd (c : Nat) : Bool := c == 10 || c == 13
/-- how long the line end at i is -/
def endLen (text : Array Nat) (i : Nat) : Nat := if text.getD i 0 == 13 && decide (i + 1 < text.size) && text.getD (i + 1) 0 == 10 then 2 else 1

theorem try2 (text : Array Nat) (i h : Nat) (om : Bool) (seen : Sre.Seen) (hi : i < text.size) (hc : isEnd (text.getD i 0) = true) :
    ∃ m', Goes 20 (b2 text i 10 i h om [fr0 i om] 1 seen) m' ∧ Found m' i (i + endLen text i) := by
  have hge : ¬ i ≥ text.size := by omega
  have e1 := b2_branch text i h om seen
  have e2 := b2_lit12 text i i i om [frB 11 i om, fr0 i om] 2 (seen.add 7)
  rw [if_neg hge] at e2
  cases h13 : (text.getD i 0 == 13) with
  | true =>
    rw [h13, if_pos rfl] at e2
    have e3 := b2_lit14 text i (i + 1) i om [frB 11 i om, fr0 i om] 2 ((seen.add 7).add 16)
    by_cases hn : i + 1 ≥ text.size
    · -- a return at the end
      rw [if_pos hn] at e3
      have hl : endLen text i = 1 := by unfold endLen; rw [decide_eq_false (by omega)]; simp
      rw [hl]
      have e4 := b2_next14 text i (i + 1) i om (((seen.add 7).add 16).add 16)
      have e5 := b2_lit19 text i i i om [frB 18 i om, fr0 i om] 2 (((seen.add 7).add 16).add 16)
      have h10 : (text.getD i 0 == 10) = false := by rw [beq_iff_eq] at h13; rw [h13]; rfl
      rw [if_neg hge, h10, if_neg Bool.false_ne_true] at e5
      have e6 := b2_next18 text i i i om ((((seen.add 7).add 16).add 16).add 16)
      have e7 := b2_lit24 text i i i om [frB 23 i om, fr0 i om] 2 ((((seen.add 7).add 16).add 16).add 16)
      rw [if_neg hge, h13, if_pos rfl] at e7
      have e8 := b2_look text i (i + 1) i om (((((seen.add 7).add 16).add 16).add 16).add 16)
      have e9 := b2_lit29 text i (i + 1) (i + 1) false [frL (i + 1) om, frB 23 i om, fr0 i om] 3 ((((((seen.add 7).add 16).add 16).add 16).add 16).add 5)
      rw [if_pos hn] at e9
      have e10 := b2_lookno text i (i + 1) (i + 1) om (((((((seen.add 7).add 16).add 16).add 16).add 16).add 5).add 16)
      have e11 := b2_j32 text i (i + 1) (i + 1) om [frB 23 i om, fr0 i om] 2 (((((((seen.add 7).add 16).add 16).add 16).add 16).add 5).add 16)
      obtain ⟨m', g, f⟩ := b2_won text i (i + 1) (i + 1) om 23 ((((((((seen.add 7).add 16).add 16).add 16).add 16).add 5).add 16).add 15)
      refine ⟨m', ?_, f⟩
      refine Goes.mono (Goes.step rfl (e1 ▸ Goes.step rfl (e2 ▸ Goes.step rfl (e3 ▸ Goes.step rfl (e4 ▸ Goes.step rfl (e5 ▸ Goes.step rfl (e6 ▸ Goes.step rfl (e7 ▸ Goes.step rfl (e8 ▸ Goes.step rfl (e9 ▸ Goes.step rfl (e10 ▸ Goes.step rfl (e11 ▸ g))))))))))) ) (by omega)
    · rw [if_neg hn] at e3
      cases h10 : (text.getD (i + 1) 0 == 10) with
      | true =>
        rw [h10, if_pos rfl] at e3
        have hl : endLen text i = 2 := by unfold endLen; rw [h13, h10, decide_eq_true (by omega)]; rfl
        rw [hl]
        have e4 := b2_j16 text i (i + 1 + 1) i om [frB 11 i om, fr0 i om] 2 (((seen.add 7).add 16).add 16)
        obtain ⟨m', g, f⟩ := b2_won text i (i + 1 + 1) i om 11 ((((seen.add 7).add 16).add 16).add 15)
        exact ⟨m', Goes.mono (Goes.step rfl (e1 ▸ Goes.step rfl (e2 ▸ Goes.step rfl (e3 ▸ Goes.step rfl (e4 ▸ g))))) (by omega), f⟩
      | false =>
        rw [h10, if_neg Bool.false_ne_true] at e3
        have hl : endLen text i = 1 := by unfold endLen; rw [h10]; simp
        rw [hl]
        have e4 := b2_next14 text i (i + 1) i om (((seen.add 7).add 16).add 16)
        have e5 := b2_lit19 text i i i om [frB 18 i om, fr0 i om] 2 (((seen.add 7).add 16).add 16)
        have h10' : (text.getD i 0 == 10) = false := by rw [beq_iff_eq] at h13; rw [h13]; rfl
        rw [if_neg hge, h10', if_neg Bool.false_ne_true] at e5
        have e6 := b2_next18 text i i i om ((((seen.add 7).add 16).add 16).add 16)
        have e7 := b2_lit24 text i i i om [frB 23 i om, fr0 i om] 2 ((((seen.add 7).add 16).add 16).add 16)
        rw [if_neg hge, h13, if_pos rfl] at e7
        have e8 := b2_look text i (i + 1) i om (((((seen.add 7).add 16).add 16).add 16).add 16)
        have e9 := b2_lit29 text i (i + 1) (i + 1) false [frL (i + 1) om, frB 23 i om, fr0 i om] 3 ((((((seen.add 7).add 16).add 16).add 16).add 16).add 5)
        rw [if_neg hn, h10, if_neg Bool.false_ne_true] at e9
        have e10 := b2_lookno text i (i + 1) (i + 1) om (((((((seen.add 7).add 16).add 16).add 16).add 16).add 5).add 16)
        have e11 := b2_j32 text i (i + 1) (i + 1) om [frB 23 i om, fr0 i om] 2 (((((((seen.add 7).add 16).add 16).add 16).add 16).add 5).add 16)
        obtain ⟨m', g, f⟩ := b2_won text i (i + 1) (i + 1) om 23 ((((((((seen.add 7).add 16).add 16).add 16).add 16).add 5).add 16).add 15)
        refine ⟨m', ?_, f⟩
        refine Goes.mono (Goes.step rfl (e1 ▸ Goes.step rfl (e2 ▸ Goes.step rfl (e3 ▸ Goes.step rfl (e4 ▸ Goes.step rfl (e5 ▸ Goes.step rfl (e6 ▸ Goes.step rfl (e7 ▸ Goes.step rfl (e8 ▸ Goes.step rfl (e9 ▸ Goes.step rfl (e10 ▸ Goes.step rfl (e11 ▸ g))))))))))) ) (by omega)
  | false =>
    rw [h13, if_neg Bool.false_ne_true] at e2
    have h10 : (text.getD i 0 == 10) = true := by
      unfold isEnd at hc
      rw [h13, Bool.or_false] at hc
      exact hc
    have hl : endLen text i = 1 := by unfold endLen; rw [h13]; simp
    rw [hl]
    have e4 := b2_next11 text i i i om ((seen.add 7).add 16)
    have e5 := b2_lit19 text i i i om [frB 18 i om, fr0 i om] 2 ((seen.add 7).add 16)
    rw [if_neg hge, h10, if_pos rfl] at e5
    have e6 := b2_j21 text i (i + 1) i om [frB 18 i om, fr0 i om] 2 (((seen.add 7).add 16).add 16)
    obtain ⟨m', g, f⟩ := b2_won text i (i + 1) i om 18 ((((seen.add 7).add 16).add 16).add 15)
    exact ⟨m', Goes.mono (Goes.step rfl (e1 ▸ Goes.step rfl (e2 ▸ Goes.step rfl (e4 ▸ Goes.step rfl (e5 ▸ Goes.step rfl (e6 ▸ g)))))) (by omega), f⟩

theorem inSet2 (c : Nat) (seen : Sre.Seen) : ∃ seen', Sre.inSet code2 c code2.size 5 true seen = .ok (isEnd c, seen') := by
  have e : Sre.inSet code2 c code2.size 5 true seen = if (c == 10) = true then .ok (true, seen.add 16) else if (c == 13) = true then .ok (true, (seen.add 16).add 16) else .ok (false, ((seen.add 16).add 16).add 0) := rfl
  rw [e]
  unfold isEnd
  cases (c == 10) with
  | true => exact ⟨_, rfl⟩
  | false =>
    cases (c == 13) with
    | true => exact ⟨_, rfl⟩
    | false => exact ⟨_, rfl⟩

theorem admitted2 (m : M) (hc : m.code = code2) : ∀ (fuel p : Nat) (seen : Sre.Seen), m.lim + 1 - p ≤ fuel → p ≤ m.lim →
    (∃ j seen', p ≤ j ∧ j < m.lim ∧ isEnd (m.text.getD j 0) = true ∧ (∀ k, p ≤ k → k < j → isEnd (m.text.getD k 0) = false) ∧ m.admitted fuel p seen = .ok (some j, seen')) ∨
    ((∀ k, p ≤ k → k < m.lim → isEnd (m.text.getD k 0) = false) ∧ ∃ seen', m.admitted fuel p seen = .ok (none, seen'))
  | 0, p, seen, h, hp => by omega
  | fuel + 1, p, seen, h, hp => by
    unfold M.admitted
    by_cases hge : p ≥ m.lim
    · refine .inr ⟨fun k h1 h2 => by omega, seen, ?_⟩
      rw [if_pos hge]
    · rw [if_neg hge, hc]
      obtain ⟨seen', e⟩ := inSet2 (m.text.getD p 0) seen
      rw [e]
      cases hb : isEnd (m.text.getD p 0) with
      | true => exact .inl ⟨p, seen', Nat.le_refl _, by omega, hb, fun k h1 h2 => by omega, rfl⟩
      | false =>
        dsimp only
        rcases admitted2 m hc fuel (p + 1) seen' (by omega) (by omega) with ⟨j, s2, h1, h2, h3, h4, h5⟩ | ⟨h1, s2, h2⟩
        · refine .inl ⟨j, s2, by omega, h2, h3, fun k hk hkj => ?_, h5⟩
          by_cases hkp : k = p
          · rw [hkp]; exact hb
          · exact h4 k (by omega) hkj
        · refine .inr ⟨fun k hk hkj => ?_, s2, h2⟩
          by_cases hkp : k = p
          · rw [hkp]; exact hb
          · exact h1 k (by omega) hkj
theorem search2 (text : Array Nat) (p : Nat) (hp : p ≤ text.size) :
    (∃ j m', p ≤ j ∧ j < text.size ∧ isEnd (text.getD j 0) = true ∧ (∀ k, p ≤ k → k < j → isEnd (text.getD k 0) = false) ∧ Goes 21 (Sre.forSearch code2 text 0 p text.size false) m' ∧ Found m' j (j + endLen text j)) ∨
    (∃ m', (∀ k, p ≤ k → k < text.size → isEnd (text.getD k 0) = false) ∧ Goes 21 (Sre.forSearch code2 text 0 p text.size false) m' ∧ m'.outcome = some .failed) := by
  have e : Sre.forSearch code2 text 0 p text.size false =
      if (decide (p > text.size) || decide (text.size - p < 1)) = true then ({ b2 text p 10 p p true [] 0 (({} : Sre.Seen).add 14) with lastStart := 0, answer := some false } : M)
      else ({ b2 text p 10 p p true [] 0 (({} : Sre.Seen).add 14) with lastStart := text.size } : M).attemptFrom p true := by
    rfl
  rw [e]
  by_cases hlt : p < text.size
  · rw [if_neg (by simp; omega)]
    have e2 : ({ b2 text p 10 p p true [] 0 (({} : Sre.Seen).add 14) with lastStart := text.size } : M).attemptFrom p true =
        (match ({ b2 text p 10 p p true [] 0 (({} : Sre.Seen).add 14) with lastStart := text.size } : M).admitted (text.size + 1 - p) p (({} : Sre.Seen).add 14) with
          | .ok (some j, seen) => b2 text j 10 j j true [fr0 j true] 1 seen
          | .ok (none, seen) => { b2 text p 10 p p true [] 0 seen with answer := some false }
          | .error why => ({ b2 text p 10 p p true [] 0 (({} : Sre.Seen).add 14) with lastStart := text.size } : M).stick why) := by
      rfl
    rw [e2]
    rcases admitted2 ({ b2 text p 10 p p true [] 0 (({} : Sre.Seen).add 14) with lastStart := text.size } : M) rfl (text.size + 1 - p) p (({} : Sre.Seen).add 14) (Nat.le_refl _) hp with ⟨j, s2, h1, h2, h3, h4, h5⟩ | ⟨h1, s2, h2⟩
    · rw [h5]
      obtain ⟨m', g, f⟩ := try2 text j j true s2 h2 h3
      exact .inl ⟨j, m', h1, h2, h3, h4, g.mono (by omega), f⟩
    · rw [h2]
      refine .inr ⟨_, h1, Goes.mono (Goes.step rfl Goes.refl) (by omega), rfl⟩
  · rw [if_pos (by simp; omega)]
    refine .inr ⟨_, fun k h1 h2 => by omega, Goes.mono (Goes.step rfl Goes.refl) (by omega), rfl⟩

theorem search1' (text : Array Nat) (p : Nat) (hp : p ≤ text.size) :
    (∃ j m', p ≤ j ∧ j < text.size ∧ cond1 text j = true ∧ (∀ k, p ≤ k → k < j → cond1 text k = false) ∧ Goes (4 * text.size + 6) (Sre.forSearch code1 text 0 p text.size false) m' ∧ Found m' j (j + 1)) ∨
    (∃ m', (∀ k, p ≤ k → k < text.size → cond1 text k = false) ∧ Goes (4 * text.size + 6) (Sre.forSearch code1 text 0 p text.size false) m' ∧ m'.outcome = some .failed) := by
  by_cases hlt : p < text.size
  · rw [start1 text p hlt]
    rcases search1 text (text.size - p) p p true (({} : Sre.Seen).add 14) rfl hp with ⟨j, m', h1, h2, h3, h4, h5, h6⟩ | ⟨m', h1, h2, h3⟩
    · exact .inl ⟨j, m', h1, h2, h3, h4, h5.mono (by omega), h6⟩
    · exact .inr ⟨m', h1, h2.mono (by omega), h3⟩
  · obtain ⟨m', g, f⟩ := start1_end text p (by omega)
    exact .inr ⟨m', fun k h1 h2 => by omega, g.mono (by omega), f⟩
end Mine
end
namespace Mine
theorem slot_re_sub : Slot "re.Pattern" "sub" "re.Pattern.sub" :=
  .of (owner := "re.Pattern") (n := "sub") (by rw [typeLookup_type, builtinLookup_eq_fast]; kernel_rfl) (by decide +kernel) (by decide +kernel) (by decide +kernel)
    (by first | exact .inl (by decide +kernel) | exact .inr (by decide +kernel)) (by rw [isSubtype_type]; kernel_rfl)
theorem type_re_sub : typeOf (.builtin "re.Pattern.sub") = pure (.type "method_descriptor") := by show builtinType _ = _; rw [builtinType_eq_fast]; kernel_rfl
theorem entry_re_sub : entryFor table "re.Pattern.sub" = some Builtin.«re.Pattern.sub» := entryFor_of_tree (by kernel_rfl)
theorem entry_re_loop : entryFor table "re.Pattern.sub.loop" = some Builtin.«re.Pattern.sub.loop» := entryFor_of_tree (by kernel_rfl)
theorem args_re_sub (a b c : Value) : argsOk "re.Pattern.sub" ⟨[a, b, c], []⟩ := by unfold argsOk; kernel_rfl
theorem plainAttrs_re : PlainAttrs "re.Pattern" :=
  ⟨⟨"object.__getattribute__", by rw [typeLookup_type, builtinLookup_eq_fast]; kernel_rfl, by decide +kernel⟩, by rw [typeLookup_type, builtinLookup_eq_fast]; kernel_rfl⟩
theorem plain_re_loop : plainId "re.Pattern.sub.loop" = true := by decide +kernel
end Mine
section
open PySem.Builtin.Re
namespace Mine
theorem reNamed_ok (a b : Value) : reNamed "re.Pattern.sub" "sub" ["repl", "string", "count"] 2 [a, b] [] = pure [some a, some b, none] := by rfl
theorem str_no_call : typeLookup (.type "str") "__call__" = pure none := by rw [typeLookup_type, builtinLookup_eq_fast]; kernel_rfl
/-- a pattern of a text, without groups -/
def PatAt (h : Heap) (a : Addr) (code : Array Nat) : Prop :=
  ∃ p f c ws, h.get? a = some { cls := .type "re.Pattern", data := .fields #[p, f, .int 0 0, .none, .none, .ref c, .int 0 0] } ∧ h.get? c = some { cls := .type "tuple", data := .seq ws } ∧ (ws.map reRawOf).map (·.toNat) = code
theorem PatAt.keeps {h h' : Heap} {a : Addr} {code : Array Nat} (x : PatAt h a code) (k : ∀ b o, h.get? b = some o → h'.get? b = some o) : PatAt h' a code :=
  let ⟨p, f, c, ws, h1, h2, h3⟩ := x; ⟨p, f, c, ws, k _ _ h1, k _ _ h2, h3⟩
section
variable {prog : Program} {w : World} {A : Around} {E : Value → Shared → Prop} {s : Shared}
theorem whole_wp {a : Addr} {code : Array Nat} {l : List Nat} {t : Tok} {Q : ReTarget → Shared → Prop} (P : PatAt s.heap a code)
    (h : Q { pattern := .ref a, string := .str (S l) t, code, text := l.toArray, kind := 0, groups := 0, pos := 0, lim := l.toArray.size } s) :
    wpAny (model prog w) A (reWholeTarget (.ref a) (.str (S l) t)) Q E s := by
  obtain ⟨p, f, c, ws, h1, h2, rfl⟩ := P
  unfold reWholeTarget
  refine wpAny_bind (wpAny_fieldsOf h1 rfl ?_)
  show wpAny _ _ (reRawItems (.ref c) >>= fun r => pure ({ pattern := .ref a, string := .str (S l) t, code := r.map (·.toNat), text := l.toArray, kind := 0, groups := 0, pos := 0, lim := l.toArray.size } : ReTarget)) Q E s
  unfold reRawItems
  exact wpAny_bind (wpAny_bind (wpAny_seqItems h2 rfl (wpAny_pure (wpAny_pure h))))

theorem entry_re_sub_call {a : Addr} {code : Array Nat} {l : List Nat} {rl : List Nat} {t u : Tok} {R : Result → Shared → Prop} (P : PatAt s.heap a code) (hr : rl.contains 92 = false)
    (h : ∀ h', h'.IsList s.heap.objs.size #[] → (∀ b o, s.heap.get? b = some o → h'.get? b = some o) → codeAny (model prog w) A (.builtin "re.Pattern.sub.loop" ⟨[.ref a, .str (S l) t, .str (S rl) u, rawInt 0, rawInt 0, rawInt 0, rawInt 0, rawInt 0, .bool false, .ref s.heap.objs.size, .bool false], []⟩) R { s with heap := h' }) :
    codeAny (model prog w) A (.call (.builtin "re.Pattern.sub") ⟨[.ref a, .str (S rl) u, .str (S l) t], []⟩) R s := by
  have hT : s.TypeIs (.ref a) "re.Pattern" := by
    obtain ⟨p, f, c, ws, h1, _⟩ := P
    exact ⟨_, h1, rfl⟩
  refine codeAny_call_builtin slot_re_sub.plain entry_re_sub (slot_re_sub.check _ _ _ _ _ _ _ _ hT (args_re_sub _ _ _) ?_)
  show wpAny _ _ (reSubstitute "re.Pattern.sub" "sub" false ⟨[.ref a, .str (S rl) u, .str (S l) t], []⟩) _ _ s
  unfold reSubstitute
  show wpAny _ _ (reNamed "re.Pattern.sub" "sub" ["repl", "string", "count"] 2 [.str (S rl) u, .str (S l) t] [] >>= _) _ _ s
  rw [reNamed_ok]
  refine wpAny_bind (wpAny_pure ?_)
  dsimp only
  refine wpAny_bind (wpAny_pure ?_)
  refine wpAny_bind (wpAny_specialOf (T := "str") rfl str_no_call ?_)
  have hr' : (S rl).cps.contains 92 = false := by
    simpa [S] using hr
  show wpAny _ _ (asStr? (.str (S rl) u) >>= _) _ _ s
  refine wpAny_bind (wpAny_pure ?_)
  dsimp only
  refine wpAny_bind (wpAny_pure ?_)
  rw [hr']
  dsimp only [Option.isSome, Bool.not_false]
  rw [if_neg Bool.false_ne_true, if_pos (show (!false) = true from rfl)]
  refine wpAny_bind (wpAny_pure ?_)
  refine wpAny_bind (wpAny_holding (whole_wp P ?_))
  dsimp only
  rw [if_neg (show ¬ ((0 : Int) == 1) = true by decide)]
  show wpAny _ _ (newList [] >>= _) _ _ s
  refine wpAny_bind (wpAny_newObj_type (wpAny_pure ⟨plainId_quiet plain_re_loop _, ?_⟩) (by size_fits))
  exact h _ ⟨_, Heap.get?_push_size _ rfl, rfl, _, rfl⟩ fun b o e => Heap.get?_push_of_some _ e

theorem push_wp {P : Addr} {items : Array Value} {x : Value} {Q : Unit → Shared → Prop} (hl : s.heap.IsList P items) (hz : items.size ≤ 1000000)
    (h : ∀ h', h'.IsList P (items.push x) → Heap.SameBut P s.heap h' → Q () { s with heap := h' }) : wpAny (model prog w) A (updateSeq P (·.push x)) Q E s := by
  obtain ⟨o, ho, hc, n, hd⟩ := id hl
  obtain ⟨n', hd'⟩ := Obj.data_mapSeq hd (·.push x)
  refine wpAny_updateSeq ho hd (h _ ?_ (Heap.SameBut.update ..)) (by rw [sizeLine_eq]; omega) (by rw [Array.size_push, sizeLine_eq]; omega)
  exact ⟨_, Heap.get?_update_self _ ho (Obj.isFreed_of_seq hd'), (Obj.cls_mapSeq ..).trans hc, n', hd'⟩
theorem slice_wp {l : List Nat} {b e : Nat} {Q : Value → Shared → Prop} (hl : l.length ≤ 1000000) (h : Q (.str (S ((l.drop b).take (e - b))) s.toks) { s with toks := s.toks + 1 }) :
    wpAny (model prog w) A (reSlice l.toArray 0 b e) Q E s := by
  have e1 : (⟨l.toArray.extract b e⟩ : Str) = S ((l.drop b).take (e - b)) := by
    unfold S
    rw [List.extract_toArray]
  show wpAny _ _ (mkStr ⟨l.toArray.extract b e⟩) Q E s
  rw [e1]
  refine wpAny_mkStr h ?_
  rw [S_len, List.length_take, List.length_drop, sizeLine_eq]
  omega
theorem strs_snoc {vs : List Value} {ys : List Str} (h : StrsAre vs ys) (y : Str) (t : Tok) : StrsAre (vs ++ [.str y t]) (ys ++ [y]) := by
  induction h with
  | nil => exact .cons y t .nil
  | cons z u _ ih => exact .cons z u ih
theorem strs_length {vs : List Value} {ys : List Str} (h : StrsAre vs ys) : vs.length = ys.length := by
  induction h with
  | nil => rfl
  | cons z u _ ih => simp [ih]
def joinL (sep : List Nat) : List (List Nat) → List Nat
  | [] => []
  | [x] => x
  | x :: y :: r => x ++ sep ++ joinL sep (y :: r)
theorem join_S (sep : List Nat) : ∀ ls : List (List Nat), Str.join (S sep) (ls.map S) = S (joinL sep ls)
  | [] => rfl
  | [x] => rfl
  | x :: y :: r => by
    show S x ++ S sep ++ Str.join (S sep) ((y :: r).map S) = _
    rw [join_S sep (y :: r), S_app, S_app]; rfl
theorem joinL_nil : ∀ ls : List (List Nat), joinL [] ls = ls.flatten
  | [] => rfl
  | [x] => by simp [joinL]
  | x :: y :: r => by rw [joinL, joinL_nil (y :: r)]; simp
theorem txt_join_S (sep : List Nat) (ls : List (List Nat)) : Txt.join (S sep) (ls.map S) = S (joinL sep ls) := by
  show Builtin.Str.glued (S sep) (ls.map S) = _
  rw [StrLaws.glued_eq_join, join_S]

theorem join_call {sep : List Nat} {ls : List (List Nat)} {D : Addr} {items : Array Value} {t : Tok} {Q : Value → Shared → Prop} (hl : s.heap.IsList D items) (hi : StrsAre items.toList (ls.map S))
    (hok : (ls.map List.length).sum + ls.length * sep.length ≤ 16777216) (h : ∀ t' k, s.toks ≤ k → Q (.str (S (joinL sep ls)) t') { s with toks := k }) :
    wpAny (model prog w) A (call (.builtin "str.join") [.str (S sep) t, .ref D]) Q E s := by
  refine wpAny_tok (join_list hl hi ?_ fun t' k hk => ?_)
  · rw [List.length_map, S_len, List.map_map]
    have : (Str.length ∘ S) = List.length := by funext x; exact S_len x
    rw [this]; exact hok
  · rw [txt_join_S]; exact h t' k hk

theorem sub_loop {a P : Addr} {code : Array Nat} {l rl : List Nat} {N : Nat} (out : Nat → List Nat) (hl : l.length ≤ 100000) (hN : N < 2 ^ 60) (hout : (out 0).length ≤ 1000000)
    (H : ∀ p, p ≤ l.length → (∃ j e m', p ≤ j ∧ j < e ∧ e ≤ l.length ∧ out p = (l.drop p).take (j - p) ++ rl ++ out e ∧ Goes N (Sre.forSearch code l.toArray 0 p l.toArray.size false) m' ∧ Found m' j e) ∨
      (∃ m', out p = l.drop p ∧ Goes N (Sre.forSearch code l.toArray 0 p l.toArray.size false) m' ∧ m'.outcome = some .failed)) :
    ∀ (k p n : Nat) (t u : Tok) (s₀ s : Shared) (items : Array Value) (ls : List (List Nat)) (R : Result → Shared → Prop), l.length - p = k → p ≤ l.length →
      PatAt s₀.heap a code → s₀.heap.get? P = none → (∀ b o, s₀.heap.get? b = some o → s.heap.get? b = some o) → s.os = s₀.os → s₀.toks ≤ s.toks →
      s.heap.IsList P items → StrsAre items.toList (ls.map S) → items.size ≤ 2 * p → ls.flatten ++ out p = out 0 →
      (∀ t' s', Kp s₀ s' → R (.ok (.ret (.str (S (out 0)) t'))) s') →
      codeAny (model prog w) A (.builtin "re.Pattern.sub.loop" ⟨[.ref a, .str (S l) t, .str (S rl) u, rawInt 0, rawInt 0, rawInt n, rawInt p, rawInt p, .bool false, .ref P, .bool false], []⟩) R s := by
    intro k
    induction k using Nat.strongRecOn with
    | ind k ih =>
    intro p n t u s₀ s items ls R hk hp hP hPn hkeep hos htk hL hS hsz hfl h
    have stay : ∀ {h' : Heap}, Heap.SameBut P s.heap h' → ∀ b o, s₀.heap.get? b = some o → h'.get? b = some o := fun hs b o e =>
      (hs.2 b fun q => by rw [q, hPn] at e; cases e).trans (hkeep b o e)
    refine codeAny_builtin entry_re_loop ?_
    rw [Around.under_plainId plain_re_loop]
    unfold Builtin.«re.Pattern.sub.loop»
    show wpAny _ _ (reWholeTarget (.ref a) (.str (S l) t) >>= _) _ _ s
    refine wpAny_bind (whole_wp (hP.keeps hkeep) ?_)
    dsimp only
    rw [if_pos (show ((0 : Int) == 0) = true from rfl)]
    show wpAny _ _ (reLiteralCannotBeTurned (.str (S rl) u) >>= _) _ _ s
    have e0 : reLiteralCannotBeTurned (.str (S rl) u) = pure () := rfl
    rw [e0]
    refine wpAny_bind (wpAny_pure ?_)
    rw [if_neg (show ¬ ((0 : Int) != 0 && decide ((n : Int) ≥ 0)) = true by simp)]
    have ep : ((p : Int)).toNat = p := Int.toNat_natCast p
    unfold reNextFound
    rw [ep]
    rcases H p hp with ⟨j, e, m', h1, h2, h3, h4, g, f⟩ | ⟨m', h1, g, f⟩
    · refine wpAny_bind (runEnd_wp (b := true) g hN f.1 ?_)
      rw [if_pos rfl]
      dsimp only
      rw [f.2.1, f.2.2]
      have hbf : (e == j) = false := by rw [beq_eq_false_iff_ne]; omega
      rw [hbf, if_pos (show ((0 : Int) == 0) = true from rfl)]
      -- the piece that is put in, and the next turn
      have next : ∀ (h₁ : Heap) (tk : Nat) (items₁ : Array Value) (ls₁ : List (List Nat)), (∀ b o, s₀.heap.get? b = some o → h₁.get? b = some o) → s₀.toks ≤ tk → h₁.IsList P items₁ → StrsAre items₁.toList (ls₁.map S) →
          items₁.size ≤ 2 * p + 1 → ls₁.flatten ++ rl ++ out e = out 0 →
          wpAny (model prog w) A.in1 (do
            let item ← pure (Value.str (S rl) u)
            if (item != Value.none) = true then do
              updateSeq P fun x => x.push item
              again (Code.builtin "re.Pattern.sub.loop" ⟨[Value.ref a, Value.str (S l) t, Value.str (S rl) u, rawInt 0, rawInt 0, rawInt (n + 1), rawInt e, rawInt e, Value.bool false, Value.ref P, Value.bool false], []⟩)
            else again (Code.builtin "re.Pattern.sub.loop" ⟨[Value.ref a, Value.str (S l) t, Value.str (S rl) u, rawInt 0, rawInt 0, rawInt (n + 1), rawInt e, rawInt e, Value.bool false, Value.ref P, Value.bool false], []⟩))
            (fun fin s' => match fin with | .done f => R (.ok f) s' | .again c' => c'.quiet = true ∧ codeAny (model prog w) A c' R s') (fun e s' => R (.error e) s') { s with heap := h₁, toks := tk } := by
        intro h₁ tk items₁ ls₁ hk₁ ht₁ hL₁ hS₁ hz₁ hf₁
        refine wpAny_bind (wpAny_pure ?_)
        rw [if_pos (show (Value.str (S rl) u != Value.none) = true from rfl)]
        refine wpAny_bind (push_wp hL₁ (by omega) fun h₂ hL₂ hs₂ => ?_)
        refine wpAny_pure ⟨plainId_quiet plain_re_loop _, ?_⟩
        have := ih (l.length - e) (by omega) e (n + 1) t u s₀ { s with heap := h₂, toks := tk } (items₁.push (.str (S rl) u)) (ls₁ ++ [rl]) R rfl h3 hP hPn
          (fun b o ho => (hs₂.2 b fun q => by rw [q, hPn] at ho; cases ho).trans (hk₁ b o ho)) hos ht₁ hL₂ (by rw [Array.toList_push, List.map_append]; exact strs_snoc hS₁ _ _) (by rw [Array.size_push]; omega)
          (by rw [List.flatten_append]; simpa using hf₁) h
        exact this
      have hmul : items.size ≤ 200000 := by omega
      by_cases hpj : p < j
      · rw [if_pos hpj]
        refine wpAny_bind (slice_wp (by omega) ?_)
        refine wpAny_bind (push_wp hL (by omega) fun h₂ hL₂ hs₂ => ?_)
        have := next h₂ (s.toks + 1) _ (ls ++ [(l.drop p).take (j - p)]) (stay hs₂) (by omega) hL₂ (by rw [Array.toList_push, List.map_append]; exact strs_snoc hS _ _) (by rw [Array.size_push]; omega)
          (by rw [List.flatten_append]; simp only [List.flatten_cons, List.flatten_nil, List.append_nil]; rw [← hfl, h4]; simp only [List.append_assoc])
        exact this
      · rw [if_neg hpj]
        have ejp : j - p = 0 := by omega
        have := next s.heap s.toks items ls hkeep htk hL hS (by omega) (by rw [← hfl, h4, ejp]; simp)
        exact this
    · refine wpAny_bind (runEnd_wp (b := false) g hN f ?_)
      rw [if_neg Bool.false_ne_true]
      dsimp only
      have lin : ∀ L : List (List Nat), (L.map List.length).sum = L.flatten.length := fun L => by rw [List.length_flatten]
      have next : ∀ (h₁ : Heap) (tk : Nat) (items₁ : Array Value) (ls₁ : List (List Nat)), (∀ b o, s₀.heap.get? b = some o → h₁.get? b = some o) → s₀.toks ≤ tk → h₁.IsList P items₁ → StrsAre items₁.toList (ls₁.map S) →
          ls₁.flatten = out 0 →
          wpAny (model prog w) A.in1 (do
              let joiner ← reSlice l.toArray 0 0 0
              let __do_lift ← seqItems? (Value.ref P)
              if (__do_lift.getD #[]).isEmpty = true then do
                  let text ← pure joiner
                  if false = true then do
                      let __do_lift ← holding [text] do
                            let __do_lift ← mkInt ↑n
                            newTuple [text, __do_lift]
                      ret __do_lift
                    else ret text
                else do
                  let text ← call (Value.builtin (if ((0 : Nat) == 0) = true then "str.join" else "bytes.join")) [joiner, Value.ref P]
                  if false = true then do
                      let __do_lift ← holding [text] do
                            let __do_lift ← mkInt ↑n
                            newTuple [text, __do_lift]
                      ret __do_lift
                    else ret text)
            (fun fin s' => match fin with | .done f => R (.ok f) s' | .again c' => c'.quiet = true ∧ codeAny (model prog w) A c' R s') (fun e s' => R (.error e) s') { s with heap := h₁, toks := tk } := by
        intro h₁ tk items₁ ls₁ hk₁ ht₁ hL₁ hS₁ hf₁
        refine wpAny_bind (slice_wp (by omega) ?_)
        obtain ⟨o, ho, hc, nn, hd⟩ := id hL₁
        refine wpAny_bind (wpAny_seqItems ho hd ?_)
        cases hem : ((some items₁).getD #[]).isEmpty with
        | true =>
          rw [if_pos rfl]
          refine wpAny_bind (wpAny_pure ?_)
          rw [if_neg Bool.false_ne_true]
          refine wpAny_pure ?_
          have hi0 : items₁ = #[] := by simpa using hem
          subst hi0
          have hls : ls₁ = [] := by
            have := strs_length hS₁
            simp at this
            exact List.eq_nil_of_length_eq_zero this.symm
          rw [hls] at hf₁
          have e0 : (List.drop 0 l).take (0 - 0) = [] := by simp
          rw [e0]
          have : out 0 = [] := by rw [← hf₁]; rfl
          rw [← this]
          exact h _ _ ⟨hk₁, hos, by show s₀.toks ≤ tk + 1; omega⟩
        | false =>
          rw [if_neg Bool.false_ne_true, if_pos (show ((0 : Nat) == 0) = true from rfl)]
          have e0 : (List.drop 0 l).take (0 - 0) = [] := by simp
          rw [e0]
          refine wpAny_bind (join_call hL₁ hS₁ ?_ fun t' k hk => ?_)
          · rw [lin, hf₁]; simp; omega
          · rw [if_neg Bool.false_ne_true]
            refine wpAny_pure ?_
            rw [joinL_nil, hf₁]
            exact h _ _ ⟨hk₁, hos, by have hk' : tk + 1 ≤ k := hk; show s₀.toks ≤ k; omega⟩
      have hmul : items.size ≤ 200000 := by omega
      by_cases hpj : p < l.toArray.size
      · rw [if_pos hpj]
        refine wpAny_bind (slice_wp (by omega) ?_)
        refine wpAny_bind (push_wp hL (by omega) fun h₂ hL₂ hs₂ => ?_)
        have := next h₂ (s.toks + 1) _ (ls ++ [(l.drop p).take (l.toArray.size - p)]) (stay hs₂) (by omega) hL₂ (by rw [Array.toList_push, List.map_append]; exact strs_snoc hS _ _)
          (by rw [List.flatten_append]; simp only [List.flatten_cons, List.flatten_nil, List.append_nil]; rw [← hfl, h1]; congr 1; rw [List.size_toArray]; exact List.take_of_length_le (by rw [List.length_drop]; omega))
        exact this
      · rw [if_neg hpj]
        have := next s.heap s.toks items ls hkeep htk hL hS (by rw [← hfl, h1]; rw [List.drop_of_length_le (by rw [List.size_toArray] at hpj; omega)]; simp)
        exact this
end
end Mine
end
namespace Mine
theorem arr_getD (l : List Nat) (i : Nat) : l.toArray.getD i 0 = l.getD i 0 := by
  rw [List.getD_eq_getElem?_getD, Array.getD_eq_getD_getElem?]; simp
section
variable {prog : Program} {w : World} {A : Around} {E : Value → Shared → Prop} {s : Shared}
theorem sub_call {a : Addr} {code : Array Nat} {l rl : List Nat} {t u : Tok} {N : Nat} (out : Nat → List Nat) (P : PatAt s.heap a code) (hr : rl.contains 92 = false) (hl : l.length ≤ 100000) (hN : N < 2 ^ 60) (hout : (out 0).length ≤ 1000000)
    (H : ∀ p, p ≤ l.length → (∃ j e m', p ≤ j ∧ j < e ∧ e ≤ l.length ∧ out p = (l.drop p).take (j - p) ++ rl ++ out e ∧ Goes N (Sre.forSearch code l.toArray 0 p l.toArray.size false) m' ∧ Found m' j e) ∨
      (∃ m', out p = l.drop p ∧ Goes N (Sre.forSearch code l.toArray 0 p l.toArray.size false) m' ∧ m'.outcome = some .failed))
    {Q : Value → Shared → Prop} (h : ∀ t' s', Kp s s' → Q (.str (S (out 0)) t') s') :
    wpAny (model prog w) A (call (.builtin "re.Pattern.sub") [.ref a, .str (S rl) u, .str (S l) t]) Q E s := by
  refine wpAny_call (entry_re_sub_call P hr fun h' hL hk => ?_)
  have hPn : s.heap.get? s.heap.objs.size = none := by
    cases q : s.heap.get? s.heap.objs.size with
    | none => rfl
    | some o => exact absurd (Heap.lt_size q) (Nat.lt_irrefl _)
  exact sub_loop (P := s.heap.objs.size) (N := N) out hl hN hout H (l.length - 0) 0 0 t u s { s with heap := h' } #[] [] _ rfl (Nat.zero_le _) P hPn hk rfl (Nat.le_refl _) hL .nil (Nat.le_refl _) (by simp) (fun t' s' k => h t' s' k)

theorem quote2_H (l : List Nat) : ∀ p, p ≤ l.length → (∃ j e m', p ≤ j ∧ j < e ∧ e ≤ l.length ∧ crl false (l.drop p) = (l.drop p).take (j - p) ++ [13, 10] ++ crl false (l.drop e) ∧ Goes 21 (Sre.forSearch code2 l.toArray 0 p l.toArray.size false) m' ∧ Found m' j e) ∨
      (∃ m', crl false (l.drop p) = l.drop p ∧ Goes 21 (Sre.forSearch code2 l.toArray 0 p l.toArray.size false) m' ∧ m'.outcome = some .failed) := by
  intro p hp
  have notEnd : ∀ k, isEnd (l.toArray.getD k 0) = false → l.getD k 0 ≠ 10 ∧ l.getD k 0 ≠ 13 := by
    intro k hk
    rw [arr_getD] at hk
    unfold isEnd at hk
    simpa using hk
  rcases search2 l.toArray p (by rw [List.size_toArray]; exact hp) with ⟨j, m', h1, h2, h3, h4, g, f⟩ | ⟨m', h1, g, f⟩
  · rw [List.size_toArray] at h2
    have hrun := crl_run l (j - p) p j rfl h1 (by omega) fun k a b => notEnd k (h4 k a b)
    refine .inl ⟨j, j + endLen l.toArray j, m', h1, ?_, ?_, ?_, g, f⟩
    · unfold endLen; split <;> omega
    · unfold endLen
      split
      · rename_i q
        rw [List.size_toArray] at q
        simp only [Bool.and_eq_true, decide_eq_true_eq] at q
        omega
      · omega
    · rw [hrun, List.append_assoc]
      congr 1
      rw [drop_at h2]
      rw [arr_getD] at h3
      unfold endLen
      rw [arr_getD, arr_getD, List.size_toArray]
      by_cases c13 : l.getD j 0 = 13
      · by_cases hn : j + 1 < l.length
        · by_cases c10 : l.getD (j + 1) 0 = 10
          · rw [c13, c10, decide_eq_true hn]
            show crl false (13 :: l.drop (j + 1)) = [13, 10] ++ crl false (l.drop (j + 2))
            rw [drop_at hn, c10]; rfl
          · have e1 : ((l.getD j 0 == 13) && decide (j + 1 < l.length) && (l.getD (j + 1) 0 == 10)) = false := by rw [beq_eq_false_iff_ne.mpr c10, Bool.and_false]
            rw [e1, if_neg Bool.false_ne_true, c13]
            show 13 :: 10 :: crl true (l.drop (j + 1)) = [13, 10] ++ crl false (l.drop (j + 1))
            rw [crl_true (by rw [drop_at hn]; simpa using c10)]; rfl
        · have e1 : ((l.getD j 0 == 13) && decide (j + 1 < l.length) && (l.getD (j + 1) 0 == 10)) = false := by rw [decide_eq_false hn]; simp
          rw [e1, if_neg Bool.false_ne_true, c13]
          show 13 :: 10 :: crl true (l.drop (j + 1)) = [13, 10] ++ crl false (l.drop (j + 1))
          rw [List.drop_of_length_le (by omega)]; rfl
      · have c10 : l.getD j 0 = 10 := by
          unfold isEnd at h3
          simp only [Bool.or_eq_true, beq_iff_eq] at h3
          rcases h3 with h3 | h3
          · exact h3
          · exact absurd h3 c13
        have e1 : ((l.getD j 0 == 13) && decide (j + 1 < l.length) && (l.getD (j + 1) 0 == 10)) = false := by rw [c10]; rfl
        rw [e1, if_neg Bool.false_ne_true, c10]; rfl
  · refine .inr ⟨m', ?_, g, f⟩
    rw [List.size_toArray] at h1
    have hrun := crl_run l (l.length - p) p l.length rfl hp (Nat.le_refl _) fun k a b => notEnd k (h1 k a b)
    rw [hrun, List.drop_of_length_le (Nat.le_refl _), List.take_of_length_le (by rw [List.length_drop]; omega)]
    show l.drop p ++ [] = _
    rw [List.append_nil]

theorem quote1_H (l : List Nat) : ∀ p, p ≤ l.length → (∃ j e m', p ≤ j ∧ j < e ∧ e ≤ l.length ∧ dotL (atb l p) (l.drop p) = (l.drop p).take (j - p) ++ [46, 46] ++ dotL (atb l e) (l.drop e) ∧ Goes (4 * l.length + 6) (Sre.forSearch code1 l.toArray 0 p l.toArray.size false) m' ∧ Found m' j e) ∨
      (∃ m', dotL (atb l p) (l.drop p) = l.drop p ∧ Goes (4 * l.length + 6) (Sre.forSearch code1 l.toArray 0 p l.toArray.size false) m' ∧ m'.outcome = some .failed) := by
  intro p hp
  have ec : ∀ k, cond1 l.toArray k = (atb l k && (decide (k < l.length) && l.getD k 0 == 46)) := by
    intro k
    unfold cond1 atb
    rw [arr_getD, arr_getD, List.size_toArray]
  have not1 : ∀ k, k < l.length → cond1 l.toArray k = false → ¬ (atb l k = true ∧ l.getD k 0 = 46) := by
    intro k hk h
    rw [ec, decide_eq_true hk] at h
    rintro ⟨h1, h2⟩
    rw [h1, h2] at h
    exact absurd h (by decide)
  have hs := search1' l.toArray p (by rw [List.size_toArray]; exact hp)
  rw [List.size_toArray] at hs
  rcases hs with ⟨j, m', h1, h2, h3, h4, g, f⟩ | ⟨m', h1, g, f⟩
  · have hrun := dot_run l (j - p) p j rfl h1 (by omega) fun k a b => not1 k (by omega) (h4 k a b)
    refine .inl ⟨j, j + 1, m', h1, by omega, by omega, ?_, by rw [List.size_toArray]; exact g, f⟩
    rw [hrun, List.append_assoc]
    congr 1
    rw [ec] at h3
    simp only [Bool.and_eq_true, decide_eq_true_eq, beq_iff_eq] at h3
    rw [drop_at h2]
    have ea : atb l (j + 1) = (l.getD j 0 == 10) := by simp [atb]
    rw [ea]
    simp only [dotL, if_pos (And.intro h3.1 h3.2.2)]
  · refine .inr ⟨m', ?_, by rw [List.size_toArray]; exact g, f⟩
    have hrun := dot_run l (l.length - p) p l.length rfl hp (Nat.le_refl _) fun k a b => not1 k b (h1 k a b)
    rw [hrun, List.drop_of_length_le (Nat.le_refl _), List.take_of_length_le (by rw [List.length_drop]; omega)]
    show l.drop p ++ [] = _
    rw [List.append_nil]

theorem sub2_call {a : Addr} {l : List Nat} {t u : Tok} {Q : Value → Shared → Prop} (P : PatAt s.heap a code2) (hl : l.length ≤ 50000) (h : ∀ t' s', Kp s s' → Q (.str (S (crl false l)) t') s') :
    wpAny (model prog w) A (call (.builtin "re.Pattern.sub") [.ref a, .str (S [13, 10]) u, .str (S l) t]) Q E s := by
  have hlen := crl_len false l
  exact sub_call (N := 21) (fun p => crl false (l.drop p)) P rfl (by omega) (by decide) (by show (crl false l).length ≤ _; omega) (quote2_H l) h
theorem sub1_call {a : Addr} {l : List Nat} {t u : Tok} {Q : Value → Shared → Prop} (P : PatAt s.heap a code1) (hl : l.length ≤ 50000) (h : ∀ t' s', Kp s s' → Q (.str (S (dotL true l)) t') s') :
    wpAny (model prog w) A (call (.builtin "re.Pattern.sub") [.ref a, .str (S [46, 46]) u, .str (S l) t]) Q E s := by
  have hlen := dotL_len true l
  exact sub_call (N := 4 * l.length + 6) (fun p => dotL (atb l p) (l.drop p)) P rfl (by omega) (by omega) (by show (dotL true l).length ≤ _; omega) (quote1_H l) h
end
end Mine
section
open Sem (wp)
namespace Mine
/-- all but those stands -/
def KB (X : List Addr) (h h' : Heap) : Prop := ∀ b o, b ∉ X → h.get? b = some o → h'.get? b = some o
theorem KB.refl {X : List Addr} {h : Heap} : KB X h h := fun _ _ _ e => e
theorem KB.trans {X : List Addr} {h h' h'' : Heap} (a : KB X h h') (b : KB X h' h'') : KB X h h'' := fun x o n e => b x o n (a x o n e)
theorem KB.mono {X Y : List Addr} {h h' : Heap} (a : KB X h h') (s : ∀ x ∈ X, x ∈ Y) : KB Y h h' := fun x o n e => a x o (fun m => n (s x m)) e
theorem KB.of_same {a : Addr} {X : List Addr} {h h' : Heap} (s : Heap.SameBut a h h') (ha : a ∈ X) : KB X h h' := fun b o n e => (s.2 b fun q => n (q ▸ ha)).trans e
theorem KB.of_all {X : List Addr} {h h' : Heap} (k : ∀ b o, h.get? b = some o → h'.get? b = some o) : KB X h h' := fun b o _ e => k b o e
theorem KB.old {X : List Addr} {h h' : Heap} (k : ∀ b o, b < h.objs.size → b ∉ X → h.get? b = some o → h'.get? b = some o) : KB X h h' := fun b o n e => k b o (Heap.lt_size e) n e

section
variable {M : Model} {A : Around} {R : GenEnd} {Y : Protocol} {n : Nat} {s₀ : Shared} {c : Code} {fs : List Frame} {s : Shared} {env : Env}
  {K : Flow → Sem Fin} {H : Value → Sem Fin} {gd : Bool → Bool} {lv : List Value → List Value}

theorem seg_stmt {st : Stmt} {rest : List Stmt}
    (h : wpAny M (A.over c fs) (exec st env) (fun f s' => f = .next ∧ Seg M A R Y n s₀ c ((execs rest env).wrap K H gd lv) fs s') (fun _ _ => False) s) :
    Seg M A R Y n s₀ c ((execs (st :: rest) env).wrap K H gd lv) fs s :=
  seg_execs_cons (seg_wrap (wpAny_mono h (fun f s' hf => by obtain ⟨rfl, hs⟩ := hf; exact hs) fun _ _ x => x.elim))

theorem seg_if {test : Expr} {body orelse : List Stmt} {pos : Pos}
    (h : wpAny M (A.over c fs) (PySem.isTrue test env (eval test env)) (fun b s' => Seg M A R Y n s₀ c ((execs (if b then body else orelse) env).wrap K H gd lv) fs s') (fun _ _ => False) s) :
    Seg M A R Y n s₀ c ((exec (.If test body orelse pos) env).wrap K H gd lv) fs s := by
  rw [exec_If]
  refine seg_at ?_
  show Seg M A R Y n s₀ c ((PySem.isTrue test env (eval test env) >>= fun b => if b then execs body env else execs orelse env).wrap K H gd lv) fs s
  rw [Sem.bind_eq_wrap', Sem.wrap_wrap]
  refine seg_wrap (wpAny_mono h (fun b s' hb => ?_) fun _ _ x => x.elim)
  cases b with
  | true => exact hb
  | false => exact hb

/-- a yield that has nothing behind it in its row of statements -/
theorem seg_yield {e : Expr} {ypos pos : Pos} {rest : List Stmt} (hfs : splitAtGen fs = none) (hgd : gd false = false) (hfg : fs.any Frame.guarded = false)
    (h : wpAny M (A.over c fs) (eval e env) (fun v s' => ∀ kap : Resume → Shared → Prop,
        (∀ s'', Seg M A R Y n s'' c ((execs rest env).wrap K H gd lv) fs s'' → kap (.send .none) s'') → Y n s₀ v s' kap) (fun _ _ => False) s)
    (hco : env.scope.isCoroutine = false) (hi : interactive env = false) :
    Seg M A R Y (n + 1) s₀ c ((execs (.Expr (.Yield (some e) ypos) pos :: rest) env).wrap K H gd lv) fs s :=
  seg_execs_cons (seg_Expr_Yield hfs hgd hfg (wpAny_mono h (fun v s' hv kap hk => hv kap fun s'' hs => hk .none s'' hs) fun _ _ x => x.elim) hco hi)
end
section
variable {prog : Program} {w : World} {A : Around} {R : GenEnd} {Y : Protocol} {n : Nat} {s₀ : Shared} {c : Code} {fs : List Frame} {s : Shared} {env : Env}
  {K : Flow → Sem Fin} {H : Value → Sem Fin} {gd : Bool → Bool} {lv : List Value → List Value}
/-- what a row of a loop hands on -/
def loopK (target : Expr) (it : Value) (body orelse : List Stmt) (env : Env) : Flow → Sem Fin
  | .next | .cont => .pure (.again (.forLoop target it body orelse env))
  | .brk => .pure (.done .next)
  | .ret v => .pure (.done (.ret v))
def loopH (env : Env) : Value → Sem Fin := fun e => (do noteFrame e env; theTreesLotGoes e : Sem Unit).wrap (fun _ => .raise e) .raise id id
def runH (env : Env) (K : Flow → Sem Fin) (H : Value → Sem Fin) (gd : Bool → Bool) (lv : List Value → List Value) : Result → Sem Fin := fun r =>
  ((match r with | .ok f => (.pure f : Sem Flow) | .error e => .raise e).onRaise fun (x : Value) => do
    if (← field x 1) == Value.none then unsupported "frame.own-activation:exception-without-traceback"
    setFlight x env.frame).wrap K H gd lv

theorem seg_For {target iter : Expr} {body orelse : List Stmt} {pos : Pos} (hfold : ∀ x, foldedSetIterable iter env x = pure x)
    (h : wpAny (model prog w) (A.over c fs) (eval iter env) (fun x s₁ => wpAny (model prog w) (A.over c fs) (pyIter x) (fun it s₂ => ∀ p,
      Seg (model prog w) A R Y n s₀ (.forLoop target it body orelse env) ((model prog w).den (.forLoop target it body orelse env)) (.ret (runH env K H gd lv) none (gd false) (lv []) c p [] :: fs) s₂)
      (fun _ _ => False) s₁) (fun _ _ => False) s) :
    Seg (model prog w) A R Y n s₀ c ((exec (.For target iter body orelse pos) env).wrap K H gd lv) fs s := by
  show Seg _ A R Y n s₀ c (Sem.wrap K H gd lv (.at pos fun _ => eval iter env >>= fun y => foldedSetIterable iter env y >>= fun x => standAt iter.pos >>= fun _ => holding [x] (pyIter x) >>= fun it => runOwn (.forLoop target it body orelse env) env)) fs s
  refine seg_at ?_
  rw [Sem.bind_eq_wrap', Sem.wrap_wrap]
  refine seg_wrap (wpAny_mono h (fun x s₁ h₁ => ?_) fun _ _ x => x.elim)
  rw [hfold]
  refine seg_at ?_
  show Seg _ A R Y n s₀ c (Sem.wrap K H gd lv (holding [x] (pyIter x) >>= fun it => runOwn (.forLoop target it body orelse env) env)) fs s₁
  rw [Sem.bind_eq_wrap', Sem.wrap_wrap]
  refine seg_wrap (wpAny_holding (wpAny_mono h₁ (fun it s₂ h₂ => ?_) fun _ _ x => x.elim))
  exact seg_call h₂

theorem seg_forLoop {target : Expr} {it : Value} {body orelse : List Stmt}
    (h : wpAny (model prog w) (A.over (.forLoop target it body orelse env) fs) (pyNext it) (fun r s₁ => match r with
      | none => Seg (model prog w) A R Y n s₀ (.block orelse env) ((model prog w).den (.block orelse env)) fs s₁
      | some v => wpAny (model prog w) (A.over (.forLoop target it body orelse env) fs) (letOwnedTupleGo target it v) (fun _ s₂ => wpAny (model prog w) (A.over (.forLoop target it body orelse env) fs) (assign target env v) (fun _ s₃ =>
          Seg (model prog w) A R Y n s₀ (.forLoop target it body orelse env) ((execs body env).wrap (loopK target it body orelse env) (loopH env) id id) fs s₃) (fun _ _ => False) s₂) (fun _ _ => False) s₁) (fun _ _ => False) s) :
    Seg (model prog w) A R Y n s₀ (.forLoop target it body orelse env) ((model prog w).den (.forLoop target it body orelse env)) fs s := by
  show Seg _ A R Y n s₀ _ ((forTurn target it body orelse env).onRaise (fun x => do noteFrame x env; theTreesLotGoes x)) fs s
  unfold forTurn
  rw [Sem.onRaise_eq_wrap]
  refine seg_at ?_
  show Seg _ A R Y n s₀ _ (Sem.wrap _ _ _ _ (((pyNext it).onRaise fun _ => standAt { target.pos with line := 0 }) >>= _)) fs s
  rw [Sem.bind_eq_wrap', Sem.wrap_wrap, Sem.onRaise_eq_wrap, Sem.wrap_wrap]
  refine seg_wrap (wpAny_mono h (fun r s₁ h₁ => ?_) fun _ _ x => x.elim)
  cases r with
  | none => exact seg_again rfl h₁
  | some v =>
    show Seg _ A R Y n s₀ _ (Sem.wrap _ _ _ _ (letOwnedTupleGo target it v >>= _)) fs s₁
    rw [Sem.bind_eq_wrap', Sem.wrap_wrap]
    refine seg_wrap (wpAny_mono h₁ (fun _ s₂ h₂ => ?_) fun _ _ x => x.elim)
    rw [Sem.bind_eq_wrap', Sem.wrap_wrap]
    refine seg_wrap (wpAny_mono h₂ (fun _ s₃ h₃ => ?_) fun _ _ x => x.elim)
    rw [Sem.bind_eq_wrap', Sem.wrap_wrap]
    rw [Sem.wrap_congr (execs body env) _ _ (K' := loopK target it body orelse env) (H' := loopH env) (fun f => by cases f <;> rfl)
      (fun e => by first | exact Sem.bind_eq_wrap _ _ | (show (do noteFrame e env; theTreesLotGoes e : Sem Unit).bind (fun _ => .raise e) = _; rw [Sem.bind_eq_wrap]; rfl))]
    exact h₃

theorem seg_block_nil {p : Pos} {k : Result → Sem Fin} {h : Option Value} {g : Bool} {l : List Value} {kp : List Value}
    (hk : Seg (model prog w) A R Y n s₀ c (k (.ok .next)) fs s) :
    Seg (model prog w) A R Y n s₀ (.block [] env) ((model prog w).den (.block [] env)) (.ret k h g l c p kp :: fs) s :=
  seg_leaf (.ok .next) hk
end
end Mine
end
section
open Sem (wp)
namespace Mine
/-- the units that are read: place and signs -/
def units : Nat → Bool → List Nat → List (Nat × List Nat)
  | i, e, [] => if e then [(i - 1, [92])] else []
  | i, true, c :: r => (i, [92, c]) :: units (i + 1) false r
  | i, false, c :: r => if c = 92 then units (i + 1) true r else (i, [c]) :: units (i + 1) false r
abbrev XS := List (Addr × Obj)
def Snap (xs : XS) (h : Heap) : Prop := ∀ p ∈ xs, h.get? p.1 = some p.2
structure Rc (w : World) (Z : Addr → Prop) (xs : XS) (s : Shared) : Prop where
  std : Std w s.heap
  snap : Snap xs s.heap
  low : ∀ b, Z b → b < s.heap.objs.size
structure Gk (Z : Addr → Prop) (s s' : Shared) : Prop where
  heap : ∀ b o, Z b → s.heap.get? b = some o → s'.heap.get? b = some o
  gens : s'.gens = s.gens
  os : s'.os = s.os
  tok : s.toks ≤ s'.toks
theorem Gk.refl {Z : Addr → Prop} {s : Shared} : Gk Z s s := ⟨fun _ _ _ e => e, rfl, rfl, Nat.le_refl _⟩
theorem Gk.trans {Z : Addr → Prop} {s s' s'' : Shared} (a : Gk Z s s') (b : Gk Z s' s'') : Gk Z s s'' :=
  ⟨fun x o z e => b.heap x o z (a.heap x o z e), b.gens.trans a.gens, b.os.trans a.os, Nat.le_trans a.tok b.tok⟩
theorem Gk.to {Z : Addr → Prop} {s s' : Shared} (a : Gk Z s s') {h : Heap} {tk : Nat} (hk : ∀ b o, Z b → s'.heap.get? b = some o → h.get? b = some o) (ht : s'.toks ≤ tk) : Gk Z s { s' with heap := h, toks := tk } :=
  a.trans ⟨hk, rfl, rfl, ht⟩
abbrev GR (Z : Addr → Prop) : GenEnd := fun n s₀ r s₁ => r = .ok (.ret .none) ∧ (n = 0 ∧ Gk Z s₀ s₁)
abbrev GY (w : World) (Z : Addr → Prop) (U : List (Nat × List Nat)) : Protocol := fun m s₀ v s' kap =>
  ∃ T xs u rest t t', v = .ref T ∧ rest.length = m ∧ (∃ dn, U = dn ++ u :: rest) ∧ s'.heap.IsTuple T #[.int (u.1 : Nat) t, .str (S u.2) t'] ∧ Gk Z s₀ s' ∧ Snap xs s'.heap ∧ (∀ p ∈ xs, ¬ Z p.1) ∧
    ∀ s'', Rc w Z xs s'' → kap (.send .none) s''
/-- the names' kinds in the generator -/
structure GE (env : Env) : Prop where
  k : env.scope.kind = .function
  pos : env.kindOf (Str.ofString "pos") = some .local
  esc : env.kindOf (Str.ofString "escape") = some .local
  ch : env.kindOf (Str.ofString "ch") = some .local
  co : env.scope.isCoroutine = false
  it : interactive env = false
def NsE (env : Env) (i : Nat) (esc : Bool) (h : Heap) : Prop :=
  ∃ m, h.Ns env.locals m ∧ m (Str.ofString "escape") = some (.bool esc) ∧ (esc = true → ∃ u, m (Str.ofString "pos") = some (.int ((i - 1 : Nat)) u))
structure GH (env : Env) (e it : Addr) (x : Str) (t : Tok) (i : Nat) (esc : Bool) (h : Heap) : Prop where
  ns : NsE env i esc h
  en : ∃ old, IsEnum h e it i old
  st : h.IsStrIter it (strIterType x) x t i
theorem NsE.at {env : Env} {i : Nat} {esc : Bool} {h h' : Heap} (a : NsE env i esc h) (k : ∀ o, h.get? env.locals = some o → h'.get? env.locals = some o) : NsE env i esc h' :=
  let ⟨m, h1, r⟩ := a; ⟨m, h1.at' k, r⟩
theorem GH.at {env : Env} {e it : Addr} {x : Str} {t : Tok} {i : Nat} {esc : Bool} {h h' : Heap} (a : GH env e it x t i esc h) (k : ∀ b ∈ [env.locals, e, it], ∀ o, h.get? b = some o → h'.get? b = some o) : GH env e it x t i esc h' :=
  ⟨a.ns.at (k _ (by simp)), let ⟨old, q⟩ := a.en; ⟨old, k _ (by simp) _ q⟩, let ⟨o, q, r⟩ := a.st; ⟨o, k _ (by simp) _ q, r⟩⟩
theorem GH.snap {env : Env} {e it : Addr} {x : Str} {t : Tok} {i : Nat} {esc : Bool} {h : Heap} (a : GH env e it x t i esc h) :
    ∃ xs : XS, Snap xs h ∧ (∀ p ∈ xs, p.1 ∈ [env.locals, e, it]) ∧ ∀ h', Snap xs h' → GH env e it x t i esc h' := by
  obtain ⟨⟨m, ⟨oL, es, ep, hL, hr⟩, hm⟩, ⟨old, hE⟩, ⟨oi, hi, hir⟩⟩ := id a
  obtain ⟨oe, hE, hback⟩ : ∃ oe, h.get? e = some oe ∧ ∀ h' : Heap, h'.get? e = some oe → IsEnum h' e it i old := ⟨_, hE, fun _ q => q⟩
  refine ⟨[(env.locals, oL), (e, oe), (it, oi)], ?_, ?_, fun h' hs => ?_⟩
  · intro p hp
    simp only [List.mem_cons, List.not_mem_nil, or_false] at hp
    rcases hp with rfl | rfl | rfl
    · exact hL
    · exact hE
    · exact hi
  · intro p hp
    simp only [List.mem_cons, List.not_mem_nil, or_false] at hp
    rcases hp with rfl | rfl | rfl <;> simp
  · exact ⟨⟨m, ⟨oL, es, ep, hs (env.locals, oL) (by simp), hr⟩, hm⟩, ⟨old, hback _ (hs (e, oe) (by simp))⟩, ⟨oi, hs (it, oi) (by simp), hir⟩⟩
theorem draws {prog : Program} {w : World} {A : Around} (hh : A.handled = none) (it : Addr) (l : List Nat) (t : Tok) :
    Draws prog w A it [it] l.length (fun i v => ∃ c u, l[i]? = some c ∧ v = .str (S [c]) u) (fun i h => h.IsStrIter it (strIterType (S l)) (S l) t i) := by
  cases ha : (S l).cps.all (· < 128)
  · have := Draws.strWide (prog := prog) (w := w) hh it (S l) t
    have e : strIterType (S l) = "str_iterator" := by unfold strIterType; rw [ha]; rfl
    rw [e]
    simpa [S] using this
  · have := Draws.strAscii (prog := prog) (w := w) hh it (S l) t
    have e : strIterType (S l) = "str_ascii_iterator" := by unfold strIterType; rw [ha]; rfl
    rw [e]
    simpa [S] using this

section
variable {prog : Program} {w : World} {A : Around} {E : Value → Shared → Prop} {s : Shared} {env : Env}
theorem name_loc {x : Str} {p : Pos} {m : Str → Option Value} {v : Value} {Q : Value → Shared → Prop} (hk : env.scope.kind = .function) (hl : env.kindOf x = some .local) (hd : (x == ("__debug__" : Str)) = false)
    (hn : s.heap.Ns env.locals m) (hv : m x = some v) (h : Q v s) : wpAny (model prog w) A (eval (.Name x p) env) Q E s :=
  wpAny_Name (wpAny_loadName_local hk hl hn hv h) hd
theorem set_bool {x : Str} {p q : Pos} {c : Bool} {k : Nat} {r : Pos} {m : Str → Option Value} {Q : Flow → Shared → Prop} (hk : env.scope.kind = .function) (hl : env.kindOf x = some .local) (hn : s.heap.Ns env.locals m)
    (h : ∀ h', h'.Ns env.locals (fun y => if y = x then some (.bool c) else m y) → Heap.SameBut env.locals s.heap h' → Q .next { s with heap := h', toks := s.toks + 1 }) :
    wpAny (model prog w) A (exec (.Assign [.Name x p] (.Constant (.bool c) k q) r) env) Q E s := by
  have hp : (env.scope.kind == .class || (env.scope.kind == .module && env.locals != env.globals)) = false := by rw [hk]; rfl
  refine wpAny_Assign_Name ?_
  have : ∀ Q' : Value → Shared → Prop, Q' (.bool c) s → wpAny (model prog w) A (eval (.Constant (.bool c) k q) env) Q' E s := fun _ h => fun _ _ _ => h
  refine this _ ?_
  exact wpAny_storeName_local hl hn h hp
/-- the pair that is handed out -/
theorem pair_val {ex : Expr} {p q : Pos} {k : Nat} {i : Nat} {u : Tok} {m : Str → Option Value} {y : List Nat} {Q : Value → Shared → Prop} (ge : GE env) (hn : s.heap.Ns env.locals m) (hp : m (Str.ofString "pos") = some (.int (i : Nat) u))
    (hs : starEach [.Name (Str.ofString "pos") p, ex] env = [(false, eval (.Name (Str.ofString "pos") p) env), (false, eval ex env)])
    (hex : ∀ Q' : Value → Shared → Prop, (∀ t tk, s.toks ≤ tk → Q' (.str (S y) t) { s with toks := tk }) → wpAny (model prog w) A (eval ex env) Q' E s)
    (h : ∀ h' tk t', h'.IsTuple s.heap.objs.size #[.int (i : Nat) u, .str (S y) t'] → (∀ b o, s.heap.get? b = some o → h'.get? b = some o) → s.toks ≤ tk → Q (.ref s.heap.objs.size) { s with heap := h', toks := tk }) :
    wpAny (model prog w) A (eval (.Tuple [.Name (Str.ofString "pos") p, ex] k q) env) Q E s := by
  refine Tuple_ ?_
  rw [hs]
  refine spliced_cons (name_loc ge.k ge.pos (by decide) hn hp ?_)
  refine spliced_cons ?_
  refine hex _ fun t tk htk => ?_
  refine spliced_nil ?_
  refine wpAny_newTuple ?_ (by show 2 ≤ sizeLine; rw [sizeLine_eq]; omega)
  exact h _ _ _ ⟨_, Heap.get?_push_size _ rfl, rfl, _, rfl⟩ (fun b o e => Heap.get?_push_of_some _ e) htk
end
end Mine
end
section
open Sem (wp)
namespace Mine
section
variable {prog : Program} {w : World} {A : Around}
theorem seg_esc_loop {Z : Addr → Prop} {U : List (Nat × List Nat)} {fs : List Frame} {env : Env} {e it : Addr} {l : List Nat} {t : Tok} (ge : GE env)
    {p1 p2 p3 p4 p5 p6 p7 p8 p9 p10 p11 p12 p13 p14 p15 p16 p17 p18 p19 p20 p21 p22 p23 p24 p25 p1' p2' : Pos}
    (hh : ∀ c, (A.over c fs).handled = none) (hfs : splitAtGen fs = none) (hfg : fs.any Frame.guarded = false)
    (zL : ¬ Z env.locals) (ze : ¬ Z e) (zi : ¬ Z it) (nLe : env.locals ≠ e) (nLi : env.locals ≠ it) (nei : e ≠ it)
    (hend : ∀ esc s₀ s dn, NsE env l.length esc s.heap → Gk Z s₀ s → U = dn ++ units l.length esc [] →
      Seg (model prog w) A (GR Z) (GY w Z U) (units l.length esc []).length s₀ (.block [] env) ((model prog w).den (.block [] env)) fs s) :
    let body : List Stmt := [.If (.Name (Str.ofString "escape") p1) [.Expr (.Yield (some (.Tuple [.Name (Str.ofString "pos") p2, .BinOp (.Constant (.str (Str.ofString "\\")) 0 p3) .Add (.Name (Str.ofString "ch") p4) p5] 0 p6)) p7) p8,
        .Assign [.Name (Str.ofString "escape") p9] (.Constant (.bool false) 0 p10) p11]
      [.If (.Compare (.Name (Str.ofString "ch") p12) [.Eq] [.Constant (.str (Str.ofString "\\")) 0 p13] p14) [.Assign [.Name (Str.ofString "escape") p15] (.Constant (.bool true) 0 p16) p17]
        [.Expr (.Yield (some (.Tuple [.Name (Str.ofString "pos") p18, .Name (Str.ofString "ch") p19] 0 p20)) p21) p22] p23] p24]
    let target : Expr := .Tuple [.Name (Str.ofString "pos") p1', .Name (Str.ofString "ch") p2'] 0 p25
    ∀ (k i : Nat) (esc : Bool) (s₀ s : Shared) (dn : List (Nat × List Nat)), l.length - i = k → i ≤ l.length → GH env e it (S l) t i esc s.heap → Gk Z s₀ s → U = dn ++ units i esc (l.drop i) →
      Seg (model prog w) A (GR Z) (GY w Z U) (units i esc (l.drop i)).length s₀ (.forLoop target (.ref e) body [] env) ((model prog w).den (.forLoop target (.ref e) body [] env)) fs s := by
  intro body target k
  have hA := hh (.forLoop target (.ref e) body [] env)
  induction k with
  | zero =>
    intro i esc s₀ s dn hk hi G gk hU
    have hin : i = l.length := by omega
    subst hin
    rw [List.drop_of_length_le (Nat.le_refl _)] at hU ⊢
    obtain ⟨old, hE⟩ := G.en
    refine seg_forLoop (wpAny_pyNext_enum_endD (draws (A := (A.over (.forLoop target (.ref e) body [] env) fs).in1) hA it l t) hE G.st fun h' hx => ?_)
    exact hend esc s₀ _ dn (G.ns.at fun o q => hx _ o nLi q) (gk.to (tk := s.toks) (fun b o z q => hx b o (fun r => zi (r ▸ z)) q) (Nat.le_refl _)) hU
  | succ k ih =>
    intro i esc s₀ s dn hk hi G gk hU
    have hlt : i < l.length := by omega
    obtain ⟨old, hE⟩ := G.en
    obtain ⟨hp, g, d, tk₀, os⟩ := s
    have hL : env.locals < hp.objs.size := let ⟨m, hn, _⟩ := G.ns; hn.lt
    refine seg_forLoop (wpAny_tok (wpAny_pyNext_enum_itemD (draws (A := (A.over (.forLoop target (.ref e) body [] env) fs).in1) hA it l t) hE G.st hlt nei (by simp [nei]) fun v h₁ tk hP ho hst hT hsz hkp => ?_))
    intro htk
    replace htk : tk₀ ≤ tk + 1 := htk
    replace hkp : ∀ b o, b ≠ e → b ≠ it → hp.get? b = some o → h₁.get? b = some o := hkp
    obtain ⟨c, u, hc, rfl⟩ := hP
    show wpAny _ _ (letOwnedTupleGo target (.ref e) (.ref hp.objs.size)) _ _ _
    refine wpAny_letOwnedTupleGo_enum ho fun h₂ hE₂ hs₂ => ?_
    replace hs₂ : Heap.SameBut e h₁ h₂ := hs₂
    have eE : e < hp.objs.size := Heap.lt_size hE
    have eI : it < hp.objs.size := by obtain ⟨o, q, _⟩ := G.st; exact Heap.lt_size q
    have hT₂ : h₂.get? hp.objs.size = some { cls := .type "tuple", data := .seq #[.int i tk, .str (S [c]) u] } := (hs₂.2 _ (Nat.ne_of_gt eE)).trans hT
    refine wpAny_assign_Tuple hA ⟨_, hT₂, rfl, _, rfl⟩ rfl rfl fun h₃ hx₃ => ?_
    replace hx₃ : Heap.ExtBut h₂.objs.size h₂ h₃ := hx₃
    have old₃ : ∀ b o, h₂.get? b = some o → h₃.get? b = some o := fun b o q => hx₃ b o (Nat.ne_of_lt (Heap.lt_size q)) q
    have hp' : (env.scope.kind == .class || (env.scope.kind == .module && env.locals != env.globals)) = false := by rw [ge.k]; rfl
    obtain ⟨m, hn, hme, hmp⟩ := G.ns
    have hn₃ : h₃.Ns env.locals m := hn.at' fun o q => old₃ _ o ((hs₂.2 _ nLe).trans (hkp _ o nLe nLi q))
    show wpAny _ _ (do holding [.str (S [c]) u] (assign (.Name (Str.ofString "pos") _) env (.int i tk)); do holding [] (assign (.Name (Str.ofString "ch") _) env (.str (S [c]) u)); pure ()) _ _ _
    refine wpAny_bind (wpAny_holding (wpAny_assign_Name (wpAny_storeName_local ge.pos hn₃ (fun h₄ hn₄ hs₄ => ?_) hp')))
    replace hs₄ : Heap.SameBut env.locals h₃ h₄ := hs₄
    refine wpAny_bind (wpAny_holding (wpAny_assign_Name (wpAny_storeName_local ge.ch hn₄ (fun h₅ hn₅ hs₅ => wpAny_pure ?_) hp')))
    replace hs₅ : Heap.SameBut env.locals h₄ h₅ := hs₅
    -- what stands now
    have keep₅ : ∀ b o, Z b → hp.get? b = some o → h₅.get? b = some o := fun b o z q =>
      have b1 : b ≠ env.locals := fun r => zL (r ▸ z)
      have b2 : b ≠ e := fun r => ze (r ▸ z)
      have b3 : b ≠ it := fun r => zi (r ▸ z)
      (hs₅.2 b b1).trans ((hs₄.2 b b1).trans (old₃ b o ((hs₂.2 b b2).trans (hkp b o b2 b3 q))))
    have up₅ : ∀ b o, b ≠ env.locals → h₂.get? b = some o → h₅.get? b = some o := fun b o b1 q => (hs₅.2 b b1).trans ((hs₄.2 b b1).trans (old₃ b o q))
    have hE₅ : IsEnum h₅ e it ((i + 1 : Nat) : Int) (.str (S [c]) u) := up₅ _ _ (Ne.symm nLe) hE₂
    have hst₅ : h₅.IsStrIter it (strIterType (S l)) (S l) t (i + 1) := let ⟨o, q, r⟩ := hst; ⟨o, up₅ _ _ (Ne.symm nLi) ((hs₂.2 it (Ne.symm nei)).trans q), r⟩
    have gk₅ : ∀ k', tk₀ ≤ k' → Gk Z s₀ ⟨h₅, g, d, k', os⟩ := fun k' hk' => gk.to keep₅ hk'
    -- the next turn
    have next : ∀ (esc' : Bool) (s₀' s' : Shared) (m' : Str → Option Value) (dn' : List (Nat × List Nat)), s'.heap.Ns env.locals m' → m' (Str.ofString "escape") = some (.bool esc') → m' (Str.ofString "pos") = some (.int i tk) →
        IsEnum s'.heap e it ((i + 1 : Nat) : Int) (.str (S [c]) u) → s'.heap.IsStrIter it (strIterType (S l)) (S l) t (i + 1) → Gk Z s₀' s' → U = dn' ++ units (i + 1) esc' (l.drop (i + 1)) →
        Seg (model prog w) A (GR Z) (GY w Z U) (units (i + 1) esc' (l.drop (i + 1))).length s₀' (.forLoop target (.ref e) body [] env) ((model prog w).den (.forLoop target (.ref e) body [] env)) fs s' :=
      fun esc' s₀' s' m' dn' a b q x y z u' => ih (i + 1) esc' s₀' s' dn' (by omega) (by omega) ⟨⟨m', a, b, fun _ => ⟨tk, q⟩⟩, ⟨_, x⟩, y⟩ z u'
    have hdrop : l.drop i = c :: l.drop (i + 1) := by
      rw [List.getElem?_eq_getElem hlt] at hc
      rw [List.drop_eq_getElem_cons hlt, Option.some.inj hc]
    rw [hdrop] at hU ⊢
    generalize hm₅ : (fun x => if x = Str.ofString "ch" then some (Value.str (S [c]) u) else if x = Str.ofString "pos" then some (Value.int (i : Nat) tk) else m x) = m₅ at hn₅
    have mE : m₅ (Str.ofString "escape") = some (.bool esc) := by rw [← hm₅]; exact hme
    have mP : m₅ (Str.ofString "pos") = some (.int (i : Nat) tk) := by rw [← hm₅]; rfl
    have mC : m₅ (Str.ofString "ch") = some (.str (S [c]) u) := by rw [← hm₅]; rfl
    clear hm₅
    -- what a handing out needs
    have giveOut : ∀ (y : List Nat) (rest : List Stmt) (esc' : Bool) (K : Flow → Sem Fin) (s' : Shared) (tt : Tok), Gk Z s₀ s' → s'.heap.Ns env.locals m₅ → IsEnum s'.heap e it ((i + 1 : Nat) : Int) (.str (S [c]) u) →
        s'.heap.IsStrIter it (strIterType (S l)) (S l) t (i + 1) → ∀ T, s'.heap.IsTuple T #[.int (i : Nat) tk, .str (S y) tt] → U = dn ++ (i, y) :: units (i + 1) false (l.drop (i + 1)) →
        (∀ s'', s''.heap.Ns env.locals m₅ → IsEnum s''.heap e it ((i + 1 : Nat) : Int) (.str (S [c]) u) → s''.heap.IsStrIter it (strIterType (S l)) (S l) t (i + 1) →
          Seg (model prog w) A (GR Z) (GY w Z U) (units (i + 1) false (l.drop (i + 1))).length s'' (.forLoop target (.ref e) body [] env) ((execs rest env).wrap K (loopH env) id id) fs s'') →
        ∀ kap : Resume → Shared → Prop, (∀ s'', Seg (model prog w) A (GR Z) (GY w Z U) (units (i + 1) false (l.drop (i + 1))).length s'' (.forLoop target (.ref e) body [] env) ((execs rest env).wrap K (loopH env) id id) fs s'' → kap (.send .none) s'') →
          GY w Z U (units (i + 1) false (l.drop (i + 1))).length s₀ (.ref T) s' kap := by
      intro y rest esc' K s' tt a1 a2 a3 a4 T a5 a6 a7 kap hkap
      obtain ⟨oL, es, ep, hLo, hr⟩ := id a2
      obtain ⟨oi, hio, hir⟩ := id a4
      obtain ⟨oe, hEo, hback⟩ : ∃ oe, s'.heap.get? e = some oe ∧ ∀ h' : Heap, h'.get? e = some oe → IsEnum h' e it ((i + 1 : Nat) : Int) (.str (S [c]) u) := ⟨_, a3, fun _ q => q⟩
      refine ⟨T, [(env.locals, oL), (e, oe), (it, oi)], (i, y), _, tk, tt, rfl, rfl, ⟨dn, a6⟩, a5, a1, ?_, ?_, fun s'' R => hkap s'' (a7 s'' ?_ ?_ ?_)⟩
      · intro p hp
        simp only [List.mem_cons, List.not_mem_nil, or_false] at hp
        rcases hp with rfl | rfl | rfl
        · exact hLo
        · exact hEo
        · exact hio
      · intro p hp
        simp only [List.mem_cons, List.not_mem_nil, or_false] at hp
        rcases hp with rfl | rfl | rfl
        · exact zL
        · exact ze
        · exact zi
      · exact ⟨oL, es, ep, R.snap (env.locals, oL) (by simp), hr⟩
      · exact hback _ (R.snap (e, oe) (by simp))
      · exact ⟨oi, R.snap (it, oi) (by simp), hir⟩
    refine seg_execs_cons (seg_if ?_)
    refine isTrue_plain (name_loc ge.k ge.esc (by decide) hn₅ mE ?_)
    cases esc with
    | true =>
      refine wpAny_truthy_bool ?_
      rw [if_pos rfl]
      have eU : units i true (c :: l.drop (i + 1)) = (i, [92, c]) :: units (i + 1) false (l.drop (i + 1)) := by rw [units]
      rw [eU] at hU ⊢
      rw [List.length_cons]
      refine seg_yield hfs rfl hfg ?_ ge.co ge.it
      refine pair_val (y := [92, c]) ge hn₅ mP rfl (fun Q' hq => ?_) fun h₆ tk₆ t' hT₆ hk₆ ht₆ => ?_
      · refine wpAny_BinOp (Constant_str ?_)
        refine name_loc ge.k ge.ch (by decide) hn₅ mC ?_
        rw [li_bs]
        refine wpAny_tok (PyProof.Rows.add_str ?_ (by rw [S_len, S_len, sizeLine_eq]; show 1 + 1 ≤ 16777216; decide))
        intro t' tk' htk'
        rw [S_app]
        exact hq t' tk' (by revert htk'; dsimp only; omega)
      · refine giveOut [92, c] _ false _ _ t' (gk.to (fun b o z q => hk₆ b o (keep₅ b o z q)) (by revert ht₆; dsimp only; omega)) (hn₅.keeps hk₆) (hk₆ _ _ hE₅) (let ⟨o, q, r⟩ := hst₅; ⟨o, hk₆ _ _ q, r⟩) _ hT₆ hU fun s'' b1 b2 b3 => ?_
        refine seg_stmt (set_bool ge.k ge.esc b1 fun h₇ hn₇ hs₇ => ⟨rfl, seg_execs_nil (seg_execs_nil (seg_again rfl ?_))⟩)
        refine next false s'' _ _ (dn ++ [(i, [92, c])]) hn₇ (if_pos rfl) (by rw [if_neg (by decide)]; exact mP) ?_ ?_ ?_ (by rw [hU]; simp)
        · exact (hs₇.2 e (Ne.symm nLe)).trans b2
        · exact let ⟨o, q, r⟩ := b3; ⟨o, (hs₇.2 it (Ne.symm nLi)).trans q, r⟩
        · exact Gk.refl.to (fun b o z q => (hs₇.2 b fun r => zL (r ▸ z)).trans q) (Nat.le_succ _)
    | false =>
      refine wpAny_truthy_bool ?_
      rw [if_neg Bool.false_ne_true]
      refine seg_execs_cons (seg_if ?_)
      refine wpAny_isTrue_Compare1 (name_loc ge.k ge.ch (by decide) hn₅ mC (Constant_str ?_))
      rw [li_bs]
      refine PyProof.Rows.eq_str (wpAny_truthy_bool ?_)
      rw [S_beq]
      by_cases hc92 : c = 92
      · subst hc92
        rw [decide_eq_true rfl, if_pos rfl]
        have eU : units i false (92 :: l.drop (i + 1)) = units (i + 1) true (l.drop (i + 1)) := by rw [units, if_pos rfl]
        rw [eU] at hU ⊢
        refine seg_stmt (set_bool ge.k ge.esc hn₅ fun h₇ hn₇ hs₇ => ⟨rfl, seg_execs_nil (seg_execs_nil (seg_execs_nil (seg_again rfl ?_)))⟩)
        refine next true s₀ _ _ dn hn₇ (if_pos rfl) (by rw [if_neg (by decide)]; exact mP) ?_ ?_ ?_ hU
        · exact (hs₇.2 e (Ne.symm nLe)).trans hE₅
        · exact let ⟨o, q, r⟩ := hst₅; ⟨o, (hs₇.2 it (Ne.symm nLi)).trans q, r⟩
        · exact gk.to (fun b o z q => (hs₇.2 b fun r => zL (r ▸ z)).trans (keep₅ b o z q)) (by dsimp only; omega)
      · have hne : ([c] = [92]) = False := by simp [hc92]
        rw [decide_eq_false (by rw [hne]; exact id), if_neg Bool.false_ne_true]
        have eU : units i false (c :: l.drop (i + 1)) = (i, [c]) :: units (i + 1) false (l.drop (i + 1)) := by rw [units, if_neg hc92]
        rw [eU] at hU ⊢
        rw [List.length_cons]
        refine seg_yield hfs rfl hfg ?_ ge.co ge.it
        refine pair_val (y := [c]) ge hn₅ mP rfl (fun Q' hq => name_loc ge.k ge.ch (by decide) hn₅ mC (hq u _ (Nat.le_refl _))) fun h₆ tk₆ t' hT₆ hk₆ ht₆ => ?_
        refine giveOut [c] _ false _ _ t' (gk.to (fun b o z q => hk₆ b o (keep₅ b o z q)) (by revert ht₆; dsimp only; omega)) (hn₅.keeps hk₆) (hk₆ _ _ hE₅) (let ⟨o, q, r⟩ := hst₅; ⟨o, hk₆ _ _ q, r⟩) _ hT₆ hU fun s'' b1 b2 b3 => ?_
        refine seg_execs_nil (seg_execs_nil (seg_execs_nil (seg_again rfl ?_)))
        exact next false s'' _ _ (dn ++ [(i, [c])]) b1 mE mP b2 b3 Gk.refl (by rw [hU]; simp)
end
end Mine
end
section
open Sem (wp)
namespace Mine
section
variable {prog : Program} {w : World} {A : Around}
theorem set_int {s : Shared} {E : Value → Shared → Prop} {env : Env} {x : Str} {p q : Pos} {c : Int} {k : Nat} {r : Pos} {m : Str → Option Value} {Q : Flow → Shared → Prop} (hk : env.scope.kind = .function) (hl : env.kindOf x = some .local) (hn : s.heap.Ns env.locals m)
    (h : ∀ h' u, h'.Ns env.locals (fun y => if y = x then some (.int c u) else m y) → Heap.SameBut env.locals s.heap h' → Q .next { s with heap := h', toks := s.toks + 2 }) :
    wpAny (model prog w) A (exec (.Assign [.Name x p] (.Constant (.int c) k q) r) env) Q E s := by
  have hp : (env.scope.kind == .class || (env.scope.kind == .module && env.locals != env.globals)) = false := by rw [hk]; rfl
  exact wpAny_Assign_Name (wpAny_Constant_int (wpAny_storeName_local hl hn (fun h' a b => h h' _ a b) hp))
theorem seg_esc_fn {Z : Addr → Prop} {env : Env} {l : List Nat} {t : Tok} {m₀ : Str → Option Value} {s : Shared} (ge : GE env) (hh : A.handled = none)
    {p1 p2 p3 p4 p5 p6 p7 p8 p9 p10 p11 p12 p13 p14 p15 p16 p17 p18 p19 p20 p21 p22 p23 p24 p25 p26 p27 p28 p29 p30 p31 p32 p33 p34 p35 p36 p37 p38 p39 p40 p41 p42 p43 p44 : Pos}
    (hg : env.globals = mainGlobals) (hb : env.builtins = builtinsNs) (ha : env.kindOf (Str.ofString "addr") = some .local) (hen : env.kindOf (Str.ofString "enumerate") = some .globalImplicit)
    (nG : mainGlobals ≠ env.locals ∧ builtinsNs ≠ env.locals) (hS : Std w s.heap) (hmiss : nsIn (hd.heap_39 w.params) mainGlobals (Str.ofString "enumerate") = some none) (hlow : ∀ b, Z b → b < s.heap.objs.size) (zL : ¬ Z env.locals) (hn : s.heap.Ns env.locals m₀) (hma : m₀ (Str.ofString "addr") = some (.str (S l) t)) :
    let inner : List Stmt := [.If (.Name (Str.ofString "escape") p1) [.Expr (.Yield (some (.Tuple [.Name (Str.ofString "pos") p2, .BinOp (.Constant (.str (Str.ofString "\\")) 0 p3) .Add (.Name (Str.ofString "ch") p4) p5] 0 p6)) p7) p8,
        .Assign [.Name (Str.ofString "escape") p9] (.Constant (.bool false) 0 p10) p11]
      [.If (.Compare (.Name (Str.ofString "ch") p12) [.Eq] [.Constant (.str (Str.ofString "\\")) 0 p13] p14) [.Assign [.Name (Str.ofString "escape") p15] (.Constant (.bool true) 0 p16) p17]
        [.Expr (.Yield (some (.Tuple [.Name (Str.ofString "pos") p18, .Name (Str.ofString "ch") p19] 0 p20)) p21) p22] p23] p24]
    let target : Expr := .Tuple [.Name (Str.ofString "pos") p26, .Name (Str.ofString "ch") p27] 0 p25
    let body : List Stmt := [.Assign [.Name (Str.ofString "pos") p28] (.Constant (.int 0) 0 p29) p30, .Assign [.Name (Str.ofString "escape") p31] (.Constant (.bool false) 0 p32) p33,
      .For target (.Call (.Name (Str.ofString "enumerate") p34) [.Name (Str.ofString "addr") p35] [] p36) inner [] p37,
      .If (.Name (Str.ofString "escape") p38) [.Expr (.Yield (some (.Tuple [.Name (Str.ofString "pos") p39, .Constant (.str (Str.ofString "\\")) 0 p40] 0 p41)) p42) p43] [] p44]
    Seg (model prog w) A (GR Z) (GY w Z (units 0 false l)) (units 0 false l).length s (.func body env) ((model prog w).den (.func body env)) [] s := by
  intro inner target body
  have hA : ∀ c, (A.over c []).handled = none := fun c => hh
  obtain ⟨hp, g, d, tk, os⟩ := s
  refine seg_func (seg_stmt (set_int ge.k ge.pos hn fun h₁ u hn₁ hs₁ => ⟨rfl, ?_⟩))
  refine seg_stmt (set_bool ge.k ge.esc hn₁ fun h₂ hn₂ hs₂ => ⟨rfl, ?_⟩)
  refine seg_execs_cons (seg_For (fun x => rfl) ?_)
  have hL : env.locals < hp.objs.size := hn.lt
  replace hs₁ : Heap.SameBut env.locals hp h₁ := hs₁
  replace hs₂ : Heap.SameBut env.locals h₁ h₂ := hs₂
  have up₂ : ∀ b o, b ≠ env.locals → hp.get? b = some o → h₂.get? b = some o := fun b o n q => (hs₂.2 b n).trans ((hs₁.2 b n).trans q)
  obtain ⟨mean, mg, mb, T⟩ := hS.t
  have X := hS.x
  refine Call_Name1 (Calls.Name_function_global ge.k hen (Calls.loadGlobal_builtin (v := .type "enumerate") (mg := mg) (mb := mb) (by rw [hg]; exact T.g.at' fun o q => up₂ _ o nG.1 q) (mg_none_of X T.g hmiss) (by rw [hb]; exact T.b.at' fun o q => up₂ _ o nG.2 q) ((T.builtins _ (by decide)).trans boot_enumerate) ?_) (by decide)) rfl
  refine PyProof.Rows.callWith_type rfl (evalArgs_plain (spliced_cons (name_loc ge.k ha (by decide) hn₂ (by rw [if_neg (by decide), if_neg (by decide)]; exact hma) (spliced_nil ?_))))
  show wpAny _ _ (call (.type "enumerate") [.str (S l) t]) _ _ _
  refine call_enumerate_str fun h₃ hE hit hsz hk₃ => ?_
  replace hk₃ : ∀ b o, h₂.get? b = some o → h₃.get? b = some o := hk₃
  refine wpAny_pyIter_enum hE ?_
  intro p
  have hsz₂ : h₂.objs.size = hp.objs.size := by rw [hs₂.1, hs₁.1]
  have ne0 : env.locals ≠ h₂.objs.size := by rw [hsz₂]; exact Nat.ne_of_lt hL
  have ne1 : env.locals ≠ h₂.objs.size + 1 := by rw [hsz₂]; exact Nat.ne_of_lt (Nat.lt_succ_of_lt hL)
  have zi : ¬ Z h₂.objs.size := fun z => Nat.lt_irrefl hp.objs.size (by have := hlow _ z; rw [hsz₂] at this; exact this)
  have ze : ¬ Z (h₂.objs.size + 1) := fun z => Nat.lt_irrefl hp.objs.size (by have := hlow _ z; rw [hsz₂] at this; exact Nat.lt_of_succ_lt this)
  refine seg_esc_loop (e := h₂.objs.size + 1) (it := h₂.objs.size) (t := t) ge (fun c => by exact hh) (by rfl) (by rfl) zL ze zi ne1 ne0 (Nat.succ_ne_self _) ?_ l.length 0 false _ _ [] (Nat.sub_zero _) (Nat.zero_le _) ⟨⟨_, hn₂.keeps hk₃, rfl, fun q => by cases q⟩, ⟨_, hE⟩, hit⟩ ?_ rfl
  · intro esc s₀ s dn hns gk hU
    refine seg_block_nil ?_
    refine seg_execs_cons (seg_if ?_)
    obtain ⟨m, hm, hme, hmp⟩ := hns
    refine isTrue_plain (name_loc ge.k ge.esc (by decide) hm hme (wpAny_truthy_bool ?_))
    cases esc with
    | true =>
      rw [if_pos rfl]
      obtain ⟨u', hpos⟩ := hmp rfl
      have eU : units l.length true [] = [(l.length - 1, [92])] := rfl
      rw [eU] at hU ⊢
      refine seg_yield rfl rfl rfl ?_ ge.co ge.it
      refine pair_val (y := [92]) ge hm hpos rfl (fun Q' hq => Constant_str (by rw [li_bs]; exact hq _ _ (Nat.le_succ _))) fun h₆ tk₆ t' hT₆ hk₆ ht₆ => ?_
      intro kap hkap
      refine ⟨_, [], _, [], _, _, rfl, rfl, ⟨dn, hU⟩, hT₆, gk.to (fun b o _ q => hk₆ b o q) ht₆, fun _ h => (nomatch h), fun _ h => (nomatch h), fun s'' R => hkap s'' ?_⟩
      exact seg_execs_nil (seg_execs_nil (seg_end (.ok (.ret .none)) ⟨rfl, rfl, Gk.refl⟩))
    | false =>
      rw [if_neg Bool.false_ne_true]
      exact seg_execs_nil (seg_execs_nil (seg_end (.ok (.ret .none)) ⟨rfl, rfl, gk⟩))
  · exact ⟨fun b o z q => hk₃ b o (up₂ b o (fun r => zL (r ▸ z)) q), rfl, rfl, by dsimp only; omega⟩
end
end Mine
end
section
open Sem (wp)
namespace Mine
/-- a generator of units that stands at a, with the units that are left -/
def GAt (prog : Program) (w : World) (A : Around) (a : Addr) (us : List (Nat × List Nat)) (Z : Addr → Prop) (xs : XS) (s : Shared) : Prop :=
  ∃ g gs U dn, s.heap.IsGen a g ∧ s.gens[g]? = some gs ∧ U = dn ++ us ∧ ∀ s'' : Shared, Rc w Z xs s'' → gs.Goes (model prog w) A.in1 (GR Z) (GY w Z U) us.length (.send .none) s''
theorem GAt.move {prog : Program} {w : World} {A : Around} {a : Addr} {us : List (Nat × List Nat)} {Z : Addr → Prop} {xs : XS} {s s' : Shared} (G : GAt prog w A a us Z xs s) (k : ∀ o, s.heap.get? a = some o → s'.heap.get? a = some o) (e : s'.gens = s.gens) :
    GAt prog w A a us Z xs s' :=
  let ⟨g, gs, U, dn, ⟨o, nm, qn, ho, r⟩, h2, h3, h4⟩ := G
  ⟨g, gs, U, dn, ⟨o, nm, qn, k _ ho, r⟩, by rw [e]; exact h2, h3, h4⟩
theorem Gk.tok0 {Z : Addr → Prop} {s s' : Shared} {g : Nat} {x : GenState} (h : Gk Z (s.setGen g x) s') : s.toks ≤ s'.toks := h.tok
section
variable {prog : Program} {w : World} {A : Around} {E : Value → Shared → Prop} {s : Shared}
theorem gat_item {a : Addr} {u : Nat × List Nat} {us : List (Nat × List Nat)} {Z : Addr → Prop} {xs : XS} {Q : Option Value → Shared → Prop} (hh : A.handled = none) (hroom : A.depth < recursionLimit)
    (hS : Std w s.heap) (G : GAt prog w A a (u :: us) Z xs s) (hx : Snap xs s.heap) (low : ∀ b, Z b → b < s.heap.objs.size) (za : Z a)
    (h : ∀ T xs' s' t t', GAt prog w A a us Z xs' s' → Snap xs' s'.heap → (∀ p ∈ xs', ¬ Z p.1) → (∀ b o, Z b → s.heap.get? b = some o → s'.heap.get? b = some o) → s'.heap.IsTuple T #[.int (u.1 : Nat) t, .str (S u.2) t'] →
      s'.os = s.os → s.toks ≤ s'.toks → Q (some (.ref T)) s') : wpAny (model prog w) A (pyNext (.ref a)) Q E s := by
  obtain ⟨g, gs, U, dn, hg, hgs, hU, hgo⟩ := G
  obtain ⟨mean, mg, mb, T⟩ := hS.t
  refine wpAny_pyNext_gen (n := us.length + 1) (P := fun n s₀ s₁ => n = 0 ∧ Gk Z s₀ s₁) (Y := GY w Z U) hh T.nolimit hroom hg hgs (hgo _ ⟨hS, hx, low⟩) ?_ ?_
  · intro v s₁ gs' hv
    obtain ⟨T', xs', u', rest, t, t', rfl, hlen, ⟨dn', hU'⟩, hT, gk, hsn, hz, hk⟩ := hv
    have e : (u :: us) = (u' :: rest) := by
      refine List.append_inj_right' (hU.symm.trans hU') ?_
      rw [List.length_cons, List.length_cons, hlen]; rfl
    cases e
    refine h T' xs' _ t t' ⟨g, gs', U, dn ++ [u], ?_, ?_, by rw [hU]; simp, fun s'' hR => hk s'' hR⟩ hsn hz (fun b o z q => gk.heap b o z q) hT gk.os gk.tok
    · obtain ⟨o, nm, qn, ho, r⟩ := hg
      exact ⟨o, nm, qn, gk.heap a o za ho, r⟩
    · refine setGen_self (gs := .running) ?_
      rw [gk.gens]
      exact setGen_self hgs
  · intro s₁ hp h' hk
    exact absurd hp.1 (Nat.succ_ne_zero _)
theorem gat_done {a : Addr} {Z : Addr → Prop} {xs : XS} {Q : Option Value → Shared → Prop} (hh : A.handled = none) (hroom : A.depth < recursionLimit)
    (hS : Std w s.heap) (G : GAt prog w A a [] Z xs s) (hx : Snap xs s.heap) (low : ∀ b, Z b → ∃ o, s.heap.get? b = some o)
    (hstd : ∀ h' : Heap, (∀ b o, Z b → s.heap.get? b = some o → h'.get? b = some o) → Std w h')
    (h : ∀ s', (∀ b o, Z b → s.heap.get? b = some o → s'.heap.get? b = some o) → s'.os = s.os → s.toks ≤ s'.toks → Q none s') : wpAny (model prog w) A (pyNext (.ref a)) Q E s := by
  obtain ⟨g, gs, U, dn, hg, hgs, hU, hgo⟩ := G
  obtain ⟨mean, mg, mb, T⟩ := hS.t
  refine wpAny_pyNext_gen (n := 0) (P := fun n s₀ s₁ => n = 0 ∧ Gk Z s₀ s₁) (Y := GY w Z U) hh T.nolimit hroom hg hgs (hgo _ ⟨hS, hx, fun b z => let ⟨_, q⟩ := low b z; Heap.lt_size q⟩) ?_ ?_
  · intro v s₁ gs' hv
    obtain ⟨T', xs', u', rest, t, t', rfl, hlen, _, hT, gk, hsn, hz, hk⟩ := hv
    have := hk s₁ ⟨hstd _ gk.heap, hsn, fun b z => let ⟨_, q⟩ := low b z; Heap.lt_size (gk.heap _ _ z q)⟩
    exact this.elim
  · intro s₁ hp h' hk
    exact h _ (fun b o z q => hk b o (hp.2.heap b o z q)) hp.2.os hp.2.tok
end
/-- what a loop over a generator must find again -/
def ZZ (h₀ : Heap) (L : Addr) (zs : List Addr) (b : Addr) : Prop := (∃ o, h₀.get? b = some o) ∨ b = L ∨ b ∈ zs
/-- what a turn of the loop over a generator leaves -/
def TurnQ (Inv : List (Nat × List Nat) → Shared → Prop) (Q : Flow → Shared → Prop) (us : List (Nat × List Nat)) (xs : XS) (g : Array GenState) (fl : Flow) (s₂ : Shared) : Prop :=
  Snap xs s₂.heap ∧ s₂.gens = g ∧ match fl with | .next => Inv us s₂ | .cont => Inv us s₂ | .ret v => Q (.ret v) s₂ | .brk => False
structure Stands (h₀ : Heap) (L : Addr) (zs : List Addr) (h : Heap) : Prop where
  keep : ∀ b o, h₀.get? b = some o → h.get? b = some o
  live : ∀ b, ZZ h₀ L zs b → ∃ o, h.get? b = some o
  loc : ∃ m, h.Ns L m
section
variable {prog : Program} {w : World} {A : Around} {E : Value → Shared → Prop}
theorem for_gen {Q : Flow → Shared → Prop} {Ee : Value → Shared → Prop} {h₀ : Heap} {zs : List Addr} {a : Addr} {env : Env} {p1 p2 p3 : Pos} {body : List Stmt} (hh : A.handled = none) (hroom : A.depth < recursionLimit)
    (hk : env.scope.kind = .function) (kp : env.kindOf (Str.ofString "pos") = some .local) (kc : env.kindOf (Str.ofString "ch") = some .local) (hS : Std w h₀)
    (a0 : h₀.get? a = none) (aL : a ≠ env.locals) (az : a ∉ zs)
    (Inv : List (Nat × List Nat) → Shared → Prop) (stands : ∀ us s, Inv us s → Stands h₀ env.locals zs s.heap)
    (stable : ∀ us s s', Inv us s → (∀ b o, ZZ h₀ env.locals zs b → s.heap.get? b = some o → s'.heap.get? b = some o) → s'.os = s.os → s.toks ≤ s'.toks → Inv us s')
    (turn : ∀ u us s s₁ m t t' (xs : XS), Inv (u :: us) s → s.heap.Ns env.locals m → s₁.heap.Ns env.locals (fun x => if x = Str.ofString "ch" then some (.str (S u.2) t') else if x = Str.ofString "pos" then some (.int (u.1 : Nat) t) else m x) →
      (∀ b o, b ≠ env.locals → s.heap.get? b = some o → s₁.heap.get? b = some o) → s.toks ≤ s₁.toks → s₁.os = s.os → News h₀ env.locals s₁.heap xs → (∀ p ∈ xs, p.1 ∉ zs) →
      wpAny (model prog w) A (execs body env) (TurnQ Inv Q us xs s₁.gens) (fun _ _ => False) s₁)
    (hend : ∀ s, Inv [] s → Q .next s)
    {us : List (Nat × List Nat)} {xs : XS} {s : Shared} (h0 : Inv us s) (hG : GAt prog w A a us (fun b => ZZ h₀ env.locals zs b ∨ b = a) xs s) (hsn : Snap xs s.heap) (hz : ∀ p ∈ xs, ¬ (ZZ h₀ env.locals zs p.1 ∨ p.1 = a)) :
    codeAny (model prog w) A (.forLoop (.Tuple [.Name (Str.ofString "pos") p1, .Name (Str.ofString "ch") p2] 0 p3) (.ref a) body [] env) (fun r s' => match r with | .ok f => Q f s' | .error e => Ee e s') s := by
  have hp' : (env.scope.kind == .class || (env.scope.kind == .module && env.locals != env.globals)) = false := by rw [hk]; rfl
  refine codeAny_forLoop_any (fun n s => ∃ us xs, n = us.length ∧ Inv us s ∧ GAt prog w A a us (fun b => ZZ h₀ env.locals zs b ∨ b = a) xs s ∧ Snap xs s.heap ∧ ∀ p ∈ xs, ¬ (ZZ h₀ env.locals zs p.1 ∨ p.1 = a)) ?_ us.length ⟨us, xs, rfl, h0, hG, hsn, hz⟩
  rintro n s ⟨us, xs, rfl, hI, G, sn, sz⟩
  have st := stands _ _ hI
  have hSs : Std w s.heap := hS.keeps st.keep
  have la : ∃ o, s.heap.get? a = some o := let ⟨_, _, _, _, ⟨o, _, _, ho, _⟩, _⟩ := G; ⟨o, ho⟩
  have live : ∀ b, (ZZ h₀ env.locals zs b ∨ b = a) → ∃ o, s.heap.get? b = some o := fun b z => by
    rcases z with z | rfl
    · exact st.live b z
    · exact la
  cases us with
  | nil =>
    refine gat_done hh hroom hSs G sn live (fun h' k => hS.keeps fun b o q => k b o (.inl (.inl ⟨o, q⟩)) (st.keep b o q)) fun s' k os tk => ?_
    exact wpAny_pure (hend _ (stable _ _ _ hI (fun b o z q => k b o (.inl z) q) os tk))
  | cons u us =>
    refine gat_item hh hroom hSs G sn (fun b z => let ⟨_, q⟩ := live b z; Heap.lt_size q) (.inr rfl) fun T xs' s' t t' G' sn' sz' k hT os tk => ?_
    have hI' : Inv (u :: us) s' := stable _ _ _ hI (fun b o z q => k b o (.inl z) q) os tk
    obtain ⟨g, gs, U, dn, ⟨og, nm, qn, hog, hogc, hogd, hogs⟩, hgs, hU, hgo⟩ := id G'
    have st' := stands _ _ hI'
    obtain ⟨m, hm⟩ := st'.loc
    have lgo : ∀ (elts : List Expr) (k : Nat) (pos : Pos) (Q : Unit → Shared → Prop) (E : Value → Shared → Prop), Q () s' → wpAny (model prog w) A (letOwnedTupleGo (.Tuple elts k pos) (.ref a) (.ref T)) Q E s' := fun elts k pos Q E hq => by
      unfold letOwnedTupleGo
      refine wpAny_bind (wpAny_load hog ?_)
      rw [hogc, hogd]
      dsimp only
      rw [if_neg (by simp)]
      exact wpAny_pure hq
    refine lgo _ _ _ _ _ ?_
    refine wpAny_assign_Tuple hh hT rfl rfl fun h₃ hx₃ => ?_
    have old₃ : ∀ b o, s'.heap.get? b = some o → h₃.get? b = some o := fun b o q => hx₃ b o (Nat.ne_of_lt (Heap.lt_size q)) q
    show wpAny _ _ (do holding [.str (S u.2) t'] (assign (.Name (Str.ofString "pos") _) env (.int (u.1 : Nat) t)); do holding [] (assign (.Name (Str.ofString "ch") _) env (.str (S u.2) t')); pure ()) _ _ _
    refine wpAny_bind (wpAny_holding (wpAny_assign_Name (wpAny_storeName_local kp (hm.keeps old₃) (fun h₄ hn₄ hs₄ => ?_) hp')))
    replace hs₄ : Heap.SameBut env.locals h₃ h₄ := hs₄
    refine wpAny_bind (wpAny_holding (wpAny_assign_Name (wpAny_storeName_local kc hn₄ (fun h₅ hn₅ hs₅ => wpAny_pure ?_) hp')))
    replace hs₅ : Heap.SameBut env.locals h₄ h₅ := hs₅
    have up₅ : ∀ b o, b ≠ env.locals → s'.heap.get? b = some o → h₅.get? b = some o := fun b o b1 q => (hs₅.2 b b1).trans ((hs₄.2 b b1).trans (old₃ b o q))
    have nxL : ∀ p ∈ xs', p.1 ≠ env.locals := fun p hp q => sz' p hp (.inl (.inr (.inl q)))
    have nx : ∀ p ∈ (a, og) :: xs', h₅.get? p.1 = some p.2 ∧ p.1 ≠ env.locals ∧ h₀.get? p.1 = none := by
      intro p hp
      rcases List.mem_cons.mp hp with rfl | hp
      · exact ⟨up₅ _ _ aL hog, aL, a0⟩
      · refine ⟨up₅ _ _ (nxL p hp) (sn' p hp), nxL p hp, ?_⟩
        cases q : h₀.get? p.1 with
        | none => rfl
        | some o => exact (sz' p hp (.inl (.inl ⟨o, q⟩))).elim
    refine wpAny_mono (turn u us s' _ m t t' ((a, og) :: xs') hI' hm hn₅ up₅ ?_ rfl nx ?_) (fun fl s₂ hf => ?_) fun _ _ x => x.elim
    · dsimp only; omega
    · intro p hp hm'
      rcases List.mem_cons.mp hp with rfl | hp
      · exact az hm'
      · exact sz' p hp (.inl (.inr (.inr hm')))
    · obtain ⟨f1, f2, f3⟩ := hf
      have hGn : GAt prog w A a us (fun b => ZZ h₀ env.locals zs b ∨ b = a) xs' s₂ := G'.move (fun o q => by rw [hog] at q; cases q; exact f1 (a, og) (List.mem_cons_self ..)) f2
      have hsn2 : Snap xs' s₂.heap := fun p hp => f1 p (List.mem_cons_of_mem _ hp)
      cases fl with
      | next => exact ⟨us.length, Nat.lt_succ_self _, us, xs', rfl, f3, hGn, hsn2, sz'⟩
      | cont => exact ⟨us.length, Nat.lt_succ_self _, us, xs', rfl, f3, hGn, hsn2, sz'⟩
      | ret v => exact f3
      | brk => exact f3.elim
end
end Mine
end
section
open Sem (wp)
namespace Mine
theorem fill5 : (PySem.Challenge.rw_tl0001_01.prog = PySem.Challenge.rw_tl0001_01.prog) ∧ (hd.heap_39 = hd.heap_39) := by k_fill; exact ⟨rfl, rfl⟩
section
variable {prog : Program} {w : World} {A : Around} {s : Shared} {K : Frag}
theorem enter_gen {p : Program} {loose : List Str} {mean : ExcName → Option Value} {mg mb : Str → Option Value}
    {R : Result → Shared → Prop} {name qual : Str} {params : Arguments} {body : List Stmt} {scope : Scope} {dV kV doc pm cdv ct oc : Value} {an od : Option Addr} {osl : Array (Option Value)} {f : Addr} {args : Args} {binds : List (Str × Value)}
    (X : K.In s.heap) (T : Top p loose mean mg mb s.heap)
    (ho : K.lookup f = some ⟨oc, od, .func (fnOf name qual params body scope dV kV doc pm an cdv ct), osl⟩) (hcd : codeIn K cdv qual = true) (hroom : A.depth < recursionLimit)
    (hbind : BindsTo s (fnOf name qual params body scope dV kV doc pm an cdv ct) args binds) (hloc : ∀ y ∈ binds, scope.names.lookup y.1 = some .local)
    (h : ∀ (h₁ : Heap) (nm qn : Value), h₁.Ns s.heap.objs.size (fun y => binds.reverse.lookup y) → (∀ b o, s.heap.get? b = some o → h₁.get? b = some o) → h₁.objs.size = s.heap.objs.size + 1 →
      R (.ok (.ret (.ref h₁.objs.size))) { s with gens := s.gens.push (.fresh (.func body (envOf qual scope s.heap.objs.size f cdv))), toks := s.toks + binds.length + 1 + 1, heap := h₁.push { cls := .type "generator", data := .fields #[.int s.gens.size 0, nm, qn] } })
    (hco : scope.isCoroutine = false) (hgen : scope.isGenerator = true) (hk : scope.kind = .function)
    (hcell : ∀ x ∈ scope.names, x.2 ≠ .cell) : codeAny (model prog w) A (.call (.ref f) args) R s := by
  refine codeAny_call_generator (fd := fnOf name qual params body scope dV kV doc pm an cdv ct) hroom (X _ _ ho) rfl hco hgen rfl (codeRec_of X hcd) (hbind _ _ _ _ ?_)
  refine wpAny_newFunctionEnv hcell hloc (fun h₀ hns₀ hsb₀ => ⟨T.nolimit.fresh _ hsb₀, ?_⟩) hk
  refine h h₀ _ _ hns₀ (fun b o e => ?_) ?_
  · exact hsb₀.extBut b o (Nat.ne_of_lt (Heap.lt_size e)) (Heap.get?_push_of_some _ e)
  · rw [hsb₀.1, Heap.size_push]
end
theorem gen_call {w : World} {A : Around} {s : Shared} {R : Result → Shared → Prop} {l : List Nat} {t1 : Tok} (S₀ : Std w s.heap) (H : Rm A 3)
   (h : ∀ a s' xs, s'.os = s.os → s.toks ≤ s'.toks → (∀ b o, s.heap.get? b = some o → s'.heap.get? b = some o) → s.heap.get? a = none → (∀ p ∈ xs, s.heap.get? p.1 = none ∧ p.1 ≠ a) → Snap xs s'.heap →
      (∃ o, s'.heap.get? a = some o) → (∃ g, s'.heap.IsGen a g) →
      (∀ (A' : Around) (Z : Addr → Prop), A'.handled = none → (∀ p ∈ xs, ¬ Z p.1) → GAt PySem.Challenge.rw_tl0001_01.row.prog w A' a (units 0 false l) Z xs s') → R (.ok (.ret (.ref a))) s') :
   codeAny (model PySem.Challenge.rw_tl0001_01.row.prog w) A (.call (.ref 55) ⟨[.str (S l) t1], []⟩) R s := by
  obtain ⟨mean, mg, mb, T⟩ := S₀.t
  have X := S₀.x
  refine' enter_gen (binds := [(Str.ofString "addr", .str (S l) t1)]) X T ?k1 ?k2 ?k3 ?k4 ?k5 ?_ ?k6 ?k7 ?k8 ?k9
  case k1 => k_is
  case k2 => k_is
  case k3 => exact H.room
  case k4 => exact BindsTo.of_eq rfl
  case k5 => exact locs rfl
  case k6 => rfl
  case k7 => rfl
  case k8 => rfl
  case k9 => decide
  intro h₁ nm qn hns hkp hsz
  obtain ⟨oL, es, ep, hLo, hr⟩ := id hns
  have hsz' : h₁.objs.size = s.heap.objs.size + 1 := hsz
  have aN : s.heap.get? h₁.objs.size = none := Heap.get?_none_of_le (by omega)
  have LN : s.heap.get? s.heap.objs.size = none := Heap.get?_none_of_le (Nat.le_refl _)
  have hga : (h₁.push { cls := .type "generator", data := .fields #[.int s.gens.size 0, nm, qn] }).IsGen h₁.objs.size s.gens.size := ⟨_, nm, qn, Heap.get?_push_size _ rfl, rfl, rfl, rfl⟩
  refine h _ _ [(s.heap.objs.size, oL)] rfl (by dsimp only; omega) (fun b o e => Heap.get?_push_of_some _ (hkp b o e)) aN ?_ ?_ (let ⟨o, _, _, ho, _⟩ := hga; ⟨o, ho⟩) ⟨_, hga⟩ ?_
  · intro p hp
    rw [List.mem_singleton.mp hp]
    exact ⟨LN, by rw [hsz']; exact Nat.ne_of_lt (Nat.lt_succ_self _)⟩
  · intro p hp
    rw [List.mem_singleton.mp hp]
    exact Heap.get?_push_of_some _ hLo
  · intro A' Z hA' hz
    refine ⟨s.gens.size, _, units 0 false l, [], hga, Array.getElem?_push_size, rfl, fun s'' R => ?_⟩
    refine ⟨rfl, ?_⟩
    have nG : mainGlobals ≠ s.heap.objs.size ∧ builtinsNs ≠ s.heap.objs.size := ⟨Nat.ne_of_lt (T.g.lt), Nat.ne_of_lt (T.b.lt)⟩
    refine seg_esc_fn (l := l) (t := t1) (A := A'.in1) (m₀ := fun y => [(Str.ofString "addr", Value.str (S l) t1)].reverse.lookup y) ⟨rfl, rfl, rfl, rfl, rfl, rfl⟩ hA' rfl rfl rfl rfl nG R.std (by k_is) R.low (hz _ (List.mem_singleton.mpr rfl)) ⟨oL, es, ep, R.snap (s.heap.objs.size, oL) (List.mem_singleton.mpr rfl), hr⟩ rfl
end Mine
end
section
open Sem (wp)
namespace Mine
theorem Stands.get {h₀ h : Heap} {L : Addr} {zs : List Addr} (x : Stands h₀ L zs h) {b : Addr} (z : ZZ h₀ L zs b) : ∃ o, h.get? b = some o := x.live b z
section
variable {w : World} {A : Around} {E : Value → Shared → Prop} {s : Shared}
theorem for_esc {Q : Flow → Shared → Prop} {Ee : Value → Shared → Prop} {h₀ : Heap} {zs : List Addr} {env : Env} {p1 p2 p3 : Pos} {body : List Stmt} {l : List Nat} {t : Tok} (H : Rm A 3)
    (hk : env.scope.kind = .function) (kp : env.kindOf (Str.ofString "pos") = some .local) (kc : env.kindOf (Str.ofString "ch") = some .local) (hS : Std w h₀)
    (Inv : List (Nat × List Nat) → Shared → Prop) (stands : ∀ us s, Inv us s → Stands h₀ env.locals zs s.heap)
    (stable : ∀ us s s', Inv us s → (∀ b o, ZZ h₀ env.locals zs b → s.heap.get? b = some o → s'.heap.get? b = some o) → s'.os = s.os → s.toks ≤ s'.toks → Inv us s')
    (h0 : Inv (units 0 false l) s)
    (turn : ∀ u us s s₁ m t t' (xs : XS), Inv (u :: us) s → s.heap.Ns env.locals m → s₁.heap.Ns env.locals (fun x => if x = Str.ofString "ch" then some (.str (S u.2) t') else if x = Str.ofString "pos" then some (.int (u.1 : Nat) t) else m x) →
      (∀ b o, b ≠ env.locals → s.heap.get? b = some o → s₁.heap.get? b = some o) → s.toks ≤ s₁.toks → s₁.os = s.os → News h₀ env.locals s₁.heap xs → (∀ p ∈ xs, p.1 ∉ zs) →
      wpAny (model PySem.Challenge.rw_tl0001_01.row.prog w) A (execs body env) (TurnQ Inv Q us xs s₁.gens) (fun _ _ => False) s₁)
    (hend : ∀ s, Inv [] s → Q .next s) :
    wpAny (model PySem.Challenge.rw_tl0001_01.row.prog w) A (call (.ref 55) [.str (S l) t]) (fun x s₁ => wpAny (model PySem.Challenge.rw_tl0001_01.row.prog w) A (pyIter x) (fun it s₂ =>
      codeAny (model PySem.Challenge.rw_tl0001_01.row.prog w) A (.forLoop (.Tuple [.Name (Str.ofString "pos") p1, .Name (Str.ofString "ch") p2] 0 p3) it body [] env) (fun r s' => match r with | .ok f => Q f s' | .error e => Ee e s') s₂) E s₁) E s := by
  have st := stands _ _ h0
  refine wpAny_call (gen_call (hS.keeps st.keep) H fun a s' xs os tk keep aN xN sn la hg G => ?_)
  obtain ⟨g, hg⟩ := hg
  have za : ¬ ZZ h₀ env.locals zs a := fun z => by
    obtain ⟨o, q⟩ := st.live a z
    rw [aN] at q; cases q
  have zx : ∀ p ∈ xs, ¬ (ZZ h₀ env.locals zs p.1 ∨ p.1 = a) := fun p hp z => by
    rcases z with z | z
    · obtain ⟨o, q⟩ := st.live _ z
      rw [(xN p hp).1] at q; cases q
    · exact (xN p hp).2 z
  refine wpAny_pyIter_gen hg ?_
  refine for_gen H.hd H.room hk kp kc hS ?_ (fun q => za (.inr (.inl q))) (fun q => za (.inr (.inr q))) Inv stands stable turn hend (stable _ _ _ h0 (fun b o _ q => keep b o q) os tk) (G A _ H.hd zx) sn zx
  cases q : h₀.get? a with
  | none => rfl
  | some o => exact (za (.inl ⟨o, q⟩)).elim
end
end Mine
end
namespace Mine
/-- what stands outside the marks -/
def stripGo (l : List Nat) : List (Nat × List Nat) → Nat → Option Nat → List Nat
  | [], st, _ => if st < l.length then l.drop st else []
  | (p, y) :: r, st, op => if y = [34] then (match op with
      | none => stripGo l r st (some p)
      | some o => (if st ≠ o then (l.drop st).take (o - st) else []) ++ stripGo l r (p + 1) none) else stripGo l r st op
def stripL (l : List Nat) : List Nat := if 34 ∈ l then stripGo l (units 0 false l) 0 none else l
theorem units_pos : ∀ (l : List Nat) (i : Nat) (e : Bool), ∀ u ∈ units i e l, u.1 ≤ i + l.length
  | [], i, e => by
    intro u hu
    unfold units at hu
    split at hu
    · rw [List.mem_singleton.mp hu]; simp
    · cases hu
  | c :: r, i, true => by
    intro u hu
    rw [units] at hu
    rcases List.mem_cons.mp hu with rfl | hu
    · simp
    · have := units_pos r (i + 1) false u hu
      simp; omega
  | c :: r, i, false => by
    intro u hu
    rw [units] at hu
    split at hu
    · have := units_pos r (i + 1) true u hu
      simp; omega
    · rcases List.mem_cons.mp hu with rfl | hu
      · simp
      · have := units_pos r (i + 1) false u hu
        simp; omega
theorem units_len : ∀ (l : List Nat) (i : Nat) (e : Bool), (units i e l).length ≤ l.length + 1
  | [], i, e => by
    unfold units
    split <;> simp
  | c :: r, i, true => by
    rw [units]
    have := units_len r (i + 1) false
    simp; omega
  | c :: r, i, false => by
    rw [units]
    have := units_len r (i + 1) false
    have := units_len r (i + 1) true
    split <;> simp <;> omega
theorem ns_uniq {h : Heap} {L : Addr} {m m' : Str → Option Value} (a : h.Ns L m) (b : h.Ns L m') : m = m' := by
  obtain ⟨o, es, ep, ho, hd, _, hf⟩ := a
  obtain ⟨o', es', ep', ho', hd', _, hf'⟩ := b
  rw [ho] at ho'
  cases ho'
  rw [hd] at hd'
  cases hd'
  funext x
  rw [← hf, ← hf']
def opV : Option (Nat × Tok) → Value
  | none => .none
  | some (o, t) => .int (o : Nat) t
/-- where the loop of the stripping stands -/
def SI (s₀ : Shared) (l : List Nat) (t1 : Tok) (D : Addr) (us : List (Nat × List Nat)) (s : Shared) : Prop :=
  ∃ (m : Str → Option Value) (st : Nat) (op : Option (Nat × Tok)) (ts : Tok) (items : Array Value) (n : Nat) (ls : List (List Nat)), Fr s₀.heap s₀.heap.objs.size s.heap m ∧ m (Str.ofString "addr") = some (.str (S l) t1) ∧ m (Str.ofString "start") = some (.int (st : Nat) ts) ∧
    m (Str.ofString "open_pos") = some (opV op) ∧ m (Str.ofString "result") = some (.ref D) ∧ News s₀.heap s₀.heap.objs.size s.heap [(D, listOf items n)] ∧ StrsAre items.toList (ls.map S) ∧
    ls.flatten ++ stripGo l us st (op.map (·.1)) = stripGo l (units 0 false l) 0 none ∧ (∀ x ∈ ls, x.length ≤ l.length) ∧ ls.length + us.length ≤ l.length + 1 ∧ (∀ u ∈ us, u.1 ≤ l.length) ∧ st ≤ l.length + 1 ∧ (∀ o t, op = some (o, t) → o ≤ l.length) ∧
    s₀.toks ≤ s.toks ∧ s.os = s₀.os
theorem SI.stands {s₀ : Shared} {l : List Nat} {t1 : Tok} {D : Addr} {us : List (Nat × List Nat)} {s : Shared} (x : SI s₀ l t1 D us s) : Stands s₀.heap s₀.heap.objs.size [D] s.heap := by
  obtain ⟨m, st, op, ts, items, n, ls, F, _, _, _, _, N, _⟩ := x
  refine ⟨F.keep, fun b z => ?_, ⟨m, F.ns⟩⟩
  rcases z with ⟨o, q⟩ | rfl | z
  · exact ⟨o, F.keep b o q⟩
  · obtain ⟨o, es, ep, ho, _⟩ := F.ns; exact ⟨o, ho⟩
  · rw [List.mem_singleton.mp z]; exact ⟨_, (N (D, listOf items n) (List.mem_singleton.mpr rfl)).1⟩
theorem SI.stable {s₀ : Shared} {l : List Nat} {t1 : Tok} {D : Addr} {us : List (Nat × List Nat)} {s s' : Shared} (x : SI s₀ l t1 D us s) (k : ∀ b o, ZZ s₀.heap s₀.heap.objs.size [D] b → s.heap.get? b = some o → s'.heap.get? b = some o)
    (os : s'.os = s.os) (tk : s.toks ≤ s'.toks) : SI s₀ l t1 D us s' := by
  obtain ⟨m, st, op, ts, items, n, ls, F, h1, h2, h3, h4, N, h5, h6, h7, h8, h9, h10, h11, h12, h13⟩ := x
  refine ⟨m, st, op, ts, items, n, ls, ⟨F.ns.at' fun o q => k _ o (.inr (.inl rfl)) q, fun b o q => k b o (.inl ⟨o, q⟩) (F.keep b o q), F.above⟩, h1, h2, h3, h4, ?_, h5, h6, h7, h8, h9, h10, h11, Nat.le_trans h12 tk, os.trans h13⟩
  intro p hp
  rw [List.mem_singleton.mp hp]
  have := N _ (List.mem_singleton.mpr rfl)
  exact ⟨k _ _ (.inr (.inr (List.mem_singleton.mpr rfl))) this.1, this.2⟩
theorem strip_map {m : Str → Option Value} {a b c d : Value} (h1 : m (Str.ofString "addr") = some a) (h2 : m (Str.ofString "start") = some b) (h3 : m (Str.ofString "open_pos") = some c) (h4 : m (Str.ofString "result") = some d) :
    m = fun x => if x = Str.ofString "addr" then some a else if x = Str.ofString "start" then some b else if x = Str.ofString "open_pos" then some c else if x = Str.ofString "result" then some d else m x := by
  funext x
  split
  · rename_i q; rw [q]; exact h1
  · split
    · rename_i q; rw [q]; exact h2
    · split
      · rename_i q; rw [q]; exact h3
      · split
        · rename_i q; rw [q]; exact h4
        · rfl
theorem sum_len_le {B : Nat} : ∀ ls : List (List Nat), (∀ x ∈ ls, x.length ≤ B) → (ls.map List.length).sum ≤ ls.length * B
  | [], _ => by simp
  | x :: r, h => by
    have h1 := h x (List.mem_cons_self ..)
    have h2 := sum_len_le r fun y hy => h y (List.mem_cons_of_mem _ hy)
    rw [List.map_cons, List.sum_cons, List.length_cons, Nat.succ_mul]
    omega
theorem join_end {prog : Program} {w : World} {A : Around} {E : Value → Shared → Prop} {s : Shared} {h₀ : Heap} {L D : Addr} {items : Array Value} {n B : Nat} {ls : List (List Nat)} {t : Tok} {Q : Value → Shared → Prop} {r : XS}
    (N : News h₀ L s.heap ((D, listOf items n) :: r)) (hi : StrsAre items.toList (ls.map S)) (hB : ∀ x ∈ ls, x.length ≤ B) (hls : ls.length * B ≤ 16000000) (h : ∀ t' k, s.toks ≤ k → Q (.str (S ls.flatten) t') { s with toks := k }) :
    wpAny (model prog w) A (call (.builtin "str.join") [.str (Str.ofString "") t, .ref D]) Q E s := by
  rw [li_no]
  have hs := sum_len_le ls hB
  refine join_call (sep := []) ⟨_, (N (D, listOf items n) (List.mem_cons_self ..)).1, rfl, n, rfl⟩ hi (by simp only [List.length_nil]; omega) fun t' k hk => ?_
  rw [joinL_nil]
  exact h t' k hk
theorem SI.leaf {s₀ : Shared} {l : List Nat} {t1 : Tok} {D : Addr} {us : List (Nat × List Nat)} {xs : XS} {h : Heap} {g : Array GenState} {d : Drawn} {k : Nat} {os : OsState} {Q : Flow → Shared → Prop} {m : Str → Option Value} {st : Nat} {op : Option (Nat × Tok)} {ts : Tok} {items : Array Value} {n : Nat} {vi vo : Value}
    (ls : List (List Nat)) (F : Fr s₀.heap s₀.heap.objs.size h m) (N : News s₀.heap s₀.heap.objs.size h ((D, listOf items n) :: xs)) (h1 : m (Str.ofString "addr") = some (.str (S l) t1)) (h2 : m (Str.ofString "start") = some vi) (h3 : m (Str.ofString "open_pos") = some vo) (h4 : m (Str.ofString "result") = some (.ref D))
    (e1 : vi = .int (st : Nat) ts) (e2 : vo = opV op) (h5 : StrsAre items.toList (ls.map S))
    (h6 : ls.flatten ++ stripGo l us st (op.map (·.1)) = stripGo l (units 0 false l) 0 none) (h7 : ∀ x ∈ ls, x.length ≤ l.length) (h8 : ls.length + us.length ≤ l.length + 1) (h9 : ∀ u ∈ us, u.1 ≤ l.length) (h10 : st ≤ l.length + 1) (h11 : ∀ o t, op = some (o, t) → o ≤ l.length)
    (h12 : s₀.toks ≤ k) (h13 : os = s₀.os) : TurnQ (SI s₀ l t1 D) Q us xs g .next ⟨h, g, d, k, os⟩ := by
  subst e1 e2
  exact ⟨fun p hp => (N p (List.mem_cons_of_mem _ hp)).1, rfl, m, st, op, ts, items, n, ls, F, h1, h2, h3, h4, fun p hp => N p (by rw [List.mem_singleton.mp hp]; exact List.mem_cons_self ..), h5, h6, h7, h8, h9, h10, h11, h12, h13⟩
end Mine
section
open Sem (wp)
namespace Mine
/-- what a turn of a loop leaves -/
def WalkQ (I : Addr) (oI : Obj) (J : Shared → Prop) (Q : Flow → Shared → Prop) (fl : Flow) (s₂ : Shared) : Prop :=
  s₂.heap.get? I = some oI ∧ match fl with | .next => J s₂ | .cont => J s₂ | .ret v => Q (.ret v) s₂ | .brk => False
section
variable {prog : Program} {w : World} {A : Around}
theorem for_walk {Q : Flow → Shared → Prop} {Ee : Value → Shared → Prop} {h₀ : Heap} {zs : List Addr} {I : Addr} {env : Env} {x : Str} {px : Pos} {body : List Stmt} {n : Nat} {P : Nat → Value → Prop} {St : Nat → Heap → Prop}
    (W : Walks prog w A I [I] [I] n P St) (hlive : ∀ i h, St i h → ∃ o, h.get? I = some o) (hk : env.scope.kind = .function) (hx : env.kindOf x = some .local)
    (I0 : h₀.get? I = none) (IL : I ≠ env.locals) (Iz : I ∉ zs)
    (Inv : Nat → Shared → Prop) (stands : ∀ i s, Inv i s → Stands h₀ env.locals zs s.heap)
    (stable : ∀ i s s', Inv i s → (∀ b o, ZZ h₀ env.locals zs b → s.heap.get? b = some o → s'.heap.get? b = some o) → s'.os = s.os → s.toks ≤ s'.toks → Inv i s')
    (turn : ∀ i v s s₁ m oI, i < n → P i v → Inv i s → s.heap.Ns env.locals m → s₁.heap.Ns env.locals (fun y => if y = x then some v else m y) →
      (∀ b o, b ≠ env.locals → s.heap.get? b = some o → s₁.heap.get? b = some o) → s.toks ≤ s₁.toks → s₁.os = s.os → News h₀ env.locals s₁.heap [(I, oI)] →
      wpAny (model prog w) A (execs body env) (WalkQ I oI (Inv (i + 1)) Q) (fun _ _ => False) s₁)
    (hend : ∀ s, Inv n s → Q .next s) {s : Shared} (h0 : Inv 0 s) (hst : St 0 s.heap) :
    codeAny (model prog w) A (.forLoop (.Name x px) (.ref I) body [] env) (fun r s' => match r with | .ok f => Q f s' | .error e => Ee e s') s := by
  have hp' : (env.scope.kind == .class || (env.scope.kind == .module && env.locals != env.globals)) = false := by rw [hk]; rfl
  have nz : ∀ b, ZZ h₀ env.locals zs b → b ∉ [I] := fun b z q => by
    rw [List.mem_singleton.mp q] at z
    rcases z with ⟨o, z⟩ | z | z
    · rw [I0] at z; cases z
    · exact IL z
    · exact Iz z
  refine codeAny_forLoop_any (fun k s => ∃ i, k = n - i ∧ i ≤ n ∧ Inv i s ∧ St i s.heap) ?_ (n - 0) ⟨0, rfl, Nat.zero_le _, h0, hst⟩
  rintro k s ⟨i, rfl, hi, hI, hS⟩
  by_cases hlt : i < n
  · refine wpAny_tok (W.item i s _ _ hlt hS fun v h' tk hP hS' hk' => ?_)
    intro htk
    replace htk : s.toks ≤ tk := htk
    have hI' : Inv i { s with heap := h', toks := tk } := stable i s _ hI (fun b o z q => hk' b o (nz b z) q) rfl htk
    obtain ⟨m, hm⟩ := (stands _ _ hI').loc
    obtain ⟨oI, hoI⟩ := hlive _ _ hS'
    show wpAny _ _ (letOwnedTupleGo (.Name x px) (.ref I) v) _ _ _
    refine wpAny_of_eq (a := ()) rfl ?_
    refine wpAny_assign_Name (wpAny_storeName_local hx hm (fun h₂ hn₂ hs₂ => ?_) hp')
    replace hs₂ : Heap.SameBut env.locals h' h₂ := hs₂
    have up : ∀ b o, b ≠ env.locals → h'.get? b = some o → h₂.get? b = some o := fun b o nb q => (hs₂.2 b nb).trans q
    refine wpAny_mono (turn i v _ _ m oI hlt hP hI' hm hn₂ up (by dsimp only; omega) rfl ?_) (fun fl s₂ hf => ?_) fun _ _ x => x.elim
    · intro p hp
      rw [List.mem_singleton.mp hp]
      exact ⟨up _ _ IL hoI, IL, I0⟩
    · obtain ⟨f1, f2⟩ := hf
      have hS2 : St (i + 1) s₂.heap := W.frame _ _ _ hS' fun b hb o q => by
        rw [List.mem_singleton.mp hb] at q ⊢
        rw [hoI] at q; cases q; exact f1
      cases fl with
      | next => exact ⟨n - (i + 1), by omega, i + 1, rfl, hlt, f2, hS2⟩
      | cont => exact ⟨n - (i + 1), by omega, i + 1, rfl, hlt, f2, hS2⟩
      | ret v => exact f2
      | brk => exact f2.elim
  · have hin : i = n := by omega
    subst hin
    refine wpAny_tok (W.done s _ _ hS fun h' tk hk' => ?_)
    intro htk
    exact wpAny_pure (hend _ (stable _ s _ hI (fun b o z q => hk' b o (nz b z) q) rfl htk))

theorem for_range {E : Value → Shared → Prop} {Q : Flow → Shared → Prop} {Ee : Value → Shared → Prop} {h₀ : Heap} {zs : List Addr} {env : Env} {x : Str} {px : Pos} {body : List Stmt} {s : Shared} {r : Addr} {a b : Int} {t u v : Tok} {lo hi : Nat}
    (hr : IsRange s.heap r a b 1 t u v) (ea : a = (lo : Nat)) (eb : b = (hi : Nat)) (hlo : lo < 1000000) (hhi : hi < 1000000) (hh : A.handled = none) (hk : env.scope.kind = .function) (hx : env.kindOf x = some .local)
    (Inv : Nat → Shared → Prop) (stands : ∀ i s, Inv i s → Stands h₀ env.locals zs s.heap)
    (stable : ∀ i s s', Inv i s → (∀ b o, ZZ h₀ env.locals zs b → s.heap.get? b = some o → s'.heap.get? b = some o) → s'.os = s.os → s.toks ≤ s'.toks → Inv i s')
    (h0 : Inv 0 s)
    (turn : ∀ i t s s₁ m I oI, lo + i < hi → Inv i s → s.heap.Ns env.locals m → s₁.heap.Ns env.locals (fun y => if y = x then some (.int (lo + i : Nat) t) else m y) →
      (∀ b o, b ≠ env.locals → s.heap.get? b = some o → s₁.heap.get? b = some o) → s.toks ≤ s₁.toks → s₁.os = s.os → News h₀ env.locals s₁.heap [(I, oI)] → I ∉ zs →
      wpAny (model prog w) A (execs body env) (WalkQ I oI (Inv (i + 1)) Q) (fun _ _ => False) s₁)
    (hend : ∀ s, Inv (hi - lo) s → Q .next s) :
    wpAny (model prog w) A (pyIter (.ref r)) (fun it s₂ => codeAny (model prog w) A (.forLoop (.Name x px) it body [] env) (fun r s' => match r with | .ok f => Q f s' | .error e => Ee e s') s₂) E s := by
  subst ea eb
  have st := stands _ _ h0
  have nI : ∀ z, ZZ h₀ env.locals zs z → z ≠ s.heap.objs.size := fun z q e => by
    obtain ⟨o, q'⟩ := st.live z q
    exact Nat.lt_irrefl _ (e ▸ Heap.lt_size q')
  have pw : (2 : Int) ^ 62 = 4611686018427387904 := by decide
  refine wpAny_pyIter_range hr (small_one (by omega) (by omega) (by omega) (by omega)) ?_
  have hsz : Builtin.Range.rangeSize (lo : Int) (hi : Int) 1 = ((hi - lo : Nat) : Int) := by rw [rangeSize_nat]; omega
  refine for_walk (zs := zs) (h₀ := h₀) (n := hi - lo) (Walks.range hh s.heap.objs.size (lo : Int) 1 (hi - lo)) (fun i h q => ⟨_, q⟩) hk hx ?_ (fun e => nI _ (.inr (.inl rfl)) e.symm) (fun q => nI _ (.inr (.inr q)) rfl) Inv stands stable ?_ hend ?_ ?_
  · cases q : h₀.get? s.heap.objs.size with
    | none => rfl
    | some o => exact (nI _ (.inl ⟨o, q⟩) rfl).elim
  · rintro i v s' s₁ m oI hlt ⟨t', rfl⟩ hI hm hn up tk os N
    have e : (lo : Int) + (i : Nat) * 1 = ((lo + i : Nat) : Int) := by omega
    rw [e] at hn
    exact turn i t' s' s₁ m _ oI (by omega) hI hm hn up tk os N (fun q => nI _ (.inr (.inr q)) rfl)
  · exact stable _ _ _ h0 (fun b o z q => Heap.get?_push_of_some _ q) rfl (Nat.le_refl _)
  · have e1 : ((lo : Int) + ((0 : Nat) : Int) * 1) = lo := by omega
    have e2 : (((hi - lo : Nat) : Int) - ((0 : Nat) : Int)) = ((hi - lo : Nat) : Int) := by omega
    show IsRangeIter _ _ ((lo : Int) + ((0 : Nat) : Int) * 1) (((hi - lo : Nat) : Int) - ((0 : Nat) : Int)) 1
    rw [e1, e2, hsz]
    exact Heap.get?_push_size _ rfl
/-- over the signs of a text -/
theorem walks_str (hh : A.handled = none) (I : Addr) (l : List Nat) (t : Tok) :
    Walks prog w A I [I] [I] l.length (fun i v => ∃ c u, l[i]? = some c ∧ v = .str (S [c]) u) (fun i h => h.IsStrIter I (strIterType (S l)) (S l) t i) := by
  have conv : ∀ (ty : String) (n : Nat), n = l.length → Walks prog w A I [I] [I] n (SignAt (S l)) (fun i h => h.IsStrIter I ty (S l) t i) →
      Walks prog w A I [I] [I] l.length (fun i v => ∃ c u, l[i]? = some c ∧ v = .str (S [c]) u) (fun i h => h.IsStrIter I ty (S l) t i) := fun ty n en W => by
    subst en
    exact { sub := W.sub, frame := W.frame, done := W.done, self := W.self, item := fun i s Q E hi st hQ => W.item i s Q E hi st fun v h' tk hP => hQ v h' tk (by obtain ⟨c, u, h1, h2⟩ := hP; exact ⟨c, u, by simpa [S] using h1, h2⟩) }
  cases ha : (S l).cps.all (· < 128)
  · have e : strIterType (S l) = "str_iterator" := by unfold strIterType; rw [ha]; rfl
    rw [e]
    exact conv _ _ (by simp [S]) (Walks.strWide (prog := prog) (w := w) hh I (S l) t)
  · have e : strIterType (S l) = "str_ascii_iterator" := by unfold strIterType; rw [ha]; rfl
    rw [e]
    exact conv _ _ (by simp [S]) (Walks.strAscii (prog := prog) (w := w) hh I (S l) t)
theorem for_str {E : Value → Shared → Prop} {Q : Flow → Shared → Prop} {Ee : Value → Shared → Prop} {h₀ : Heap} {zs : List Addr} {env : Env} {x : Str} {px : Pos} {body : List Stmt} {s : Shared} {l : List Nat} {t : Tok}
    (hh : A.handled = none) (hk : env.scope.kind = .function) (hx : env.kindOf x = some .local)
    (Inv : Nat → Shared → Prop) (stands : ∀ i s, Inv i s → Stands h₀ env.locals zs s.heap)
    (stable : ∀ i s s', Inv i s → (∀ b o, ZZ h₀ env.locals zs b → s.heap.get? b = some o → s'.heap.get? b = some o) → s'.os = s.os → s.toks ≤ s'.toks → Inv i s')
    (h0 : Inv 0 s)
    (turn : ∀ i c t s s₁ m I oI, l[i]? = some c → Inv i s → s.heap.Ns env.locals m → s₁.heap.Ns env.locals (fun y => if y = x then some (.str (S [c]) t) else m y) →
      (∀ b o, b ≠ env.locals → s.heap.get? b = some o → s₁.heap.get? b = some o) → s.toks ≤ s₁.toks → s₁.os = s.os → News h₀ env.locals s₁.heap [(I, oI)] → I ∉ zs →
      wpAny (model prog w) A (execs body env) (WalkQ I oI (Inv (i + 1)) Q) (fun _ _ => False) s₁)
    (hend : ∀ s, Inv l.length s → Q .next s) :
    wpAny (model prog w) A (pyIter (.str (S l) t)) (fun it s₂ => codeAny (model prog w) A (.forLoop (.Name x px) it body [] env) (fun r s' => match r with | .ok f => Q f s' | .error e => Ee e s') s₂) E s := by
  have st := stands _ _ h0
  have nI : ∀ z, ZZ h₀ env.locals zs z → z ≠ s.heap.objs.size := fun z q e => by
    obtain ⟨o, q'⟩ := st.live z q
    exact Nat.lt_irrefl _ (e ▸ Heap.lt_size q')
  refine wpAny_pyIter_strU ?_
  refine for_walk (zs := zs) (h₀ := h₀) (walks_str (t := t) hh s.heap.objs.size l) (fun i h q => let ⟨o, q', _⟩ := q; ⟨o, q'⟩) hk hx ?_ (fun e => nI _ (.inr (.inl rfl)) e.symm) (fun q => nI _ (.inr (.inr q)) rfl) Inv stands stable ?_ hend ?_ ?_
  · cases q : h₀.get? s.heap.objs.size with
    | none => rfl
    | some o => exact (nI _ (.inl ⟨o, q⟩) rfl).elim
  · rintro i v s' s₁ m oI hlt ⟨c, t', hc, rfl⟩ hI hm hn up tk os N
    exact turn i c t' s' s₁ m _ oI hc hI hm hn up tk os N (fun q => nI _ (.inr (.inr q)) rfl)
  · exact stable _ _ _ h0 (fun b o z q => Heap.get?_push_of_some _ q) rfl (Nat.le_refl _)
  · exact ⟨_, Heap.get?_push_size _ rfl, rfl, rfl⟩
end
end Mine
end
section
open Sem (wp)
namespace Mine
section
variable {prog : Program} {w : World} {A : Around} {E : Value → Shared → Prop} {R : Result → Shared → Prop} {s : Shared}
/-- the loop of a list's comprehension -/
theorem comp_loop {elt target iter : Expr} {ifs : List Expr} {scope : Scope} {pos : Pos} {it acc : Value} {env : Env} (I : Nat → Shared → Prop)
    (turn : ∀ n s, I n s → wpAny (model prog w) A (pyNext it) (fun r s₁ => match r with
      | none => R (.ok .next) s₁
      | some v => wpAny (model prog w) A (letOwnedTupleGo target it v) (fun _ s₁' => wpAny (model prog w) A (assign target env v) (fun _ s₂ =>
          wpAny (model prog w) A (forIn ifs true fun c r => if r = true then do let ok ← isTrue c env (eval c env); pure (ForInStep.yield ok) else pure (ForInStep.yield r)) (fun ok s₃ =>
            if ok = true then wpAny (model prog w) A (eval elt env) (fun x s₄ =>
              wpAny (model prog w) A (call (.builtin "list.append") [acc, x]) (fun _ s₅ => ∃ m, m < n ∧ I m s₅) (fun _ _ => False) s₄) (fun _ _ => False) s₃
            else ∃ m, m < n ∧ I m s₃) (fun _ _ => False) s₂) (fun _ _ => False) s₁') (fun _ _ => False) s₁) (fun _ _ => False) s)
    (n : Nat) (h : I n s) :
    codeAny (model prog w) A (.compLoop (.ListComp elt [⟨target, iter, ifs, 0⟩] scope pos) 0 it acc env) R s := by
  refine codeAny_loop rfl I (fun n s hI => ?_) n h
  show wpAny _ A ((compTurn (.ListComp elt [⟨target, iter, ifs, 0⟩] scope pos) 0 it acc env).onRaise (fun x => do noteFrame x env; theTreesLotGoes x)) _ _ s
  refine wpAny_noted ?_
  rw [compTurn_list]
  refine wpAny_bind (wpAny_standAt (wpAny_bind (wpAny_mono (turn n s hI) (fun r s₁ h₁ => ?_) fun _ _ h' => h'.elim)))
  cases r with
  | none => exact wpAny_pure h₁
  | some v =>
    refine wpAny_bind (wpAny_mono h₁ (fun _ s₁' h₁' => ?_) fun _ _ h' => h'.elim)
    refine wpAny_bind (wpAny_mono h₁' (fun _ s₂ h₂ => wpAny_bind (wpAny_mono h₂ (fun ok s₃ h₃ => ?_) fun _ _ h' => h'.elim)) fun _ _ h' => h'.elim)
    cases ok with
    | false => exact wpAny_pure ⟨rfl, h₃⟩
    | true =>
      exact wpAny_bind (wpAny_bind (wpAny_mono h₃ (fun x s₄ h₄ => wpAny_bind (wpAny_mono h₄ (fun _ s₅ h₅ => wpAny_pure (wpAny_pure ⟨rfl, h₅⟩)) fun _ _ h' => h'.elim)) fun _ _ h' => h'.elim))
theorem lgo_gen {a T : Addr} {g : Nat} {elts : List Expr} {k : Nat} {pos : Pos} {Q : Unit → Shared → Prop} (hg : s.heap.IsGen a g) (hq : Q () s) : wpAny (model prog w) A (letOwnedTupleGo (.Tuple elts k pos) (.ref a) (.ref T)) Q E s := by
  obtain ⟨og, nm, qn, hog, hogc, hogd, hogs⟩ := hg
  unfold letOwnedTupleGo
  refine wpAny_bind (wpAny_load hog ?_)
  rw [hogc, hogd]
  dsimp only
  rw [if_neg (by simp)]
  exact wpAny_pure hq
end
def lastL (y : List Nat) : Nat := y.getD (y.length - 1) 0
/-- the last signs of the units -/
def unescL (l : List Nat) : List Nat := (units 0 false l).map fun u => lastL u.2
theorem units_ne : ∀ (l : List Nat) (i : Nat) (e : Bool), ∀ u ∈ units i e l, 0 < u.2.length
  | [], i, e => by
    intro u hu
    unfold units at hu
    split at hu
    · rw [List.mem_singleton.mp hu]; simp
    · cases hu
  | c :: r, i, true => by
    intro u hu
    rw [units] at hu
    rcases List.mem_cons.mp hu with rfl | hu
    · simp
    · exact units_ne r (i + 1) false u hu
  | c :: r, i, false => by
    intro u hu
    rw [units] at hu
    split at hu
    · exact units_ne r (i + 1) true u hu
    · rcases List.mem_cons.mp hu with rfl | hu
      · simp
      · exact units_ne r (i + 1) false u hu
theorem units_short : ∀ (l : List Nat) (i : Nat) (e : Bool), ∀ u ∈ units i e l, u.2.length ≤ 2
  | [], i, e => by
    intro u hu
    unfold units at hu
    split at hu
    · rw [List.mem_singleton.mp hu]; simp
    · cases hu
  | c :: r, i, true => by
    intro u hu
    rw [units] at hu
    rcases List.mem_cons.mp hu with rfl | hu
    · simp
    · exact units_short r (i + 1) false u hu
  | c :: r, i, false => by
    intro u hu
    rw [units] at hu
    split at hu
    · exact units_short r (i + 1) true u hu
    · rcases List.mem_cons.mp hu with rfl | hu
      · simp
      · exact units_short r (i + 1) false u hu
section
variable {w : World} {A : Around} {E : Value → Shared → Prop} {s : Shared}
theorem comp_esc {h₀ : Heap} {L : Addr} {m : Str → Option Value} {news : XS} {env : Env} {l : List Nat} {t : Tok} {Q : Value → Shared → Prop} {scope : Scope} {iter : Expr} {pos p1 p2 p3 p4 p5 p6 p7 : Pos} (H : Rm A 3) (hS : Std w h₀) (hl : l.length ≤ 100000)
    (hk : scope.kind = .function) (hcell : ∀ y ∈ scope.names, y.2 ≠ .cell)
    (k1 : ∀ C : Env, Env.kindOf { C with scope := scope } (Str.ofString "place") = some .local) (k2 : ∀ C : Env, Env.kindOf { C with scope := scope } (Str.ofString "unit") = some .local)
    (F : Fr h₀ L s.heap m) (N : News h₀ L s.heap news)
    (h : ∀ D items n h' g' d' k', Fr h₀ L h' m → News h₀ L h' ((D, listOf items n) :: news) → StrsAre items.toList (((unescL l).map fun c => [c]).map S) → s.toks ≤ k' → Q (.ref D) ⟨h', g', d', k', s.os⟩) :
    wpAny (model PySem.Challenge.rw_tl0001_01.row.prog w) A (call (.ref 55) [.str (S l) t]) (fun x s₁ => wpAny (model PySem.Challenge.rw_tl0001_01.row.prog w) A (pyIter x) (fun it s₂ => wpAny (model PySem.Challenge.rw_tl0001_01.row.prog w) A (newList []) (fun acc s₃ =>
      wpAny (model PySem.Challenge.rw_tl0001_01.row.prog w) A (newFunctionEnv scope env.globals [] [] env.qual none .none (some env)) (fun cenv s₄ =>
        codeAny (model PySem.Challenge.rw_tl0001_01.row.prog w) A (.compStart (.ListComp (.Subscript (.Name (Str.ofString "unit") p1) (.UnaryOp .USub (.Constant (.int 1) 0 p2) p3) p4) [⟨.Tuple [.Name (Str.ofString "place") p5, .Name (Str.ofString "unit") p6] 0 p7, iter, [], 0⟩] scope pos) 0 it acc { cenv with scope := scope })
          (fun r s' => ∃ m, s'.heap.Ns cenv.locals m ∧ ∀ h', Heap.SameBut cenv.locals s'.heap h' →
            match r with | .ok _ => Q acc { s' with heap := h' } | .error x => wpAny (model PySem.Challenge.rw_tl0001_01.row.prog w) A (passOn "comprehension.variables-let-go" x { cenv with scope := scope }) Q E { s' with heap := h' }) s₄) E s₃) E s₂) E s₁) E s := by
  have hLs : L < s.heap.objs.size := F.ns.lt
  refine wpAny_call (gen_call (hS.keeps F.keep) H fun a s' xs os tk keep aN xN sn la hg G => ?_)
  obtain ⟨g, hg⟩ := hg
  refine wpAny_pyIter_gen hg ?_
  refine wpAny_newList ?_ (by show 0 ≤ sizeLine; exact Nat.zero_le _)
  refine wpAny_newFunctionEnv hcell (by intro y hy; cases hy) (fun h₁ hns₁ hsb₁ => ?_) hk
  obtain ⟨hp', g', d', k', o'⟩ := s'
  dsimp only at os tk keep hns₁ hsb₁ sn la hg ⊢
  subst os
  have al : a < hp'.objs.size := let ⟨o, q⟩ := la; Heap.lt_size q
  have aL : a ≠ L := fun e => by
    obtain ⟨o, es, ep, ho, _⟩ := F.ns
    rw [← e, aN] at ho; cases ho
  have hsz : (hp'.push { cls := .type "list", data := .seq ([] : List Value).toArray }).objs.size = hp'.objs.size + 1 := Heap.size_push ..
  generalize hH2 : hp'.push { cls := .type "list", data := .seq ([] : List Value).toArray } = H2 at hns₁ hsb₁ hsz ⊢
  generalize hCC : H2.objs.size = C at hns₁ hsb₁ ⊢
  generalize hDD : hp'.objs.size = D at hsz ⊢ al
  have hCD : C = D + 1 := hCC.symm.trans hsz
  have CD : C ≠ D := by rw [hCD]; exact Nat.succ_ne_self _
  have aD : a ≠ D := Nat.ne_of_lt al
  have aC : a ≠ C := by rw [hCD]; exact Nat.ne_of_lt (Nat.lt_succ_of_lt al)
  have lt' : ∀ b o, hp'.get? b = some o → b < D := fun b o q => by rw [← hDD]; exact Heap.lt_size q
  have old₁ : ∀ b o, hp'.get? b = some o → h₁.get? b = some o := fun b o q =>
    (hsb₁.2 b (by rw [hCD]; exact Nat.ne_of_lt (Nat.lt_succ_of_lt (lt' b o q)))).trans (Heap.get?_push_of_some _ (by rw [← hH2]; exact Heap.get?_push_of_some _ q))
  have hD₁ : h₁.get? D = some (listOf #[] 0) := (hsb₁.2 D (Ne.symm CD)).trans (Heap.get?_push_of_some _ (by rw [← hH2, ← hDD]; exact Heap.get?_push_size _ rfl))
  have sD : ∀ b o, s.heap.get? b = some o → b < D := fun b o q => lt' b o (keep b o q)
  let Z : Addr → Prop := fun b => (∃ o, s.heap.get? b = some o) ∨ b = D ∨ b = C ∨ b = a
  have zx : ∀ p ∈ xs, ¬ Z p.1 := fun p hp z => by
    have hpl := lt' _ _ (sn p hp)
    rcases z with ⟨o, z⟩ | z | z | z
    · rw [(xN p hp).1] at z; cases z
    · rw [z] at hpl; exact Nat.lt_irrefl _ hpl
    · rw [z, hCD] at hpl; exact Nat.lt_irrefl _ (Nat.lt_of_succ_lt hpl)
    · exact (xN p hp).2 z
  generalize hU : (unescL l).map (fun c => [c]) = tot at h
  let J : Nat → Shared → Prop := fun n s₁ => ∃ (us : List (Nat × List Nat)) (xs : XS) (items : Array Value) (nn : Nat) (ls : List (List Nat)) (mC : Str → Option Value), n = us.length ∧ GAt PySem.Challenge.rw_tl0001_01.row.prog w A a us Z xs s₁ ∧ Snap xs s₁.heap ∧ (∀ p ∈ xs, ¬ Z p.1) ∧
    s₁.heap.Ns C mC ∧ s₁.heap.get? D = some (listOf items nn) ∧ StrsAre items.toList (ls.map S) ∧ ls ++ us.map (fun u => [lastL u.2]) = tot ∧ (∀ b o, s.heap.get? b = some o → s₁.heap.get? b = some o) ∧ s.toks ≤ s₁.toks ∧ s₁.os = s.os ∧
    (∀ u ∈ us, 0 < u.2.length ∧ u.2.length ≤ 2)
  have hlen : tot.length ≤ 100001 := by
    rw [← hU, List.length_map, unescL, List.length_map]
    have := units_len l 0 false
    omega
  have loop : ∀ (s₄ : Shared) (Ee : Value → Shared → Prop), J (units 0 false l).length s₄ → codeAny (model PySem.Challenge.rw_tl0001_01.row.prog w) A (.compLoop (.ListComp (.Subscript (.Name (Str.ofString "unit") p1) (.UnaryOp .USub (.Constant (.int 1) 0 p2) p3) p4) [⟨.Tuple [.Name (Str.ofString "place") p5, .Name (Str.ofString "unit") p6] 0 p7, iter, [], 0⟩] scope pos) 0 (.ref a) (.ref D) { newEnv scope C env.globals [] env.qual none .none (some env) env.builtins with scope := scope })
      (fun r s' => ∃ m, s'.heap.Ns C m ∧ ∀ h', Heap.SameBut C s'.heap h' → match r with | .ok _ => Q (.ref D) { s' with heap := h' } | .error x => Ee x { s' with heap := h' }) s₄ := by
    intro s₄ Ee hJ
    refine comp_loop J ?_ _ hJ
    rintro n s₁ ⟨us, xs, items, nn, ls, mC, rfl, G₁, sn₁, zx₁, hC, hD, hst, htot, kp, tk₁, os₁, hne⟩
    have hSs : Std w s₁.heap := (hS.keeps F.keep).keeps kp
    obtain ⟨g₁, hg₁⟩ : ∃ g, s₁.heap.IsGen a g := let ⟨g, _, _, _, q, _⟩ := G₁; ⟨g, q⟩
    have live : ∀ b, Z b → ∃ o, s₁.heap.get? b = some o := fun b z => by
      rcases z with ⟨o, z⟩ | rfl | rfl | rfl
      · exact ⟨o, kp b o z⟩
      · exact ⟨_, hD⟩
      · obtain ⟨o, es, ep, ho, _⟩ := hC; exact ⟨o, ho⟩
      · obtain ⟨o, _, _, ho, _⟩ := hg₁; exact ⟨o, ho⟩
    cases us with
    | nil =>
      refine gat_done H.hd H.room hSs G₁ sn₁ live (fun h' k => (hS.keeps F.keep).keeps fun b o q => k b o (.inl ⟨o, q⟩) (kp b o q)) fun s' k os tk => ?_
      refine ⟨mC, hC.at' fun o q => k C o (.inr (.inr (.inl rfl))) q, fun h' hs' => ?_⟩
      have up : ∀ b o, s.heap.get? b = some o → h'.get? b = some o := fun b o q => (hs'.2 b (by have := sD b o q; rw [hCD]; exact Nat.ne_of_lt (Nat.lt_succ_of_lt this))).trans (k b o (.inl ⟨o, q⟩) (kp b o q))
      have hD' : h'.get? D = some (listOf items nn) := (hs'.2 D (Ne.symm CD)).trans (k D _ (.inr (.inl rfl)) hD)
      have hDn : h₀.get? D = none := by
        cases q : h₀.get? D with
        | none => rfl
        | some o => exact absurd (sD D o (F.keep D o q)) (Nat.lt_irrefl _)
      have LD : D ≠ L := fun e => by
        obtain ⟨o, es, ep, ho, _⟩ := F.ns
        exact Nat.lt_irrefl _ (by have := sD L o ho; rw [e] at this; exact this)
      have htot' : ls = tot := by simpa using htot
      obtain ⟨hx, gx, dx, kx, ox⟩ := s'
      dsimp only at os
      refine (show ox = s.os from os.trans os₁) ▸ h D items nn h' gx dx kx (frKp F up) ?_ (by rw [← htot']; exact hst) (Nat.le_trans tk₁ tk)
      intro p hp
      rcases List.mem_cons.mp hp with rfl | hp
      · exact ⟨hD', LD, hDn⟩
      · exact ⟨up _ _ (N p hp).1, (N p hp).2⟩
    | cons u us =>
      refine gat_item H.hd H.room hSs G₁ sn₁ (fun b z => let ⟨_, q⟩ := live b z; Heap.lt_size q) (.inr (.inr (.inr rfl))) fun T xs' s₂ t t' G₂ sn₂ zx₂ k hT os tk => ?_
      obtain ⟨g₂, hg₂⟩ : ∃ g, s₂.heap.IsGen a g := let ⟨g, _, _, _, q, _⟩ := G₂; ⟨g, q⟩
      refine lgo_gen hg₂ ?_
      refine wpAny_assign_Tuple H.hd hT rfl rfl fun h₃ hx₃ => ?_
      have old₃ : ∀ b o, s₂.heap.get? b = some o → h₃.get? b = some o := fun b o q => hx₃ b o (Nat.ne_of_lt (Heap.lt_size q)) q
      show wpAny _ _ (do holding [.str (S u.2) t'] (assign (.Name (Str.ofString "place") _) _ (.int (u.1 : Nat) t)); do holding [] (assign (.Name (Str.ofString "unit") _) _ (.str (S u.2) t')); pure ()) _ _ _
      have hp' : ((newEnv scope C env.globals [] env.qual none .none (some env) env.builtins).scope.kind == .class || ((newEnv scope C env.globals [] env.qual none .none (some env) env.builtins).scope.kind == .module && (newEnv scope C env.globals [] env.qual none .none (some env) env.builtins).locals != (newEnv scope C env.globals [] env.qual none .none (some env) env.builtins).globals)) = false := by
        show (scope.kind == .class || (scope.kind == .module && _)) = false
        rw [hk]; rfl
      refine wpAny_bind (wpAny_holding (wpAny_assign_Name (wpAny_storeName_local (k1 _) ((hC.at' fun o q => k C o (.inr (.inr (.inl rfl))) q).keeps old₃) (fun h₄ hn₄ hs₄ => ?_) hp')))
      replace hs₄ : Heap.SameBut C h₃ h₄ := hs₄
      refine wpAny_bind (wpAny_holding (wpAny_assign_Name (wpAny_storeName_local (k2 _) hn₄ (fun h₅ hn₅ hs₅ => wpAny_pure ?_) hp')))
      replace hs₅ : Heap.SameBut C h₄ h₅ := hs₅
      have up₅ : ∀ b o, b ≠ C → s₂.heap.get? b = some o → h₅.get? b = some o := fun b o b1 q => (hs₅.2 b b1).trans ((hs₄.2 b b1).trans (old₃ b o q))
      have hu := hne u (List.mem_cons_self ..)
      refine wpAny_tests_nil ?_
      rw [if_pos rfl]
      refine Subscript_ (name_loc (m := fun x => if x = Str.ofString "unit" then some (.str (S u.2) t') else if x = Str.ofString "place" then some (.int (u.1 : Nat) t) else mC x) (by exact hk) (k2 _) (by decide) hn₅ rfl ?_)
      refine UnaryOp_ (wpAny_Constant_int (PyProof.Rows.neg_int ?_))
      refine itemS_last hu.1 (by omega) ?_
      have hDn : s₂.heap.get? D = some (listOf items nn) := k D _ (.inr (.inl rfl)) hD
      have hisz : items.size ≤ 100001 := by
        have e1 : items.toList.length = (ls.map S).length := strs_length hst
        rw [List.length_map, Array.length_toList] at e1
        have e2 : ls.length + (us.length + 1) = tot.length := by rw [← htot]; simp
        omega
      refine append_at (its := items) (n := nn) (hsz := by rw [sizeLine_eq]; omega) (up₅ D _ (Ne.symm CD) hDn) fun h₆ hs₆ hD₆ => ?_
      replace hs₆ : Heap.SameBut D h₅ h₆ := hs₆
      have up₆ : ∀ b o, b ≠ C → b ≠ D → s₂.heap.get? b = some o → h₆.get? b = some o := fun b o b1 b2 q => (hs₆.2 b b2).trans (up₅ b o b1 q)
      have xC : ∀ p ∈ xs', p.1 ≠ C := fun p hp e => zx₂ p hp (.inr (.inr (.inl e)))
      have xD : ∀ p ∈ xs', p.1 ≠ D := fun p hp e => zx₂ p hp (.inr (.inl e))
      have sC : ∀ b o, s.heap.get? b = some o → b ≠ C ∧ b ≠ D := fun b o q => ⟨by have := sD b o q; rw [hCD]; exact Nat.ne_of_lt (Nat.lt_succ_of_lt this), Nat.ne_of_lt (sD b o q)⟩
      refine ⟨us.length, Nat.lt_succ_self _, us, xs', _, _, ls ++ [[lastL u.2]], _, rfl, G₂.move (fun o q => up₆ a o aC aD q) rfl, fun p hp => up₆ _ _ (xC p hp) (xD p hp) (sn₂ p hp), zx₂, hn₅.at' fun o q => (hs₆.2 C CD).trans q, hD₆, ?_, ?_, fun b o q => up₆ b o (sC b o q).1 (sC b o q).2 (k b o (.inl ⟨o, q⟩) (kp b o q)), ?_, os.trans os₁, fun v hv => hne v (List.mem_cons_of_mem _ hv)⟩
      · rw [Array.toList_push, List.map_append]
        exact strs_snoc hst _ _
      · rw [← htot]; simp
      · dsimp only; omega
  have hJ : J (units 0 false l).length ⟨h₁, g', d', k' + 0, s.os⟩ := by
    refine ⟨units 0 false l, xs, #[], 0, [], fun x => ([] : List (Str × Value)).reverse.lookup x, rfl, (G A Z H.hd zx).move (fun o q => old₁ a o q) rfl, fun p hp => old₁ _ _ (sn p hp), zx, hns₁, hD₁, .nil, ?_, fun b o q => old₁ b o (keep b o q), tk, rfl, fun u hu => ⟨units_ne l 0 false u hu, units_short l 0 false u hu⟩⟩
    rw [← hU, unescL]; simp
  have hg₁ : h₁.IsGen a g := let ⟨o, nm, qn, ho, r⟩ := hg; ⟨o, nm, qn, old₁ _ _ ho, r⟩
  exact codeAny_compStart_list (loop _ _ hJ) (wpAny_pyIter_gen hg₁ (loop _ _ hJ))
end
end Mine
end
section
open Sem (wp)
namespace Mine
/-- what a comprehension draws from -/
structure Src (prog : Program) (w : World) (A : Around) (it : Addr) (fp wr : List Addr) (n : Nat) (St : Nat → Heap → Prop) (target : Expr) (Kd : Env → Prop) (Bd : Nat → (Str → Option Value) → Prop) : Prop where
  sub : ∀ b ∈ wr, b ∈ fp
  self : ∀ (s : Shared) (Q : Value → Shared → Prop) (E : Value → Shared → Prop), St 0 s.heap → Q (.ref it) s → wpAny (model prog w) A (pyIter (.ref it)) Q E s
  frame : ∀ i h h', St i h → (∀ b ∈ fp, ∀ o, h.get? b = some o → h'.get? b = some o) → St i h'
  bind : ∀ i (ce : Env) (s : Shared) m (Q : Shared → Prop), i < n → St i s.heap → s.heap.Ns ce.locals m → ce.locals ∉ fp → Kd ce →
    (∀ s' m', St (i + 1) s'.heap → s'.heap.Ns ce.locals m' → Bd i m' → (∀ b o, b ∉ wr → b ≠ ce.locals → s.heap.get? b = some o → s'.heap.get? b = some o) → s'.os = s.os → s.toks ≤ s'.toks → Q s') →
    wpAny (model prog w) A (pyNext (.ref it)) (fun r s₁ => match r with
      | none => False
      | some v => wpAny (model prog w) A (letOwnedTupleGo target (.ref it) v) (fun _ s₂ => wpAny (model prog w) A (assign target ce v) (fun _ s₃ => Q s₃) (fun _ _ => False) s₂) (fun _ _ => False) s₁) (fun _ _ => False) s
  done : ∀ (s : Shared) (Q : Shared → Prop), St n s.heap → (∀ s', (∀ b o, b ∉ wr → s.heap.get? b = some o → s'.heap.get? b = some o) → s'.os = s.os → s.toks ≤ s'.toks → Q s') →
    wpAny (model prog w) A (pyNext (.ref it)) (fun r s₁ => match r with | none => Q s₁ | some _ => False) (fun _ _ => False) s
theorem filter_range_succ (p : Nat → Bool) (i : Nat) : (List.range (i + 1)).filter p = (List.range i).filter p ++ (if p i = true then [i] else []) := by
  rw [List.range_succ, List.filter_append]
  congr 1
  by_cases h : p i = true
  · rw [if_pos h, List.filter_cons_of_pos h]; rfl
  · rw [if_neg h, List.filter_cons_of_neg h]; rfl
section
variable {prog : Program} {w : World} {A : Around} {E : Value → Shared → Prop} {s : Shared} {env : Env}
theorem comp_list {elt target iter : Expr} {ifs : List Expr} {scope : Scope} {cl : List (Str × Addr)} {pos : Pos} {it : Addr} {fp wr : List Addr} {n : Nat} {St : Nat → Heap → Prop} {Kd : Env → Prop} {Bd : Nat → (Str → Option Value) → Prop} {RR : Value → Addr → Result → Shared → Prop}
    (W : Src prog w A it fp wr n St target Kd Bd) (p : Nat → Bool) (Fv : Nat → Value → Prop) (hn : n ≤ 100000)
    (hcell : ∀ y ∈ scope.names, y.2 ≠ .cell) (hkind : scope.kind = .function) (hK : ∀ C, Kd (compEnvC scope cl C env))
    (hst : St 0 s.heap) (hfp : ∀ b ∈ fp, b < s.heap.objs.size)
    (tests : ∀ i C (s' : Shared) m, i < n → s'.heap.Ns C m → Bd i m → (∀ b o, b ∉ wr → s.heap.get? b = some o → s'.heap.get? b = some o) → s'.os = s.os → s.toks ≤ s'.toks →
      wpAny (model prog w) A (forIn ifs true fun c r => if r = true then do let ok ← isTrue c (compEnvC scope cl C env) (eval c (compEnvC scope cl C env)); pure (ForInStep.yield ok) else pure (ForInStep.yield r)) (fun ok s'' => ok = p i ∧ Kp s' s'') (fun _ _ => False) s')
    (elts : ∀ i C (s' : Shared) m, i < n → p i = true → s'.heap.Ns C m → Bd i m → (∀ b o, b ∉ wr → s.heap.get? b = some o → s'.heap.get? b = some o) → s'.os = s.os → s.toks ≤ s'.toks →
      wpAny (model prog w) A (eval elt (compEnvC scope cl C env)) (fun y s'' => Fv i y ∧ Kp s' s'') (fun _ _ => False) s')
    (h : ∀ D C items nn s' mC, (∀ b o, b ∉ wr → s.heap.get? b = some o → s'.heap.get? b = some o) → s.heap.get? D = none → s.heap.get? C = none → C ≠ D → s'.heap.Ns C mC → s'.heap.get? D = some (listOf items nn) → Paired Fv ((List.range n).filter p) items.toList → s'.os = s.os → s.toks ≤ s'.toks → RR (.ref D) C (.ok .next) s') :
    wpAny (model prog w) A (newList []) (fun acc s₃ => wpAny (model prog w) A (newFunctionEnv scope env.globals cl [] env.qual none .none (some env)) (fun cenv s₄ =>
      codeAny (model prog w) A (.compStart (.ListComp elt [⟨target, iter, ifs, 0⟩] scope pos) 0 (.ref it) acc { cenv with scope := relabel scope env }) (RR acc cenv.locals) s₄) E s₃) E s := by
  refine wpAny_newList ?_ (by show 0 ≤ sizeLine; exact Nat.zero_le _)
  refine wpAny_newFunctionEnv hcell (by intro y hy; cases hy) (fun h₁ hns₁ hsb₁ => ?_) hkind
  obtain ⟨hp', g', d', k', o'⟩ := s
  dsimp only at hns₁ hsb₁ hst hfp tests elts h ⊢
  have hsz : (hp'.push { cls := .type "list", data := .seq ([] : List Value).toArray }).objs.size = hp'.objs.size + 1 := Heap.size_push ..
  generalize hH2 : hp'.push { cls := .type "list", data := .seq ([] : List Value).toArray } = H2 at hns₁ hsb₁ hsz ⊢
  generalize hCC : H2.objs.size = C at hns₁ hsb₁ ⊢
  generalize hDD : hp'.objs.size = D at hsz hfp ⊢
  have hCD : C = D + 1 := hCC.symm.trans hsz
  have CD : C ≠ D := by rw [hCD]; exact Nat.succ_ne_self _
  have lt' : ∀ b o, hp'.get? b = some o → b < D := fun b o q => by rw [← hDD]; exact Heap.lt_size q
  have nC : ∀ b o, hp'.get? b = some o → b ≠ C := fun b o q => by rw [hCD]; exact Nat.ne_of_lt (Nat.lt_succ_of_lt (lt' b o q))
  have nD : ∀ b o, hp'.get? b = some o → b ≠ D := fun b o q => Nat.ne_of_lt (lt' b o q)
  have Cf : C ∉ fp := fun q => by have := hfp _ q; rw [hCD] at this; exact Nat.lt_irrefl _ (Nat.lt_of_succ_lt this)
  have Df : D ∉ fp := fun q => Nat.lt_irrefl _ (hfp _ q)
  have old₁ : ∀ b o, hp'.get? b = some o → h₁.get? b = some o := fun b o q => (hsb₁.2 b (nC b o q)).trans (Heap.get?_push_of_some _ (by rw [← hH2]; exact Heap.get?_push_of_some _ q))
  have hD₁ : h₁.get? D = some (listOf #[] 0) := (hsb₁.2 D (Ne.symm CD)).trans (Heap.get?_push_of_some _ (by rw [← hH2, ← hDD]; exact Heap.get?_push_size _ rfl))
  let J : Nat → Shared → Prop := fun k s₁ => ∃ (i : Nat) (items : Array Value) (nn : Nat) (mC : Str → Option Value), k = n - i ∧ i ≤ n ∧ St i s₁.heap ∧ s₁.heap.Ns C mC ∧ s₁.heap.get? D = some (listOf items nn) ∧
    Paired Fv ((List.range i).filter p) items.toList ∧ (∀ b o, b ∉ wr → hp'.get? b = some o → s₁.heap.get? b = some o) ∧ s₁.os = o' ∧ k' ≤ s₁.toks
  have loop : ∀ s₄, J (n - 0) s₄ → codeAny (model prog w) A (.compLoop (.ListComp elt [⟨target, iter, ifs, 0⟩] scope pos) 0 (.ref it) (.ref D) (compEnvC scope cl C env)) (RR (.ref D) C) s₄ := by
    intro s₄ hJ
    refine comp_loop J ?_ _ hJ
    rintro k s₁ ⟨i, items, nn, mC, rfl, hi, hS, hC, hD, hP, kp, os₁, tk₁⟩
    by_cases hlt : i < n
    · refine' wpAny_mono (W.bind i (compEnvC scope cl C env) s₁ mC ?QQ hlt hS hC Cf (hK C) ?hQ) ?h2 ?h3
      case h3 => exact fun _ _ x => x
      case h2 =>
        intro r s₂ h₂
        cases r with
        | none => exact h₂.elim
        | some v => exact h₂
      case hQ =>
        intro s₂ m₂ hS₂ hC₂ hB₂ kp₂ os₂ tk₂
        have up₂ : ∀ b o, b ∉ wr → hp'.get? b = some o → s₂.heap.get? b = some o := fun b o hb q => kp₂ b o hb (nC b o q) (kp b o hb q)
        have hD₂ : s₂.heap.get? D = some (listOf items nn) := kp₂ D _ (fun q => Df (W.sub _ q)) (Ne.symm CD) hD
        refine wpAny_mono (tests i C s₂ m₂ hlt hC₂ hB₂ up₂ (os₂.trans os₁) (Nat.le_trans tk₁ tk₂)) (fun ok s₃ h₃ => ?_) fun _ _ x => x
        obtain ⟨rfl, k₃⟩ := h₃
        cases hp : p i with
        | false =>
          rw [if_neg Bool.false_ne_true]
          refine ⟨n - (i + 1), by omega, i + 1, items, nn, m₂, rfl, hlt, W.frame _ _ _ hS₂ fun b _ o q => k₃.keep b o q, hC₂.keeps k₃.keep, k₃.keep _ _ hD₂, ?_, fun b o hb q => k₃.keep b o (up₂ b o hb q), k₃.os.trans (os₂.trans os₁), Nat.le_trans (Nat.le_trans tk₁ tk₂) k₃.tok⟩
          rw [filter_range_succ, hp, if_neg Bool.false_ne_true, List.append_nil]; exact hP
        | true =>
          rw [if_pos rfl]
          refine wpAny_mono (elts i C s₃ m₂ hlt hp (hC₂.keeps k₃.keep) hB₂ (fun b o hb q => k₃.keep b o (up₂ b o hb q)) (k₃.os.trans (os₂.trans os₁)) (Nat.le_trans (Nat.le_trans tk₁ tk₂) k₃.tok)) (fun y s₄ h₄ => ?_) fun _ _ x => x
          obtain ⟨hF, k₄⟩ := h₄
          have k₃₄ := k₃.trans k₄
          have hisz : items.size ≤ 100000 := by
            have e1 := hP.length
            have e2 := List.length_filter_le p (List.range i)
            rw [List.length_range] at e2
            have e3 : items.toList.length = items.size := Array.length_toList
            have e1' : ((List.range i).filter p).length = items.toList.length := e1
            have e2' : ((List.range i).filter p).length ≤ i := e2
            omega
          refine append_at (its := items) (n := nn) (hsz := by rw [sizeLine_eq]; omega) (k₃₄.keep _ _ hD₂) fun h₅ hs₅ hD₅ => ?_
          replace hs₅ : Heap.SameBut D s₄.heap h₅ := hs₅
          refine ⟨n - (i + 1), by omega, i + 1, _, _, m₂, rfl, hlt, W.frame _ _ _ hS₂ fun b hb o q => (hs₅.2 b fun e => Df (e ▸ hb)).trans (k₃₄.keep b o q), (hC₂.keeps k₃₄.keep).at' fun o q => (hs₅.2 C CD).trans q, hD₅, ?_, fun b o hb q => (hs₅.2 b (nD b o q)).trans (k₃₄.keep b o (up₂ b o hb q)), k₃₄.os.trans (os₂.trans os₁), Nat.le_trans (Nat.le_trans tk₁ tk₂) k₃₄.tok⟩
          rw [filter_range_succ, hp, if_pos rfl, Array.toList_push]
          exact hP.snoc hF
    · have hin : i = n := by omega
      subst hin
      refine wpAny_mono (W.done s₁ (fun s' => RR (.ref D) C (.ok .next) s') hS fun s₂ kp₂ os₂ tk₂ => ?_) (fun r s₂ h₂ => ?_) fun _ _ x => x
      · refine h D C items nn _ mC (fun b o hb q => kp₂ b o hb (kp b o hb q)) ?_ ?_ CD (hC.at' fun o q => kp₂ C o (fun q' => Cf (W.sub _ q')) q) (kp₂ D _ (fun q => Df (W.sub _ q)) hD) hP (os₂.trans os₁) (Nat.le_trans tk₁ tk₂)
        · rw [← hDD]; exact Heap.get?_none_of_le (Nat.le_refl _)
        · rw [hCD, ← hDD]; exact Heap.get?_none_of_le (Nat.le_succ _)
      · cases r with
        | none => exact h₂
        | some v => exact h₂.elim
  have hJ : J (n - 0) ⟨h₁, g', d', k' + 0, o'⟩ := ⟨0, #[], 0, _, rfl, Nat.zero_le _, W.frame _ _ _ hst fun b hb o q => old₁ b o q, hns₁, hD₁, .nil, fun b o _ q => old₁ b o q, rfl, Nat.le_refl _⟩
  exact codeAny_compStart_list (loop _ hJ) (W.self _ _ _ (W.frame _ _ _ hst fun b hb o q => old₁ b o q) (loop _ hJ))
end
end Mine
end
section
open Sem (wp)
namespace Mine
theorem notClass {ce : Env} (hk : ce.scope.kind = .function) : (ce.scope.kind == .class || (ce.scope.kind == .module && ce.locals != ce.globals)) = false := by rw [hk]; rfl
/-- drawn one by one into a name -/
theorem Src.ofWalks {prog : Program} {w : World} {A : Around} {I : Addr} {fp wr : List Addr} {n : Nat} {P : Nat → Value → Prop} {St : Nat → Heap → Prop} (W : Walks prog w A I fp wr n P St) (x : Str) (px : Pos) :
    Src prog w A I fp wr n St (.Name x px) (fun ce => ce.kindOf x = some .local ∧ ce.scope.kind = .function) (fun i m => ∃ v, P i v ∧ m x = some v) where
  sub := W.sub
  self := fun s Q E st hq => W.self 0 s Q E st hq
  frame := W.frame
  bind := fun i ce s m Q hi st hn hC hK h => by
    have hCw : ce.locals ∉ wr := fun q => hC (W.sub _ q)
    refine wpAny_tok (W.item i s _ _ hi st fun v h' tk hP hS' hk' => ?_)
    intro htk
    show wpAny _ _ (letOwnedTupleGo (.Name x px) (.ref I) v) _ _ _
    refine wpAny_of_eq (a := ()) rfl ?_
    refine wpAny_assign_Name (wpAny_storeName_local hK.1 (hn.at' fun o q => hk' _ o hCw q) (fun h₂ hn₂ hs₂ => ?_) (notClass hK.2))
    replace hs₂ : Heap.SameBut ce.locals h' h₂ := hs₂
    refine h _ _ (W.frame _ _ _ hS' fun b hb o q => (hs₂.2 b fun e => hC (e ▸ hb)).trans q) hn₂ ⟨v, hP, if_pos rfl⟩ (fun b o hb hc q => (hs₂.2 b hc).trans (hk' b o hb q)) rfl ?_
    exact Nat.le_succ_of_le htk
  done := fun s Q st h => wpAny_tok (W.done s _ _ st fun h' tk hk' htk => h _ hk' rfl htk)
/-- pairs drawn from a list into two names -/
theorem Src.pairs {prog : Program} {w : World} {A : Around} (hh : A.handled = none) (I ax : Addr) (hne : ax ≠ I) (items : Array Value) (pr : List (Nat × Nat)) (x y : Str) (hxy : x ≠ y) (px py pt : Pos) (k : Nat)
    (fps : List Addr) (hfp : I ∉ fps) (hIx : ∀ i (h : i < items.size), ∃ T, items[i] = .ref T ∧ T ∈ fps) (hlen : items.size = pr.length) :
    Src prog w A I (I :: ax :: fps) [I] items.size (fun i h => h.IsListIter I ax i ∧ h.IsList ax items ∧ ∀ j T, items[j]? = some (.ref T) → ∃ t u, h.IsTuple T #[.int ((pr.getD j (0, 0)).1 : Nat) t, .int ((pr.getD j (0, 0)).2 : Nat) u])
      (.Tuple [.Name x px, .Name y py] k pt) (fun ce => ce.kindOf x = some .local ∧ ce.kindOf y = some .local ∧ ce.scope.kind = .function)
      (fun i m => ∃ t u, m x = some (.int ((pr.getD i (0, 0)).1 : Nat) t) ∧ m y = some (.int ((pr.getD i (0, 0)).2 : Nat) u)) where
  sub := fun b hb => by rw [List.mem_singleton.mp hb]; exact List.mem_cons_self ..
  self := fun s Q E st hq => wpAny_pyIter_listiter st.1 hq
  frame := fun i h h' st hk => by
    refine ⟨st.1.at fun o e => hk I (by simp) o e, st.2.1.at fun o e => hk ax (by simp) o e, fun j T hj => ?_⟩
    obtain ⟨t, u, o, ho, r⟩ := st.2.2 j T hj
    obtain ⟨hlt, e⟩ := Array.getElem?_eq_some_iff.mp hj
    obtain ⟨T', e', hT'⟩ := hIx j hlt
    rw [e] at e'
    cases e'
    exact ⟨t, u, o, hk T (by simp [hT']) o ho, r⟩
  bind := fun i ce s m Q hi st hn hC hK h => by
    obtain ⟨T, eT, hT⟩ := hIx i hi
    have hCI : ce.locals ≠ I := fun e => hC (by simp [e])
    refine wpAny_tok (wpAny_pyNext_list_item st.1 st.2.1 (x := .ref T) (by rw [Array.getElem?_eq_getElem hi, eT]) fun h₁ hit₁ hs₁ => ?_)
    intro htk
    replace hs₁ : Heap.SameBut I s.heap h₁ := hs₁
    obtain ⟨oI, hoI, hcI, hdI⟩ := id hit₁
    show wpAny _ _ (letOwnedTupleGo (.Tuple [.Name x px, .Name y py] k pt) (.ref I) (.ref T)) _ _ _
    have hTI : T ≠ I := fun e => hfp (e ▸ hT)
    obtain ⟨t, u, hTt⟩ := st.2.2 i T (by rw [Array.getElem?_eq_getElem hi, eT])
    have hT₁ : h₁.IsTuple T #[.int ((pr.getD i (0, 0)).1 : Nat) t, .int ((pr.getD i (0, 0)).2 : Nat) u] := hTt.extBut hs₁.extBut hTI
    unfold letOwnedTupleGo
    refine wpAny_bind (wpAny_load hoI ?_)
    rw [hcI, hdI]
    dsimp only
    rw [if_neg (by simp)]
    refine wpAny_pure ?_
    refine wpAny_assign_Tuple hh hT₁ rfl rfl fun h₃ hx₃ => ?_
    have old₃ : ∀ b o, h₁.get? b = some o → h₃.get? b = some o := fun b o q => hx₃ b o (Nat.ne_of_lt (Heap.lt_size q)) q
    show wpAny _ _ (do holding [Value.int ((pr.getD i (0, 0)).2 : Nat) u] (assign (.Name x px) ce (.int ((pr.getD i (0, 0)).1 : Nat) t)); do holding [] (assign (.Name y py) ce (.int ((pr.getD i (0, 0)).2 : Nat) u)); pure ()) _ _ _
    refine wpAny_bind (wpAny_holding (wpAny_assign_Name (wpAny_storeName_local hK.1 ((hn.at' fun o q => (hs₁.2 _ hCI).trans q).keeps old₃) (fun h₄ hn₄ hs₄ => ?_) (notClass hK.2.2))))
    replace hs₄ : Heap.SameBut ce.locals h₃ h₄ := hs₄
    refine wpAny_bind (wpAny_holding (wpAny_assign_Name (wpAny_storeName_local hK.2.1 hn₄ (fun h₅ hn₅ hs₅ => wpAny_pure ?_) (notClass hK.2.2))))
    replace hs₅ : Heap.SameBut ce.locals h₄ h₅ := hs₅
    have up : ∀ b o, b ≠ ce.locals → h₁.get? b = some o → h₅.get? b = some o := fun b o hb q => (hs₅.2 b hb).trans ((hs₄.2 b hb).trans (old₃ b o q))
    refine h _ _ ⟨?_, ?_, fun j T' hj => ?_⟩ hn₅ ⟨t, u, ?_, ?_⟩ (fun b o hb hc q => up b o hc ((hs₁.2 b (by simpa using hb)).trans q)) rfl ?_
    · exact hit₁.at fun o q => up I o (Ne.symm hCI) q
    · exact st.2.1.at fun o q => up ax o (fun e => hC (by simp [← e])) ((hs₁.2 ax hne).trans q)
    · obtain ⟨t', u', o', ho', r'⟩ := st.2.2 j T' hj
      obtain ⟨hlt, e⟩ := Array.getElem?_eq_some_iff.mp hj
      obtain ⟨T'', e', hT''⟩ := hIx j hlt
      rw [e] at e'
      cases e'
      exact ⟨t', u', o', up T' o' (fun e => hC (by simp [← e, hT''])) ((hs₁.2 T' fun e => hfp (e ▸ hT'')).trans ho'), r'⟩
    · show (if x = y then _ else if x = x then _ else _) = _
      rw [if_neg hxy, if_pos rfl]
    · exact if_pos rfl
    · dsimp only at htk ⊢; omega
  done := fun s Q st h => by
    refine wpAny_tok (wpAny_pyNext_list_end hh st.1 st.2.1 (by simp) fun h' he' htk => ?_)
    exact h _ (fun b o hb q => he' b o (by simpa using hb) q) rfl htk
end Mine
end
section
open Sem (wp)
namespace Mine
section
variable {prog : Program} {w : World} {A : Around} {E : Value → Shared → Prop} {s : Shared} {env : Env}
/-- a name given a comprehension -/
theorem assign_comp {elt target iter : Expr} {y : Str} {py : Pos} {ifs : List Expr} {scope : Scope} {cl : List (Str × Addr)} {pos spos : Pos} {Q : Flow → Shared → Prop}
    (hsw : swapsWith (.ListComp elt [⟨target, iter, ifs, 0⟩] scope pos) (some (.Name y py)) spos.line env = pure true)
    (hclos : closureFor scope env = pure cl) (hkind : scope.kind = .function) (hnames : ∀ z ∈ scope.names, z.2 = .local → scope.names.lookup z.1 = some .local)
    (h : wpAny (model prog w) A (eval iter env) (fun xv s₁ => wpAny (model prog w) A (pyIter xv) (fun it s₂ => wpAny (model prog w) A (newList []) (fun acc s₃ => wpAny (model prog w) A (newFunctionEnv scope env.globals cl [] env.qual none .none (some env)) (fun cenv s₄ =>
      codeAny (model prog w) A (.compStart (.ListComp elt [⟨target, iter, ifs, 0⟩] scope pos) 0 it acc { cenv with scope := relabel scope env }) (compPost (model prog w) A E (some (assign (.Name y py) env)) (fun _ s' => Q .next s') acc cenv.locals) s₄) E s₃) E s₂) E s₁) E s)
    (hs : ∀ x, foldedSetIterable iter env x = pure x := by intro _; rfl) :
    wpAny (model prog w) A (exec (.Assign [.Name y py] (.ListComp elt [⟨target, iter, ifs, 0⟩] scope pos) spos) env) Q E s := by
  rw [exec_Assign_Name_used _ _ _ _ hsw]
  refine wpAny_bind (wpAny_standAt (wpAny_bind ?_))
  show wpAny _ A (do let _ ← comprehension (.ListComp elt [⟨target, iter, ifs, 0⟩] scope pos) scope env _ (newList []) false (eval iter env) (some (assign (.Name y py) env))) _ _ s
  exact wpAny_bind (wpAny_mono (wpAny_comprehension_free (use := some (assign (.Name y py) env)) (Q := fun _ s' => Q .next s') rfl hs hclos hkind hnames h) (fun _ s' hq => wpAny_pure (wpAny_pure hq)) fun _ _ e => e)
end
end Mine
end
section
open Sem (wp)
namespace Mine
/-- the frame of a comprehension that may have cells of its own -/
theorem newEnv_around {M : Model} {A : Around} {E : Value → Shared → Prop} {s : Shared} {scope : Scope} {globals : Addr} {cl : List (Str × Addr)} {qual : Str} {env : Env} {Q : Env → Shared → Prop}
    (h : Q { scope := scope, locals := s.heap.objs.size, globals := globals, cells := cellsFrom (s.heap.objs.size + 1) scope.names cl, qual := qual, func := none, code := env.code, frame := env.frame, builtins := env.builtins }
      { s with heap := pushCells (s.heap.push { cls := .type "dict", data := .dict #[] }) scope.names }) :
    wpAny M A (newFunctionEnv scope globals cl [] qual none .none (some env)) Q E s := by
  simp only [newFunctionEnv, Option.isSome_some, if_true]
  refine wpAny_bind (wpAny_alloc ?_)
  refine wpAny_bind (wpAny_layCells _ (fun name kind cells => by cases hkc : kind == NameKind.cell <;> simp [hkc]) _ _ _ _ ?_)
  rw [show ({ s with heap := s.heap.push { cls := .type "dict", data := .dict #[] } } : Shared).heap.objs.size = s.heap.objs.size + 1 from Heap.size_push ..]
  exact wpAny_bind (wpAny_pure (wpAny_pure h))
end Mine
end
section
open Sem (wp)
namespace Mine
section
variable {prog : Program} {w : World} {A : Around} {E : Value → Shared → Prop} {s : Shared} {env : Env}
/-- the frame of a comprehension whose drawn name is a cell -/
def cellEnv (scope : Scope) (x : Str) (cl : List (Str × Addr)) (C : Addr) (env : Env) : Env :=
  { scope := relabel scope env, locals := C, globals := env.globals, cells := (x, C + 1) :: cl, qual := env.qual, func := none, code := env.code, frame := env.frame, builtins := env.builtins }
theorem comp_listP {elt iter : Expr} {x : Str} {px : Pos} {ifs : List Expr} {scope : Scope} {cl : List (Str × Addr)} {pos : Pos} {it : Addr} {fp wr : List Addr} {n : Nat} {P : Nat → Value → Prop} {St : Nat → Heap → Prop} {RR : Value → Addr → Result → Shared → Prop}
    (W : Walks prog w A it fp wr n P St) (p : Nat → Bool) (Fv : Nat → Value → Prop) (hn : n ≤ 100000)
    (hcells : ∀ C, cellsFrom (C + 1) scope.names cl = (x, C + 1) :: cl) (hpush : ∀ h : Heap, pushCells h scope.names = h.push { cls := .type "cell", data := .cell none }) (hkind : scope.kind = .function)
    (hkc : ∀ C, (cellEnv scope x cl C env).kindOf x = some .cell)
    (hst : St 0 s.heap) (hfp : ∀ b ∈ fp, b < s.heap.objs.size)
    (tests : ∀ i v C (s' : Shared), i < n → P i v → s'.heap.IsCell (C + 1) (some v) → (∀ b o, b ∉ wr → s.heap.get? b = some o → s'.heap.get? b = some o) → s'.os = s.os → s.toks ≤ s'.toks →
      wpAny (model prog w) A (forIn ifs true fun c r => if r = true then do let ok ← isTrue c (cellEnv scope x cl C env) (eval c (cellEnv scope x cl C env)); pure (ForInStep.yield ok) else pure (ForInStep.yield r)) (fun ok s'' => ok = p i ∧ Kp s' s'') (fun _ _ => False) s')
    (elts : ∀ i v C (s' : Shared), i < n → p i = true → P i v → s'.heap.IsCell (C + 1) (some v) → (∀ b o, b ∉ wr → s.heap.get? b = some o → s'.heap.get? b = some o) → s'.os = s.os → s.toks ≤ s'.toks →
      wpAny (model prog w) A (eval elt (cellEnv scope x cl C env)) (fun y s'' => Fv i y ∧ Kp s' s'') (fun _ _ => False) s')
    (h : ∀ D C items nn s' mC, (∀ b o, b ∉ wr → s.heap.get? b = some o → s'.heap.get? b = some o) → s.heap.get? D = none → s.heap.get? C = none → C ≠ D → s'.heap.Ns C mC → s'.heap.get? D = some (listOf items nn) → Paired Fv ((List.range n).filter p) items.toList → s'.os = s.os → s.toks ≤ s'.toks → RR (.ref D) C (.ok .next) s') :
    wpAny (model prog w) A (newList []) (fun acc s₃ => wpAny (model prog w) A (newFunctionEnv scope env.globals cl [] env.qual none .none (some env)) (fun cenv s₄ =>
      codeAny (model prog w) A (.compStart (.ListComp elt [⟨.Name x px, iter, ifs, 0⟩] scope pos) 0 (.ref it) acc { cenv with scope := relabel scope env }) (RR acc cenv.locals) s₄) E s₃) E s := by
  refine wpAny_newList ?_ (by show 0 ≤ sizeLine; exact Nat.zero_le _)
  refine newEnv_around ?_
  obtain ⟨hp', g', d', k', o'⟩ := s
  dsimp only at hst hfp tests elts h ⊢
  rw [hpush, hcells]
  have hsz : (hp'.push { cls := .type "list", data := .seq ([] : List Value).toArray }).objs.size = hp'.objs.size + 1 := Heap.size_push ..
  generalize hH2 : hp'.push { cls := .type "list", data := .seq ([] : List Value).toArray } = H2 at hsz ⊢
  have hnew : (H2.push { cls := .type "dict", data := .dict #[] }).Ns H2.objs.size (fun _ => none) := Heap.Ns.new H2 (.type "dict")
  generalize hCC : H2.objs.size = C at hsz hnew ⊢
  have hCs : (H2.push { cls := .type "dict", data := .dict #[] }).objs.size = C + 1 := by rw [Heap.size_push, hCC]
  generalize hH3 : H2.push { cls := .type "dict", data := .dict #[] } = H3 at hnew hCs ⊢
  have hcell₁ : (H3.push { cls := .type "cell", data := .cell none }).IsCell (C + 1) none := ⟨_, by rw [← hCs]; exact Heap.get?_push_size _ rfl, rfl⟩
  generalize hH4 : H3.push { cls := .type "cell", data := .cell none } = h₁ at hcell₁ ⊢
  generalize hDD : hp'.objs.size = D at hsz hfp ⊢
  have hCD : C = D + 1 := hsz
  have CD : C ≠ D := by rw [hCD]; exact Nat.succ_ne_self _
  have cD : C + 1 ≠ D := by omega
  have cC : C + 1 ≠ C := Nat.succ_ne_self _
  have lt' : ∀ b o, hp'.get? b = some o → b < D := fun b o q => by rw [← hDD]; exact Heap.lt_size q
  have nc : ∀ b o, hp'.get? b = some o → b ≠ C + 1 := fun b o q => by have := lt' b o q; rw [hCD]; exact Nat.ne_of_lt (Nat.lt_of_lt_of_le this (Nat.le_succ_of_le (Nat.le_succ _)))
  have nD : ∀ b o, hp'.get? b = some o → b ≠ D := fun b o q => Nat.ne_of_lt (lt' b o q)
  have cf : C + 1 ∉ fp := fun q => by have := hfp _ q; rw [hCD] at this; exact Nat.lt_irrefl D (Nat.lt_of_succ_lt (Nat.lt_of_succ_lt this))
  have Cf : C ∉ fp := fun q => by have := hfp _ q; rw [hCD] at this; exact Nat.lt_irrefl D (Nat.lt_of_succ_lt this)
  have Df : D ∉ fp := fun q => Nat.lt_irrefl _ (hfp _ q)
  have old₁ : ∀ b o, hp'.get? b = some o → h₁.get? b = some o := fun b o q => by rw [← hH4, ← hH3, ← hH2]; exact Heap.get?_push_of_some _ (Heap.get?_push_of_some _ (Heap.get?_push_of_some _ q))
  have hD₁ : h₁.get? D = some (listOf #[] 0) := by rw [← hH4, ← hH3, ← hH2, ← hDD]; exact Heap.get?_push_of_some _ (Heap.get?_push_of_some _ (Heap.get?_push_size _ rfl))
  have hns₁ : h₁.Ns C (fun _ => none) := by rw [← hH4]; exact hnew.keeps fun b o q => Heap.get?_push_of_some _ q
  let J : Nat → Shared → Prop := fun k s₁ => ∃ (i : Nat) (items : Array Value) (nn : Nat) (v₀ : Option Value), k = n - i ∧ i ≤ n ∧ St i s₁.heap ∧ s₁.heap.Ns C (fun _ => none) ∧ s₁.heap.IsCell (C + 1) v₀ ∧ s₁.heap.get? D = some (listOf items nn) ∧
    Paired Fv ((List.range i).filter p) items.toList ∧ (∀ b o, b ∉ wr → hp'.get? b = some o → s₁.heap.get? b = some o) ∧ s₁.os = o' ∧ k' ≤ s₁.toks
  have loop : ∀ s₄, J (n - 0) s₄ → codeAny (model prog w) A (.compLoop (.ListComp elt [⟨.Name x px, iter, ifs, 0⟩] scope pos) 0 (.ref it) (.ref D) (cellEnv scope x cl C env)) (RR (.ref D) C) s₄ := by
    intro s₄ hJ
    refine comp_loop J ?_ _ hJ
    rintro k s₁ ⟨i, items, nn, v₀, rfl, hi, hS, hC, hc, hD, hP, kp, os₁, tk₁⟩
    have wC : C ∉ wr := fun q => Cf (W.sub _ q)
    have wc : C + 1 ∉ wr := fun q => cf (W.sub _ q)
    have wD : D ∉ wr := fun q => Df (W.sub _ q)
    by_cases hlt : i < n
    · refine wpAny_tok (W.item i s₁ _ _ hlt hS fun v h' tk hPv hS' hk' => ?_)
      intro htk
      show wpAny _ _ (letOwnedTupleGo (.Name x px) (.ref it) v) _ _ _
      refine wpAny_of_eq (a := ()) rfl ?_
      have hc' : h'.IsCell (C + 1) v₀ := let ⟨o, ho, r⟩ := hc; ⟨o, hk' _ o wc ho, r⟩
      refine wpAny_assign_Name (wpAny_storeName_cell (c := C + 1) hkind (hkc C) (by show List.lookup x ((x, C + 1) :: cl) = _; rw [List.lookup_cons, beq_self_eq_true]) hc' fun h₂ hc₂ hs₂ => ?_)
      replace hs₂ : Heap.SameBut (C + 1) h' h₂ := hs₂
      have up₂ : ∀ b o, b ∉ wr → hp'.get? b = some o → h₂.get? b = some o := fun b o hb q => (hs₂.2 b (nc b o q)).trans (hk' b o hb (kp b o hb q))
      have hD₂ : h₂.get? D = some (listOf items nn) := (hs₂.2 D (Ne.symm cD)).trans (hk' D _ wD hD)
      have hC₂ : h₂.Ns C (fun _ => none) := hC.at' fun o q => (hs₂.2 C (Ne.symm cC)).trans (hk' C o wC q)
      have hS₂ : St (i + 1) h₂ := W.frame _ _ _ hS' fun b hb o q => (hs₂.2 b fun e => cf (e ▸ hb)).trans q
      have tk₂ : k' ≤ tk := Nat.le_trans tk₁ htk
      refine wpAny_mono (tests i v C _ hlt hPv hc₂ up₂ os₁ tk₂) (fun ok s₃ h₃ => ?_) fun _ _ x => x
      obtain ⟨rfl, k₃⟩ := h₃
      cases hp : p i with
      | false =>
        rw [if_neg Bool.false_ne_true]
        refine ⟨n - (i + 1), by omega, i + 1, items, nn, some v, rfl, hlt, W.frame _ _ _ hS₂ fun b _ o q => k₃.keep b o q, hC₂.keeps k₃.keep, let ⟨o, ho, r⟩ := hc₂; ⟨o, k₃.keep _ _ ho, r⟩, k₃.keep _ _ hD₂, ?_, fun b o hb q => k₃.keep b o (up₂ b o hb q), k₃.os.trans os₁, Nat.le_trans tk₂ k₃.tok⟩
        rw [filter_range_succ, hp, if_neg Bool.false_ne_true, List.append_nil]; exact hP
      | true =>
        rw [if_pos rfl]
        refine wpAny_mono (elts i v C s₃ hlt hp hPv (let ⟨o, ho, r⟩ := hc₂; ⟨o, k₃.keep _ _ ho, r⟩) (fun b o hb q => k₃.keep b o (up₂ b o hb q)) (k₃.os.trans os₁) (Nat.le_trans tk₂ k₃.tok)) (fun y s₄ h₄ => ?_) fun _ _ x => x
        obtain ⟨hF, k₄⟩ := h₄
        have k₃₄ := k₃.trans k₄
        have hisz : items.size ≤ 100000 := by
          have e1 := hP.length
          have e2 := List.length_filter_le p (List.range i)
          rw [List.length_range] at e2
          have e3 : items.toList.length = items.size := Array.length_toList
          have e1' : ((List.range i).filter p).length = items.toList.length := e1
          have e2' : ((List.range i).filter p).length ≤ i := e2
          omega
        refine append_at (its := items) (n := nn) (hsz := by rw [sizeLine_eq]; omega) (k₃₄.keep _ _ hD₂) fun h₅ hs₅ hD₅ => ?_
        replace hs₅ : Heap.SameBut D s₄.heap h₅ := hs₅
        refine ⟨n - (i + 1), by omega, i + 1, _, _, some v, rfl, hlt, W.frame _ _ _ hS₂ fun b hb o q => (hs₅.2 b fun e => Df (e ▸ hb)).trans (k₃₄.keep b o q), (hC₂.keeps k₃₄.keep).at' fun o q => (hs₅.2 C CD).trans q, let ⟨o, ho, r⟩ := hc₂; ⟨o, (hs₅.2 _ cD).trans (k₃₄.keep _ _ ho), r⟩, hD₅, ?_, fun b o hb q => (hs₅.2 b (nD b o q)).trans (k₃₄.keep b o (up₂ b o hb q)), k₃₄.os.trans os₁, Nat.le_trans tk₂ k₃₄.tok⟩
        rw [filter_range_succ, hp, if_pos rfl, Array.toList_push]
        exact hP.snoc hF
    · have hin : i = n := by omega
      subst hin
      refine wpAny_tok (W.done s₁ _ _ hS fun h' tk hk' => ?_)
      intro htk
      refine h D C items nn _ (fun _ => none) (fun b o hb q => hk' b o hb (kp b o hb q)) ?_ ?_ CD (hC.at' fun o q => hk' C o wC q) (hk' D _ wD hD) hP os₁ (Nat.le_trans tk₁ htk)
      · rw [← hDD]; exact Heap.get?_none_of_le (Nat.le_refl _)
      · rw [hCD, ← hDD]; exact Heap.get?_none_of_le (Nat.le_succ _)
  have hJ : J (n - 0) ⟨h₁, g', d', k', o'⟩ := ⟨0, #[], 0, none, rfl, Nat.zero_le _, W.frame _ _ _ hst fun b hb o q => old₁ b o q, hns₁, hcell₁, hD₁, .nil, fun b o _ q => old₁ b o q, rfl, Nat.le_refl _⟩
  exact codeAny_compStart_list (loop _ hJ) (W.self 0 _ _ _ (W.frame _ _ _ hst fun b hb o q => old₁ b o q) (loop _ hJ))
end
end Mine
end
namespace Mine
theorem fill2 : (PySem.Challenge.rw_tl0001_01.prog = PySem.Challenge.rw_tl0001_01.prog) ∧ (hd.heap_39 = hd.heap_39) := by k_fill; exact ⟨rfl, rfl⟩
theorem pat1_of {w : World} {h : Heap} (X : (hd.heap_39 w.params).In h) : PatAt h 36 code1 := ⟨_, _, _, _, X _ _ (by k_is), X _ _ (by k_is), by decide +kernel⟩
theorem pat2_of {w : World} {h : Heap} (X : (hd.heap_39 w.params).In h) : PatAt h 41 code2 := ⟨_, _, _, _, X _ _ (by k_is), X _ _ (by k_is), by decide +kernel⟩
theorem getSub {M : Model} {A : Around} {E : Value → Shared → Prop} {s : Shared} {a : Addr} {code : Array Nat} {pl : Sem Bool} {Q : Value × List Value → Shared → Prop} (P : PatAt s.heap a code)
    (h : Q (.builtin "re.Pattern.sub", [.ref a]) s) : wpAny M A (getMethod (.ref a) (Str.ofString "sub") pl) Q E s := by
  obtain ⟨p, f, c, ws, h1, _⟩ := P
  exact getMethod_builtin (T := "re.Pattern") ⟨_, h1, rfl⟩ plainAttrs_re slot_re_sub type_re_sub (fun b e => by cases e; exact ⟨_, h1, rfl⟩) h
theorem sub2K {prog : Program} {w : World} {A : Around} {E : Value → Shared → Prop} {s : Shared} {a : Addr} {l : List Nat} {t u : Tok} {Q : Value → Shared → Prop} {h₀ : Heap} {L : Addr} {m : Str → Option Value} {news : List (Addr × Obj)} (P : PatAt s.heap a code2) (hl : l.length ≤ 50000)
    (F : Fr h₀ L s.heap m) (N : News h₀ L s.heap news) (h : ∀ t' h' g' d' k', Fr h₀ L h' m → News h₀ L h' news → s.toks ≤ k' → Q (.str (S (crl false l)) t') ⟨h', g', d', k', s.os⟩) :
    wpAny (model prog w) A (call (.builtin "re.Pattern.sub") [.ref a, .str (S [13, 10]) u, .str (S l) t]) Q E s := sub2_call P hl (kp_str F N h)
theorem sub1K {prog : Program} {w : World} {A : Around} {E : Value → Shared → Prop} {s : Shared} {a : Addr} {l : List Nat} {t u : Tok} {Q : Value → Shared → Prop} {h₀ : Heap} {L : Addr} {m : Str → Option Value} {news : List (Addr × Obj)} (P : PatAt s.heap a code1) (hl : l.length ≤ 50000)
    (F : Fr h₀ L s.heap m) (N : News h₀ L s.heap news) (h : ∀ t' h' g' d' k', Fr h₀ L h' m → News h₀ L h' news → s.toks ≤ k' → Q (.str (S (dotL true l)) t') ⟨h', g', d', k', s.os⟩) :
    wpAny (model prog w) A (call (.builtin "re.Pattern.sub") [.ref a, .str (S [46, 46]) u, .str (S l) t]) Q E s := sub1_call P hl (kp_str F N h)
end Mine
open Mine
local macro_rules | `(tactic| walk_at "getMethod ref") => `(tactic| ((with_reducible show wpAny _ _ (getMethod (Value.ref _) (PySem.Str.ofString "sub") _) _ _ _); k_dflt (first
  | (refine getSub (a := 36) (pat1_of (Frag.In.keeps (by with_reducible assumption) (Fr.keep (by with_reducible assumption)))) ?_)
  | (refine getSub (a := 41) (pat2_of (Frag.In.keeps (by with_reducible assumption) (Fr.keep (by with_reducible assumption)))) ?_))))
local macro_rules | `(tactic| walk_at "call builtin:re.Pattern.sub") => `(tactic| ((with_reducible show wpAny _ _ (call (Value.builtin _) [Value.ref _, Value.str _ _, Value.str (S _) _]) _ _ _); (try simp only [li_crlf, li_dots]); k_dflt (first
  | (refine' sub2K (a := 41) ?P ?L ?F ?N ?_; (case P => exact pat2_of (Frag.In.keeps (by with_reducible assumption) (Fr.keep (by with_reducible assumption)))); (case L => omega); (case F => k_asm); (case N => k_asm))
  | (refine' sub1K (a := 36) ?P ?L ?F ?N ?_; (case P => exact pat1_of (Frag.In.keeps (by with_reducible assumption) (Fr.keep (by with_reducible assumption)))); (case L => omega); (case F => k_asm); (case N => k_asm))); intro t' h' g' d' k' F' N' hk'; (try dsimp only at hk'); (try dsimp only)))
namespace Mine
theorem quotedata_spec {w : World} {A : Around} {s : Shared} {R : Result → Shared → Prop} {l : List Nat} {t1 : Tok} (S₀ : Std w s.heap) (H : Rm A 5) (ht : 0 < s.toks)
   (hl : l.length ≤ 5000) (h : ∀ t s', Kp s s' → R (.ok (.ret (.str (S (quoteL l)) t))) s') :
   codeAny (model PySem.Challenge.rw_tl0001_01.row.prog w) A (.call (.ref 48) ⟨[.str (S l) t1], []⟩) R s := by
  obtain ⟨mean, mg, mb, T⟩ := S₀.t
  have X := S₀.x
  refine' enter_fn (binds := [(Str.ofString "data", .str (S l) t1)]) X T ?k1 ?k2 ?k3 ?k4 ?k5 ?_ ?k6 ?k7 ?k8 ?k9
  case k1 => k_is
  case k2 => k_is
  case k3 => exact H.room
  case k4 => exact BindsTo.of_eq rfl
  case k5 => exact locs rfl
  case k6 => rfl
  case k7 => rfl
  case k8 => rfl
  case k9 => decide
  intro h₁ F N
  w_top off
  have hB : TokB s.toks := ht
  have hE := crl_len false l
  (try k_fold)
  k_steps
  exact ret_str h rfl (Kp.of (by assumption) (by omega))
end Mine
local macro_rules | `(tactic| k_all) => `(tactic| with_reducible assumption)
namespace Mine
theorem fillS : (PySem.Challenge.rw_tl0001_01.prog = PySem.Challenge.rw_tl0001_01.prog) ∧ (hd.heap_39 = hd.heap_39) := by k_fill; exact ⟨rfl, rfl⟩
theorem strip_spec {w : World} {A : Around} {s : Shared} {R : Result → Shared → Prop} {l : List Nat} {t1 : Tok} (S₀ : Std w s.heap) (H : Rm A 5)
   (hl : l.length ≤ 3000) (h : ∀ t s', Kp s s' → R (.ok (.ret (.str (S (stripL l)) t))) s') :
   codeAny (model PySem.Challenge.rw_tl0001_01.row.prog w) A (.call (.ref 62) ⟨[.str (S l) t1], []⟩) R s := by
  obtain ⟨mean, mg, mb, T⟩ := S₀.t
  have X := S₀.x
  refine' enter_fn (binds := [(Str.ofString "addr", .str (S l) t1)]) X T ?k1 ?k2 ?k3 ?k4 ?k5 ?_ ?k6 ?k7 ?k8 ?k9
  case k1 => k_is
  case k2 => k_is
  case k3 => exact H.room
  case k4 => exact BindsTo.of_eq rfl
  case k5 => exact locs rfl
  case k6 => rfl
  case k7 => rfl
  case k8 => rfl
  case k9 => decide
  intro h₁ F N
  w_top off
  have hB : TokW s.toks := trivial
  (try k_fold)
  k_steps
  · refine ret_str (y := S (stripL l)) h ?_ (Kp.of (by assumption) (by omega))
    have h34 : (Builtin.Str.occurrences (S l) (Str.ofString "\"") 0 (S l).length 1).isEmpty = true := by assumption
    rw [li_q, has_S] at h34
    have : ¬ 34 ∈ l := by simpa using h34
    rw [stripL, if_neg this]
  rename_i D _ _ hp F' N' _ tkF _
  have e34 : 34 ∈ l := by
    have h34 : (Builtin.Str.occurrences (S l) (Str.ofString "\"") 0 (S l).length 1).isEmpty = false := by assumption
    rw [li_q, has_S] at h34
    simpa using h34
  refine wpAny_For ?_
  k_steps
  refine for_esc (h₀ := s.heap) (zs := [D]) ((H.less (by decide : 4 ≤ 5)).deeper _) rfl rfl rfl S₀ (SI s l t1 D) (fun us s1 x => x.stands) (fun us s1 s2 x k os tk => x.stable k os tk) ?_ ?_ ?_
  · refine ⟨_, 0, none, _, #[], 0, [], F', rfl, rfl, rfl, rfl, N', .nil, by simp, fun _ h => (nomatch h), by have := units_len l 0 false; simp only [List.length_nil]; omega, fun u hu => by have := units_pos l 0 false u hu; omega, Nat.zero_le _, fun _ _ e => (nomatch e), by dsimp only; omega, rfl⟩
  · intro u us sA sB m t t' xs hI hm hmB up tkB osB hxs hxD
    obtain ⟨m', st, op, ts, items, n, ls, FA, h1, h2, h3, h4, NA, h5, h6, h7, h8, h9, h10, h11, h12, h13⟩ := hI
    cases ns_uniq hm FA.ns
    have em := strip_map h1 h2 h3 h4
    have neL : ∀ b o, s.heap.get? b = some o → b ≠ s.heap.objs.size := fun b o q => Nat.ne_of_lt (Heap.lt_size q)
    have FB : Fr s.heap s.heap.objs.size sB.heap _ := ⟨hmB, fun b o q => up b o (neL b o q) (FA.keep b o q), FA.above⟩
    have ND := NA (D, listOf items n) (List.mem_singleton.mpr rfl)
    have NB : News s.heap s.heap.objs.size sB.heap ((D, listOf items n) :: xs) := by
      intro p hp
      rcases List.mem_cons.mp hp with rfl | hp
      · exact ⟨up _ _ ND.2.1 ND.1, ND.2⟩
      · exact hxs p hp
    rw [em] at FB
    have hxD' : ∀ p ∈ xs, p.1 ≠ D := fun p hp q => hxD p hp (List.mem_singleton.mpr q)
    obtain ⟨hpB, gB, dB, kB, oB⟩ := sB
    obtain ⟨hpA, gA, dA, kA, oA⟩ := sA
    dsimp only at *
    subst osB
    clear NA FA hm hmB F' N' em ND
    obtain ⟨up1, uy⟩ := u
    dsimp only at *
    have h9' : ∀ u ∈ us, u.1 ≤ l.length := fun u hu => h9 u (List.mem_cons_of_mem _ hu)
    have h90 := h9 _ (List.mem_cons_self ..)
    rw [List.length_cons] at h8
    by_cases h34 : uy = [34]
    · subst h34
      cases op with
      | none =>
        dsimp only [opV] at *
        (try k_fold)
        k_steps
        · refine SI.leaf (op := some (up1, t)) ls (by assumption) (by assumption) rfl rfl rfl rfl rfl rfl h5 h6 h7 (by omega) h9' h10 (fun o t e => by cases e; exact h90) (by dsimp only; omega) h13
      | some o =>
        obtain ⟨o, ot⟩ := o
        have h11' := h11 o ot rfl
        dsimp only [opV] at *
        (try k_fold)
        k_steps
        · have ene : st ≠ o := fun q => by have : (st : Int) ≠ (o : Int) := by assumption
                                           exact this (congrArg _ q)
          refine SI.leaf (op := none) (st := up1 + 1) (ls ++ [(l.drop st).take (o - st)]) (by assumption) (by assumption) rfl rfl rfl rfl rfl rfl ?_ ?_ ?_ ?_ h9' (by omega) (fun o t e => nomatch e) (by dsimp only; omega) h13
          · rw [slice_S, Array.toList_push, List.map_append]
            exact strs_snoc h5 _ _
          · rw [← h6]
            simp only [stripGo, if_pos, Option.map, ne_eq, ene, not_false_eq_true]
            simp
          · intro x hx
            rcases List.mem_append.mp hx with hx | hx
            · exact h7 x hx
            · rw [List.mem_singleton.mp hx, List.length_take, List.length_drop]; omega
          · rw [List.length_append, List.length_singleton]; omega
        · have ene : st = o := by have : (st : Int) = (o : Int) := by assumption
                                  omega
          refine SI.leaf (op := none) (st := up1 + 1) ls (by assumption) (by assumption) rfl rfl rfl rfl rfl rfl h5 ?_ h7 (by omega) h9' (by omega) (fun o t e => nomatch e) (by first | omega | (dsimp only; omega)) h13
          rw [← h6]
          simp only [stripGo, if_pos, Option.map, ne_eq, ene, not_true_eq_false, if_neg, not_false_eq_true, List.nil_append]
    · have eq34 : (S uy == S [34]) = false := by rw [S_beq]; exact decide_eq_false h34
      rw [← li_q] at eq34
      (try k_fold)
      k_steps
      refine SI.leaf (op := op) ls (by assumption) (by assumption) rfl rfl rfl rfl rfl rfl h5 ?_ h7 (by omega) h9' h10 h11 (by omega) h13
      rw [← h6]
      simp only [stripGo, if_neg h34]
  · intro s₂ hI
    obtain ⟨m, st, op, ts, items, n, ls, FA, h1, h2, h3, h4, NA, h5, h6, h7, h8, h9, h10, h11, h12, h13⟩ := hI
    obtain ⟨hpA, gA, dA, kA, oA⟩ := s₂
    dsimp only at *
    intro hTk9
    have em := strip_map h1 h2 h3 h4
    rw [em] at FA
    clear em
    subst h13
    (try k_fold)
    k_steps
    · have hlt : st < l.length := by have : (st : Int) < (l.length : Int) := by assumption
                                     omega
      have h8' : ls.length + 1 ≤ 3002 := by rw [List.length_nil] at h8; omega
      refine join_end (ls := ls ++ [l.drop st]) (B := 3000) (by assumption) (by rw [slice_S_from, Array.toList_push, List.map_append]; exact strs_snoc h5 _ _) (fun x hx => ?_) (by rw [List.length_append, List.length_singleton]; omega) fun t' k hk => ?_
      · rcases List.mem_append.mp hx with hx | hx
        · exact Nat.le_trans (h7 x hx) hl
        · rw [List.mem_singleton.mp hx, List.length_drop]; omega
      · intro _
        refine ret_str h ?_ (Kp.of (by assumption) (by revert hk; dsimp only; omega))
        rw [stripL, if_pos e34, ← h6]
        simp only [stripGo, if_pos hlt]
        simp
    · have hlt : ¬ st < l.length := by have : ¬ (st : Int) < (l.length : Int) := by assumption
                                       omega
      have h8' : ls.length + 1 ≤ 3002 := by rw [List.length_nil] at h8; omega
      refine join_end (ls := ls) (B := 3000) (by assumption) h5 (fun x hx => Nat.le_trans (h7 x hx) hl) (by omega) fun t' k hk => ?_
      intro _
      refine ret_str h ?_ (Kp.of (by assumption) (by revert hk; dsimp only; omega))
      rw [stripL, if_pos e34, ← h6]
      simp only [stripGo, if_neg hlt]
      simp
end Mine
namespace Mine
/-- the brackets' balance -/
def chkGo : List (Nat × List Nat) → Int → Bool
  | [], o => o == 0
  | (_, y) :: r, o => if y = [40] then chkGo r (o + 1) else if y = [41] then (if o - 1 < 0 then false else chkGo r (o - 1)) else chkGo r o
def chkL (l : List Nat) : Bool := chkGo (units 0 false (stripL l)) 0
def CI (s₀ : Shared) (l : List Nat) (us : List (Nat × List Nat)) (s : Shared) : Prop :=
  ∃ (m : Str → Option Value) (o : Int) (ot : Tok), Fr s₀.heap s₀.heap.objs.size s.heap m ∧ m (Str.ofString "opens") = some (.int o ot) ∧ chkGo us o = chkL l ∧ s₀.toks ≤ s.toks ∧ s.os = s₀.os
theorem CI.stands {s₀ : Shared} {l : List Nat} {us : List (Nat × List Nat)} {s : Shared} (x : CI s₀ l us s) : Stands s₀.heap s₀.heap.objs.size [] s.heap := by
  obtain ⟨m, o, ot, F, _⟩ := x
  refine ⟨F.keep, fun b z => ?_, ⟨m, F.ns⟩⟩
  rcases z with ⟨o, q⟩ | rfl | z
  · exact ⟨o, F.keep b o q⟩
  · obtain ⟨o, es, ep, ho, _⟩ := F.ns; exact ⟨o, ho⟩
  · cases z
theorem CI.stable {s₀ : Shared} {l : List Nat} {us : List (Nat × List Nat)} {s s' : Shared} (x : CI s₀ l us s) (k : ∀ b o, ZZ s₀.heap s₀.heap.objs.size [] b → s.heap.get? b = some o → s'.heap.get? b = some o)
    (os : s'.os = s.os) (tk : s.toks ≤ s'.toks) : CI s₀ l us s' := by
  obtain ⟨m, o, ot, F, h1, h2, h3, h4⟩ := x
  exact ⟨m, o, ot, ⟨F.ns.at' fun o q => k _ o (.inr (.inl rfl)) q, fun b o q => k b o (.inl ⟨o, q⟩) (F.keep b o q), F.above⟩, h1, h2, Nat.le_trans h3 tk, os.trans h4⟩
theorem CI.leaf {s₀ : Shared} {l : List Nat} {us : List (Nat × List Nat)} {xs : XS} {h : Heap} {g : Array GenState} {d : Drawn} {k : Nat} {os : OsState} {Q : Flow → Shared → Prop} {m : Str → Option Value} (o : Int) {ot : Tok} {v : Value}
    (F : Fr s₀.heap s₀.heap.objs.size h m) (N : News s₀.heap s₀.heap.objs.size h xs) (h1 : m (Str.ofString "opens") = some v) (e : v = .int o ot) (h6 : chkGo us o = chkL l) (h12 : s₀.toks ≤ k) (h13 : os = s₀.os) : TurnQ (CI s₀ l) Q us xs g .next ⟨h, g, d, k, os⟩ := by
  subst e
  exact ⟨fun p hp => (N p hp).1, rfl, m, o, ot, F, h1, h6, h12, h13⟩
theorem one_map {m : Str → Option Value} {x : Str} {a : Value} (h1 : m x = some a) : m = fun y => if y = x then some a else m y := by
  funext y
  split
  · rename_i q; rw [q]; exact h1
  · rfl
theorem stripK {w : World} {A : Around} {s : Shared} {E : Value → Shared → Prop} {l : List Nat} {t1 : Tok} {Q : Value → Shared → Prop} {h₀ : Heap} {L : Addr} {m : Str → Option Value} {news : List (Addr × Obj)} (S₀ : Std w h₀) (H : Rm A 5) (hl : l.length ≤ 3000)
    (F : Fr h₀ L s.heap m) (N : News h₀ L s.heap news) (h : ∀ t' h' g' d' k', Fr h₀ L h' m → News h₀ L h' news → s.toks ≤ k' → Q (.str (S (stripL l)) t') ⟨h', g', d', k', s.os⟩) :
    wpAny (model PySem.Challenge.rw_tl0001_01.row.prog w) A (call (.ref 62) [.str (S l) t1]) Q E s := wpAny_call (strip_spec (S₀.keeps F.keep) H hl (fun t' s' k => kp_str F N h t' s' k))
theorem ret_bool {R : Result → Shared → Prop} {s s' : Shared} {b c : Bool} (h : ∀ s', Kp s s' → R (.ok (.ret (.bool c))) s') (e : b = c) (k : Kp s s') : R (.ok (.ret (.bool b))) s' := by
  subst e; exact h s' k
theorem fillC : (PySem.Challenge.rw_tl0001_01.prog = PySem.Challenge.rw_tl0001_01.prog) ∧ (hd.heap_39 = hd.heap_39) := by k_fill; exact ⟨rfl, rfl⟩
end Mine
open Mine
local macro_rules | `(tactic| walk_at "call ref") => `(tactic| ((with_reducible show wpAny _ _ (call (Value.ref 62) [Value.str (S _) _]) _ _ _); (refine' stripK ?S ?H ?L ?F ?N ?_; (case S => with_reducible assumption); (case H => exact Rm.deeper (Rm.less (by assumption) (by decide)) _); (case L => omega); (case F => k_asm); (case N => k_asm)); intro t' h' g' d' k' F' N' hk'; (try dsimp only at hk'); (try dsimp only)))
namespace Mine
theorem check_spec {w : World} {A : Around} {s : Shared} {R : Result → Shared → Prop} {l : List Nat} {t1 : Tok} (S₀ : Std w s.heap) (H : Rm A 6)
   (hl : l.length ≤ 3000) (h : ∀ s', Kp s s' → R (.ok (.ret (.bool (chkL l)))) s') :
   codeAny (model PySem.Challenge.rw_tl0001_01.row.prog w) A (.call (.ref 69) ⟨[.str (S l) t1], []⟩) R s := by
  obtain ⟨mean, mg, mb, T⟩ := S₀.t
  have X := S₀.x
  refine' enter_fn (binds := [(Str.ofString "addr", .str (S l) t1)]) X T ?k1 ?k2 ?k3 ?k4 ?k5 ?_ ?k6 ?k7 ?k8 ?k9
  case k1 => k_is
  case k2 => k_is
  case k3 => exact H.room
  case k4 => exact BindsTo.of_eq rfl
  case k5 => exact locs rfl
  case k6 => rfl
  case k7 => rfl
  case k8 => rfl
  case k9 => decide
  intro h₁ F N
  w_top off
  have hB : TokW s.toks := trivial
  (try k_fold)
  k_steps
  rename_i h9 F' N' _ tkF _
  refine wpAny_For ?_
  k_steps
  refine for_esc (h₀ := s.heap) (zs := []) ((H.less (by decide : 4 ≤ 6)).deeper _) rfl rfl rfl S₀ (CI s l) (fun us s1 x => x.stands) (fun us s1 s2 x k os tk => x.stable k os tk) ?_ ?_ ?_
  · exact ⟨_, 0, _, F', rfl, rfl, by dsimp only; omega, rfl⟩
  · intro u us sA sB m t t' xs hI hm hmB up tkB osB hxs hxD
    obtain ⟨m', o, ot, FA, h1, h2, h3, h4⟩ := hI
    cases ns_uniq hm FA.ns
    have em := one_map h1
    have neL : ∀ b o, s.heap.get? b = some o → b ≠ s.heap.objs.size := fun b o q => Nat.ne_of_lt (Heap.lt_size q)
    have FB : Fr s.heap s.heap.objs.size sB.heap _ := ⟨hmB, fun b o q => up b o (neL b o q) (FA.keep b o q), FA.above⟩
    rw [em] at FB
    obtain ⟨hpB, gB, dB, kB, oB⟩ := sB
    obtain ⟨hpA, gA, dA, kA, oA⟩ := sA
    dsimp only at *
    subst osB
    subst h4
    clear FA hm hmB F' N' em
    obtain ⟨up1, uy⟩ := u
    dsimp only at *
    have hxs' : News s.heap s.heap.objs.size hpB xs := hxs
    clear hxs
    by_cases h40 : uy = [40]
    · subst h40
      (try k_fold)
      k_steps
      refine CI.leaf (o + 1) (by assumption) (by assumption) rfl rfl ?_ (by first | omega | (dsimp only; omega)) rfl
      rw [← h2]; simp only [chkGo, if_pos]
    · have e40 : (S uy == S [40]) = false := by rw [S_beq]; exact decide_eq_false h40
      rw [← li_op] at e40
      by_cases h41 : uy = [41]
      · subst h41
        (try k_fold)
        k_steps
        · have hlt : o - 1 < 0 := by assumption
          refine ⟨fun p hp => ((by assumption : News s.heap s.heap.objs.size _ xs) p hp).1, rfl, ?_⟩
          dsimp only
          intro _
          refine ret_bool h ?_ (Kp.of (by assumption) (by first | omega | (dsimp only; omega)))
          rw [← h2]; simp only [chkGo, if_pos hlt, if_neg h40, if_pos]
        · have hlt : ¬ o - 1 < 0 := by assumption
          refine CI.leaf (o - 1) (by assumption) (by assumption) rfl rfl ?_ (by first | omega | (dsimp only; omega)) rfl
          rw [← h2]; simp only [chkGo, if_neg hlt, if_neg h40, if_pos]
      · have e41 : (S uy == S [41]) = false := by rw [S_beq]; exact decide_eq_false h41
        rw [← li_cl] at e41
        (try k_fold)
        k_steps
        refine CI.leaf o (by assumption) (by assumption) rfl rfl ?_ (by first | omega | (dsimp only; omega)) rfl
        rw [← h2]; simp only [chkGo, if_neg h40, if_neg h41]
  · intro s₂ hI
    obtain ⟨m, o, ot, FA, h1, h2, h3, h4⟩ := hI
    obtain ⟨hpA, gA, dA, kA, oA⟩ := s₂
    dsimp only at *
    intro hTk9
    have em := one_map h1
    rw [em] at FA
    clear em
    subst h4
    have NA : News s.heap s.heap.objs.size hpA [] := News.nil
    (try k_fold)
    k_steps
    dsimp only
    refine ret_bool h ?_ (Kp.of FA (by omega))
    rw [← h2]; rfl
end Mine
namespace Mine
theorem fillM : (PySem.Challenge.rw_tl0001_01.prog = PySem.Challenge.rw_tl0001_01.prog) ∧ (hd.heap_39 = hd.heap_39) := by k_fill; exact ⟨rfl, rfl⟩
/-- the first place from `last` on up to which the stretch is taken -/
def mateFrom (run : List Nat) (first : Nat) : Nat → Nat → Nat
  | 0, _ => run.length
  | n + 1, last => if run.getD last 0 = 41 ∧ chkL ((run.drop first).take (last + 1 - first)) = true then last else mateFrom run first n (last + 1)
def mateL (run : List Nat) (first : Nat) : Nat := mateFrom run first (run.length - (first + 1)) (first + 1)
theorem checkK {w : World} {A : Around} {s : Shared} {E : Value → Shared → Prop} {y : Str} {l : List Nat} {t1 : Tok} {Q : Value → Shared → Prop} {h₀ : Heap} {L : Addr} {m : Str → Option Value} {news : List (Addr × Obj)} (hy : y = S l) (S₀ : Std w h₀) (H : Rm A 6) (hl : l.length ≤ 3000)
    (F : Fr h₀ L s.heap m) (N : News h₀ L s.heap news) (h : ∀ h' g' d' k', Fr h₀ L h' m → News h₀ L h' news → s.toks ≤ k' → Q (.bool (chkL l)) ⟨h', g', d', k', s.os⟩) :
    wpAny (model PySem.Challenge.rw_tl0001_01.row.prog w) A (call (.ref 69) [.str y t1]) Q E s := by
  subst hy
  refine wpAny_call (check_spec (S₀.keeps F.keep) H hl ?_)
  rintro ⟨h', g', d', k', o'⟩ ⟨a, b, c⟩
  cases b
  exact h h' g' d' k' (frKp F a) (newsKp N a) c
theorem ret_int {R : Result → Shared → Prop} {s s' : Shared} {x y : Int} {t : Tok} (h : ∀ t s', Kp s s' → R (.ok (.ret (.int y t))) s') (e : x = y) (k : Kp s s') : R (.ok (.ret (.int x t))) s' := by
  subst e; exact h t s' k
/-- where the loop of the mate stands -/
def MI (s₀ : Shared) (run : List Nat) (t1 t2 : Tok) (first : Nat) (i : Nat) (s : Shared) : Prop :=
  ∃ m, Fr s₀.heap s₀.heap.objs.size s.heap m ∧ m (Str.ofString "run") = some (.str (S run) t1) ∧ m (Str.ofString "first") = some (.int (first : Nat) t2) ∧
    mateFrom run first (run.length - (first + 1) - i) (first + 1 + i) = mateL run first ∧ s₀.toks ≤ s.toks ∧ s.os = s₀.os
theorem MI.stands {s₀ : Shared} {run : List Nat} {t1 t2 : Tok} {first i : Nat} {s : Shared} (x : MI s₀ run t1 t2 first i s) : Stands s₀.heap s₀.heap.objs.size [] s.heap := by
  obtain ⟨m, F, _⟩ := x
  refine ⟨F.keep, fun b z => ?_, ⟨m, F.ns⟩⟩
  rcases z with ⟨o, q⟩ | rfl | z
  · exact ⟨o, F.keep b o q⟩
  · obtain ⟨o, es, ep, ho, _⟩ := F.ns; exact ⟨o, ho⟩
  · cases z
theorem MI.stable {s₀ : Shared} {run : List Nat} {t1 t2 : Tok} {first i : Nat} {s s' : Shared} (x : MI s₀ run t1 t2 first i s) (k : ∀ b o, ZZ s₀.heap s₀.heap.objs.size [] b → s.heap.get? b = some o → s'.heap.get? b = some o)
    (os : s'.os = s.os) (tk : s.toks ≤ s'.toks) : MI s₀ run t1 t2 first i s' := by
  obtain ⟨m, F, h1, h2, h3, h4, h5⟩ := x
  exact ⟨m, ⟨F.ns.at' fun o q => k _ o (.inr (.inl rfl)) q, fun b o q => k b o (.inl ⟨o, q⟩) (F.keep b o q), F.above⟩, h1, h2, h3, Nat.le_trans h4 tk, os.trans h5⟩
theorem MI.leaf {s₀ : Shared} {run : List Nat} {t1 t2 : Tok} {first i : Nat} {I : Addr} {oI : Obj} {h : Heap} {g : Array GenState} {d : Drawn} {k : Nat} {os : OsState} {Q : Flow → Shared → Prop} {m : Str → Option Value}
    (F : Fr s₀.heap s₀.heap.objs.size h m) (N : News s₀.heap s₀.heap.objs.size h [(I, oI)]) (h1 : m (Str.ofString "run") = some (.str (S run) t1)) (h2 : m (Str.ofString "first") = some (.int (first : Nat) t2)) (hlt : first + 1 + i < run.length)
    (h3 : mateFrom run first (run.length - (first + 1) - i) (first + 1 + i) = mateL run first) (hno : ¬ (run.getD (first + 1 + i) 0 = 41 ∧ chkL ((run.drop first).take (first + 1 + i + 1 - first)) = true))
    (h4 : s₀.toks ≤ k) (h5 : os = s₀.os) : WalkQ I oI (MI s₀ run t1 t2 first (i + 1)) Q .next ⟨h, g, d, k, os⟩ := by
  refine ⟨(N _ (List.mem_singleton.mpr rfl)).1, m, F, h1, h2, ?_, h4, h5⟩
  have e : run.length - (first + 1) - i = (run.length - (first + 1) - (i + 1)) + 1 := by omega
  rw [e, mateFrom, if_neg hno] at h3
  exact h3
theorem mate_here {run : List Nat} {first i : Nat} (hlt : first + 1 + i < run.length) (h3 : mateFrom run first (run.length - (first + 1) - i) (first + 1 + i) = mateL run first)
    (hy : run.getD (first + 1 + i) 0 = 41 ∧ chkL ((run.drop first).take (first + 1 + i + 1 - first)) = true) : first + 1 + i = mateL run first := by
  have e : run.length - (first + 1) - i = (run.length - (first + 1) - (i + 1)) + 1 := by omega
  rw [e, mateFrom, if_pos hy] at h3
  exact h3
theorem is_cl {c : Nat} {b : Bool} (h : (S [c] == Str.ofString ")") = b) : decide (c = 41) = b := by
  rw [li_cl, S_beq] at h
  rw [← h]; simp
theorem slice_S1 (l : List Nat) (a b : Nat) : Txt.slice (S l) (some (a : Int)) (some ((b : Int) + 1)) = S ((l.drop a).take (b + 1 - a)) := slice_S l a (b + 1)
theorem two_map {m : Str → Option Value} {x y : Str} {a b : Value} (h1 : m x = some a) (h2 : m y = some b) : m = fun z => if z = x then some a else if z = y then some b else m z := by
  funext z
  split
  · rename_i q; rw [q]; exact h1
  · split
    · rename_i q; rw [q]; exact h2
    · rfl
end Mine
open Mine
local macro_rules | `(tactic| walk_at "call ref") => `(tactic| ((with_reducible show wpAny _ _ (call (Value.ref 69) [Value.str _ _]) _ _ _); (refine' checkK ?Y ?S ?H ?L ?F ?N ?_; (case Y => first | exact slice_S1 _ _ _ | exact slice_S _ _ _ | exact rfl); (case S => with_reducible assumption); (case H => exact Rm.deeper (Rm.less (by assumption) (by decide)) _); (case L => first | omega | (simp only [List.length_take, List.length_drop]; omega)); (case F => k_asm); (case N => k_asm)); intro h' g' d' k' F' N' hk'; (try dsimp only at hk'); (try dsimp only)))
local macro_rules | `(tactic| walk_at "subscriptTail Name Name str int") => `(tactic| ((with_reducible show wpAny _ _ (subscriptTail _ _ (Value.str (S _) _) (Value.int _ _)) _ _ _); refine itemS (by first | exact rfl | omega) (by omega) (by omega) ?_))
local macro_rules | `(tactic| walk1) => `(tactic| ((with_reducible show wpAny _ _ (exec (Stmt.For _ _ _ _ _) _) _ _ _); refine wpAny_For (wpAny_tok ?_)))
namespace Mine
theorem mate_spec {w : World} {A : Around} {s : Shared} {R : Result → Shared → Prop} {run : List Nat} {t1 t2 : Tok} {first : Nat} (S₀ : Std w s.heap) (H : Rm A 7)
   (hl : run.length ≤ 3000) (hf : first < run.length) (h : ∀ t s', Kp s s' → R (.ok (.ret (.int (mateL run first : Nat) t))) s') :
   codeAny (model PySem.Challenge.rw_tl0001_01.row.prog w) A (.call (.ref 101) ⟨[.str (S run) t1, .int (first : Nat) t2], []⟩) R s := by
  obtain ⟨mean, mg, mb, T⟩ := S₀.t
  have X := S₀.x
  refine' enter_fn (binds := [(Str.ofString "run", .str (S run) t1), (Str.ofString "first", .int (first : Nat) t2)]) X T ?k1 ?k2 ?k3 ?k4 ?k5 ?_ ?k6 ?k7 ?k8 ?k9
  case k1 => k_is
  case k2 => k_is
  case k3 => exact H.room
  case k4 => exact BindsTo.of_eq rfl
  case k5 => exact locs rfl
  case k6 => rfl
  case k7 => rfl
  case k8 => rfl
  case k9 => decide
  intro h₁ F N
  w_top off
  have hB : TokW s.toks := trivial
  (try k_fold)
  k_steps
  rename_i rgX F2 N2 up2 hTk9
  refine for_range (h₀ := s.heap) (zs := []) (lo := first + 1) (hi := run.length) rgX rfl rfl (by omega) (by omega) H.hd rfl rfl (MI s run t1 t2 first) (fun i s x => x.stands) (fun i s1 s2 x k os tk => x.stable k os tk) ?_ ?_ ?_
  · exact ⟨_, F2, rfl, rfl, rfl, by dsimp only; omega, rfl⟩
  · intro i t sA sB m I oI hlt hI hm hmB up tkB osB NB nI
    obtain ⟨m', FA, h1, h2, h3, h4, h5⟩ := hI
    cases ns_uniq hm FA.ns
    have em := two_map h1 h2
    have neL : ∀ b o, s.heap.get? b = some o → b ≠ s.heap.objs.size := fun b o q => Nat.ne_of_lt (Heap.lt_size q)
    have FB : Fr s.heap s.heap.objs.size sB.heap _ := ⟨hmB, fun b o q => up b o (neL b o q) (FA.keep b o q), FA.above⟩
    have NB' : News s.heap s.heap.objs.size sB.heap [(I, oI)] := NB
    rw [em] at FB
    obtain ⟨hpB, gB, dB, kB, oB⟩ := sB
    obtain ⟨hpA, gA, dA, kA, oA⟩ := sA
    dsimp only at *
    subst osB
    subst h5
    clear FA hm hmB F2 N2 em NB rgX up2
    (try k_fold)
    k_steps
    · have e1 := is_cl (by assumption : (S [run.getD (first + 1 + i) 0] == Str.ofString ")") = true)
      have e2 : chkL ((run.drop first).take (first + 1 + i + 1 - first)) = true := by assumption
      refine ⟨((by assumption : News s.heap s.heap.objs.size _ [(I, oI)]) _ (List.mem_singleton.mpr rfl)).1, ?_⟩
      dsimp only
      intro _
      refine ret_int h (by rw [mate_here hlt h3 ⟨of_decide_eq_true e1, e2⟩]) (Kp.of (by assumption) (by first | omega | (dsimp only; omega)))
    · have e2 : chkL ((run.drop first).take (first + 1 + i + 1 - first)) = false := by assumption
      refine MI.leaf (by assumption) (by assumption) rfl rfl hlt h3 (fun q => ?_) (by first | omega | (dsimp only; omega)) rfl
      rw [q.2] at e2; cases e2
    · have e1 := is_cl (by assumption : (S [run.getD (first + 1 + i) 0] == Str.ofString ")") = false)
      refine MI.leaf (by assumption) (by assumption) rfl rfl hlt h3 (fun q => ?_) (by first | omega | (dsimp only; omega)) rfl
      exact of_decide_eq_false e1 q.1
  · intro s₂ hI
    obtain ⟨m, FA, h1, h2, h3, h4, h5⟩ := hI
    obtain ⟨hpA, gA, dA, kA, oA⟩ := s₂
    dsimp only at *
    intro hTk9
    have em := two_map h1 h2
    rw [em] at FA
    subst h5
    have NA : News s.heap s.heap.objs.size hpA [] := News.nil
    clear em F2 N2 up2 rgX
    (try k_fold)
    k_steps
    refine ret_int h ?_ (Kp.of FA (by dsimp only; omega))
    rw [← h3, Nat.sub_self]; rfl
end Mine
namespace Mine
theorem fillA : (PySem.Challenge.rw_tl0001_01.prog = PySem.Challenge.rw_tl0001_01.prog) ∧ (hd.heap_39 = hd.heap_39) := by k_fill; exact ⟨rfl, rfl⟩
/-- what stands within the marks -/
def withinL (l : List Nat) : List Nat := (l.drop ((stripL l).length + 1)).take (l.length - 1 - ((stripL l).length + 1))
def stepL (c : Nat) (l : List Nat) : List Nat := if c = 40 then fmtL l else if c = 111 then quoteL l else unescL (withinL l)
def carriedL : List Nat → List Nat → List (List Nat)
  | [], l => [l]
  | c :: r, l => l :: carriedL r (stepL c l)
theorem carriedL_len : ∀ (r l : List Nat), (carriedL r l).length = r.length + 1
  | [], _ => rfl
  | c :: r, l => by rw [carriedL, List.length_cons, carriedL_len, List.length_cons]
theorem carriedL_head : ∀ (r l : List Nat), l ∈ carriedL r l
  | [], _ => List.mem_singleton.mpr rfl
  | _ :: _, _ => List.mem_cons_self ..
theorem stripGo_len (l : List Nat) : ∀ (us : List (Nat × List Nat)) (st : Nat) (op : Option Nat), (stripGo l us st op).length ≤ (us.length + 1) * l.length
  | [], st, op => by
    unfold stripGo
    split
    · rw [List.length_drop]; simp
    · simp
  | (p, y) :: r, st, op => by
    rw [stripGo.eq_def, List.length_cons, Nat.succ_mul]
    dsimp only
    split
    · split
      · have := stripGo_len l r st (some p); omega
      · rename_i o
        have := stripGo_len l r (p + 1) none
        rw [List.length_append]
        split
        · rw [List.length_take, List.length_drop]; omega
        · simp; omega
    · have := stripGo_len l r st op; omega
theorem stripL_len {l : List Nat} (hl : l.length ≤ 3000) : (stripL l).length ≤ 10000000 := by
  unfold stripL
  split
  · have h1 := stripGo_len l (units 0 false l) 0 none
    have h2 := units_len l 0 false
    have h3 : ((units 0 false l).length + 1) * l.length ≤ 3002 * 3000 := Nat.mul_le_mul (by omega) hl
    omega
  · omega
theorem execs_nil_ {M : Model} {A : Around} {E : Value → Shared → Prop} {s : Shared} {env : Env} {Q : Flow → Shared → Prop} (h : Q .next s) : wpAny M A (execs [] env) Q E s := wpAny_pure h
theorem fmtK {w : World} {A : Around} {s : Shared} {E : Value → Shared → Prop} {l : List Nat} {t0 t1 : Tok} {Q : Value → Shared → Prop} {h₀ : Heap} {L : Addr} {m : Str → Option Value} {news : List (Addr × Obj)} (S₀ : Std w h₀) (H : Rm A 5) (ht : 0 < s.toks) (hl0 : 0 < l.length) (hl : l.length ≤ 5000)
    (F : Fr h₀ L s.heap m) (N : News h₀ L s.heap news) (h : ∀ t' h' g' d' k', Fr h₀ L h' m → News h₀ L h' news → s.toks ≤ k' → Q (.str (S (fmtL l)) t') ⟨h', g', d', k', s.os⟩) :
    wpAny (model PySem.Challenge.rw_tl0001_01.row.prog w) A (call (.ref 82) [.str (Str.ofString ".") t0, .str (S l) t1]) Q E s := wpAny_call (formatparam_spec (S₀.keeps F.keep) H ht hl0 hl (fun t' s' k => kp_str F N h t' s' k))
theorem quoK {w : World} {A : Around} {s : Shared} {E : Value → Shared → Prop} {l : List Nat} {t1 : Tok} {Q : Value → Shared → Prop} {h₀ : Heap} {L : Addr} {m : Str → Option Value} {news : List (Addr × Obj)} (S₀ : Std w h₀) (H : Rm A 5) (ht : 0 < s.toks) (hl : l.length ≤ 5000)
    (F : Fr h₀ L s.heap m) (N : News h₀ L s.heap news) (h : ∀ t' h' g' d' k', Fr h₀ L h' m → News h₀ L h' news → s.toks ≤ k' → Q (.str (S (quoteL l)) t') ⟨h', g', d', k', s.os⟩) :
    wpAny (model PySem.Challenge.rw_tl0001_01.row.prog w) A (call (.ref 48) [.str (S l) t1]) Q E s := wpAny_call (quotedata_spec (S₀.keeps F.keep) H ht hl (fun t' s' k => kp_str F N h t' s' k))
/-- where the loop of the carrying stands -/
def AI (s₀ : Shared) (run l : List Nat) (D : Addr) (i : Nat) (s : Shared) : Prop :=
  ∃ (m : Str → Option Value) (cur : List Nat) (tt : Tok) (items : Array Value) (n : Nat) (ls : List (List Nat)), Fr s₀.heap s₀.heap.objs.size s.heap m ∧ m (Str.ofString "text") = some (.str (S cur) tt) ∧ m (Str.ofString "texts") = some (.ref D) ∧
    News s₀.heap s₀.heap.objs.size s.heap [(D, listOf items n)] ∧ StrsAre items.toList ((ls ++ [cur]).map S) ∧ ls ++ carriedL (run.drop i) cur = carriedL run l ∧ s₀.toks ≤ s.toks ∧ s.os = s₀.os
theorem AI.stands {s₀ : Shared} {run l : List Nat} {D : Addr} {i : Nat} {s : Shared} (x : AI s₀ run l D i s) : Stands s₀.heap s₀.heap.objs.size [D] s.heap := by
  obtain ⟨m, cur, tt, items, n, ls, F, _, _, N, _⟩ := x
  refine ⟨F.keep, fun b z => ?_, ⟨m, F.ns⟩⟩
  rcases z with ⟨o, q⟩ | rfl | z
  · exact ⟨o, F.keep b o q⟩
  · obtain ⟨o, es, ep, ho, _⟩ := F.ns; exact ⟨o, ho⟩
  · rw [List.mem_singleton.mp z]; exact ⟨_, (N (D, listOf items n) (List.mem_singleton.mpr rfl)).1⟩
theorem AI.stable {s₀ : Shared} {run l : List Nat} {D : Addr} {i : Nat} {s s' : Shared} (x : AI s₀ run l D i s) (k : ∀ b o, ZZ s₀.heap s₀.heap.objs.size [D] b → s.heap.get? b = some o → s'.heap.get? b = some o)
    (os : s'.os = s.os) (tk : s.toks ≤ s'.toks) : AI s₀ run l D i s' := by
  obtain ⟨m, cur, tt, items, n, ls, F, h1, h2, N, h3, h4, h5, h6⟩ := x
  refine ⟨m, cur, tt, items, n, ls, ⟨F.ns.at' fun o q => k _ o (.inr (.inl rfl)) q, fun b o q => k b o (.inl ⟨o, q⟩) (F.keep b o q), F.above⟩, h1, h2, ?_, h3, h4, Nat.le_trans h5 tk, os.trans h6⟩
  intro p hp
  rw [List.mem_singleton.mp hp]
  have := N _ (List.mem_singleton.mpr rfl)
  exact ⟨k _ _ (.inr (.inr (List.mem_singleton.mpr rfl))) this.1, this.2⟩
theorem AI.leaf {s₀ : Shared} {run l : List Nat} {D : Addr} {i c : Nat} {I : Addr} {oI : Obj} {h : Heap} {g : Array GenState} {d : Drawn} {k : Nat} {os : OsState} {Q : Flow → Shared → Prop} {m : Str → Option Value} {items : Array Value} {n : Nat} {news : XS} {tt : Tok} (cur : List Nat) (ls : List (List Nat)) {nxt : List Nat} {v : Value}
    (F : Fr s₀.heap s₀.heap.objs.size h m) (N : News s₀.heap s₀.heap.objs.size h news) (hD : (D, listOf items n) ∈ news) (hI : (I, oI) ∈ news) (h1 : m (Str.ofString "text") = some v) (ev : v = .str (S nxt) tt) (h2 : m (Str.ofString "texts") = some (.ref D))
    (hc : run[i]? = some c) (hn : nxt = stepL c cur) (h3 : StrsAre items.toList (((ls ++ [cur]) ++ [nxt]).map S)) (h4 : ls ++ carriedL (run.drop i) cur = carriedL run l) (h5 : s₀.toks ≤ k) (h6 : os = s₀.os) : WalkQ I oI (AI s₀ run l D (i + 1)) Q .next ⟨h, g, d, k, os⟩ := by
  subst ev
  refine ⟨(N _ hI).1, m, nxt, tt, items, n, ls ++ [cur], F, h1, h2, ?_, h3, ?_, h5, h6⟩
  · intro p hp
    rw [List.mem_singleton.mp hp]
    exact N _ hD
  · obtain ⟨hlt, e⟩ := List.getElem?_eq_some_iff.mp hc
    rw [List.drop_eq_getElem_cons hlt, e, carriedL] at h4
    rw [hn, ← h4, List.append_assoc]
    rfl
theorem strs_snoc2 {vs : List Value} {ls : List (List Nat)} {cur nxt : List Nat} {v : Value} {t : Tok} (h : StrsAre vs ((ls ++ [cur]).map S)) (e : v = .str (S nxt) t) : StrsAre (vs ++ [v]) (((ls ++ [cur]) ++ [nxt]).map S) := by
  subst e
  rw [List.map_append (l₁ := ls ++ [cur])]
  exact strs_snoc h _ _
theorem slice_Sm1 (l : List Nat) (a : Nat) : Txt.slice (S l) (some ((a : Int) + 1)) (some (-1)) = S ((l.drop (a + 1)).take (l.length - 1 - (a + 1))) := slice_S_m1 l (a + 1)
end Mine
open Mine
local macro_rules | `(tactic| walk_at "call ref") => `(tactic| ((with_reducible show wpAny _ _ (call (Value.ref 82) [Value.str _ _, Value.str (S _) _]) _ _ _); (refine' fmtK ?S ?H ?T ?Z ?L ?F ?N ?_; (case S => with_reducible assumption); (case H => exact Rm.deeper (Rm.less (by assumption) (by decide)) _); (case T => ((try dsimp only); omega)); (case Z => omega); (case L => omega); (case F => k_asm); (case N => k_asm)); intro t' h' g' d' k' F' N' hk'; (try dsimp only at hk'); (try dsimp only)))
local macro_rules | `(tactic| walk_at "call ref") => `(tactic| ((with_reducible show wpAny _ _ (call (Value.ref 48) [Value.str (S _) _]) _ _ _); (refine' quoK ?S ?H ?T ?L ?F ?N ?_; (case S => with_reducible assumption); (case H => exact Rm.deeper (Rm.less (by assumption) (by decide)) _); (case T => ((try dsimp only); omega)); (case L => omega); (case F => k_asm); (case N => k_asm)); intro t' h' g' d' k' F' N' hk'; (try dsimp only at hk'); (try dsimp only)))
local macro_rules | `(tactic| walk_at "execs nil") => `(tactic| (refine execs_nil_ ?_; (try dsimp only)))
local macro_rules | `(tactic| k_all) => `(tactic| with_reducible assumption)
local macro_rules | `(tactic| walk1) => `(tactic| ((with_reducible show wpAny _ _ (eval (Expr.ListComp _ _ _ _) _) _ _ _); refine wpAny_ListComp (by decide) rfl (by decide) ?_))
namespace Mine
theorem carried_spec {w : World} {A : Around} {s : Shared} {R : Result → Shared → Prop} {run l : List Nat} {t1 t2 : Tok} (S₀ : Std w s.heap) (H : Rm A 7) (ht : 0 < s.toks)
   (hrl : run.length ≤ 100) (hb : ∀ x ∈ carriedL run l, 0 < x.length ∧ x.length ≤ 3000)
   (h : ∀ D items n s', Kp s s' → s.heap.get? D = none → s'.heap.get? D = some (listOf items n) → StrsAre items.toList ((carriedL run l).map S) → R (.ok (.ret (.ref D))) s') :
   codeAny (model PySem.Challenge.rw_tl0001_01.row.prog w) A (.call (.ref 94) ⟨[.str (S run) t1, .str (S l) t2], []⟩) R s := by
  obtain ⟨mean, mg, mb, T⟩ := S₀.t
  have X := S₀.x
  refine' enter_fn (binds := [(Str.ofString "run", .str (S run) t1), (Str.ofString "text", .str (S l) t2)]) X T ?k1 ?k2 ?k3 ?k4 ?k5 ?_ ?k6 ?k7 ?k8 ?k9
  case k1 => k_is
  case k2 => k_is
  case k3 => exact H.room
  case k4 => exact BindsTo.of_eq rfl
  case k5 => exact locs rfl
  case k6 => rfl
  case k7 => rfl
  case k8 => rfl
  case k9 => decide
  intro h₁ F N
  w_top off
  have hB : TokB s.toks := ht
  (try k_fold)
  k_steps
  rename_i D _ _ hpF F' N' _ tkF _ _ _
  refine for_str (h₀ := s.heap) (zs := [D]) H.hd rfl rfl (AI s run l D) (fun i s1 x => x.stands) (fun i s1 s2 x k os tk => x.stable k os tk) ?_ ?_ ?_
  · exact ⟨_, l, _, _, _, [], F', rfl, rfl, N', .cons _ _ .nil, by rw [List.drop_zero]; rfl, by dsimp only; omega, rfl⟩
  · intro i c t sA sB m I oI hc hI hm hmB up tkB osB NB nI
    obtain ⟨m', cur, tt, items, n, ls, FA, h1, h2, NA, h3, h4, h5, h6⟩ := hI
    cases ns_uniq hm FA.ns
    have em := two_map h1 h2
    have neL : ∀ b o, s.heap.get? b = some o → b ≠ s.heap.objs.size := fun b o q => Nat.ne_of_lt (Heap.lt_size q)
    have FB : Fr s.heap s.heap.objs.size sB.heap _ := ⟨hmB, fun b o q => up b o (neL b o q) (FA.keep b o q), FA.above⟩
    have ND := NA (D, listOf items n) (List.mem_singleton.mpr rfl)
    have NB' : News s.heap s.heap.objs.size sB.heap [(D, listOf items n), (I, oI)] := by
      intro p hp
      rcases List.mem_cons.mp hp with rfl | hp
      · exact ⟨up _ _ ND.2.1 ND.1, ND.2⟩
      · exact NB p hp
    rw [em] at FB
    have hID : ∀ p ∈ [(I, oI)], p.1 ≠ D := fun p hp q => nI (by rw [List.mem_singleton.mp hp] at q; exact List.mem_singleton.mpr q)
    obtain ⟨hpB, gB, dB, kB, oB⟩ := sB
    obtain ⟨hpA, gA, dA, kA, oA⟩ := sA
    dsimp only at *
    subst osB
    subst h6
    clear FA hm hmB F' N' em NB NA ND
    have hlt : i < run.length := (List.getElem?_eq_some_iff.mp hc).1
    have hcb := hb cur (by rw [← h4]; exact List.mem_append_right _ (carriedL_head _ _))
    have hcb1 := hcb.1
    have hcb2 := hcb.2
    have hisz : items.size ≤ 101 := by
      have e1 := strs_length h3
      rw [Array.length_toList, List.length_map, List.length_append, List.length_singleton] at e1
      have e2 := congrArg List.length h4
      rw [List.length_append, carriedL_len, carriedL_len, List.length_drop] at e2
      omega
    have hiszS : items.size ≤ sizeLine := by rw [sizeLine_eq]; omega
    by_cases h40 : c = 40
    · subst h40
      (try k_fold)
      k_steps
      exact AI.leaf (c := 40) cur ls (by assumption) (by assumption) (List.mem_cons_self ..) (List.mem_cons_of_mem _ (List.mem_cons_self ..)) rfl rfl rfl hc rfl (by rw [Array.toList_push]; exact strs_snoc2 h3 rfl) h4 (by first | omega | (dsimp only; omega)) rfl
    · have e40 : (S [c] == S [40]) = false := by rw [S_beq]; exact decide_eq_false (by simpa using h40)
      rw [← li_op] at e40
      by_cases h111 : c = 111
      · subst h111
        (try k_fold)
        k_steps
        exact AI.leaf (c := 111) cur ls (by assumption) (by assumption) (List.mem_cons_self ..) (List.mem_cons_of_mem _ (List.mem_cons_self ..)) rfl rfl rfl hc rfl (by rw [Array.toList_push]; exact strs_snoc2 h3 rfl) h4 (by first | omega | (dsimp only; omega)) rfl
      · have e111 : (S [c] == S [111]) = false := by rw [S_beq]; exact decide_eq_false (by simpa using h111)
        rw [← li_o] at e111
        have hsl := stripL_len hcb2
        (try k_fold)
        k_steps
        rename_i hpq tq kq hlq F' N' hk1 tkq hk2 hk3
        rw [slice_Sm1]
        refine comp_esc (m := _) (news := [(D, listOf items n), (I, oI)]) ((H.less (by decide : 4 ≤ 7)).deeper _) S₀ ?_ rfl (by decide) (fun _ => rfl) (fun _ => rfl) F' N' ?_
        · rw [List.length_take, List.length_drop]; omega
        intro D2 items2 n2 h2' g2 d2 k2 F2 N2 hs2 hkk
        clear F' N'
        dsimp only at hkk
        (try k_fold)
        k_steps
        refine join_end (ls := (unescL (withinL cur)).map fun c => [c]) (B := 1) N2 hs2 ?_ ?_ fun t'' k'' hk'' => ?_
        · intro x hx
          obtain ⟨y, _, rfl⟩ := List.mem_map.mp hx
          simp
        · rw [List.length_map, unescL, List.length_map]
          have e1 := units_len (withinL cur) 0 false
          have e2 : (withinL cur).length ≤ cur.length := by unfold withinL; rw [List.length_take, List.length_drop]; omega
          omega
        have efl : ((unescL (withinL cur)).map fun c => [c]).flatten = unescL (withinL cur) := by
          generalize unescL (withinL cur) = z
          induction z with
          | nil => rfl
          | cons a r ih => simp [ih]
        rw [efl]
        dsimp only at hk''
        have ND2 := N2 (D2, listOf items2 n2) (List.mem_cons_self ..)
        have N3 : News s.heap s.heap.objs.size h2' [(D, listOf items n), (I, oI)] := fun p hp => N2 p (List.mem_cons_of_mem _ hp)
        clear N2
        (try k_fold)
        k_steps
        exact AI.leaf (c := c) cur ls (by assumption) (by assumption) (List.mem_cons_self ..) (List.mem_cons_of_mem _ (List.mem_cons_self ..)) rfl rfl rfl hc (by unfold stepL; rw [if_neg h40, if_neg h111]) (by rw [Array.toList_push]; exact strs_snoc2 h3 rfl) h4 (by first | omega | (dsimp only; omega)) rfl
  · intro s₂ hI
    obtain ⟨m, cur, tt, items, n, ls, FA, h1, h2, NA, h3, h4, h5, h6⟩ := hI
    obtain ⟨hpA, gA, dA, kA, oA⟩ := s₂
    dsimp only at *
    intro hTk9
    have em := two_map h1 h2
    rw [em] at FA
    subst h6
    clear em F' N'
    (try k_fold)
    k_steps
    dsimp only
    have ND := NA (D, listOf items n) (List.mem_singleton.mpr rfl)
    refine h D items n _ (Kp.of FA (by omega)) ND.2.2 ND.1 ?_
    rw [List.drop_of_length_le (Nat.le_refl _)] at h4
    rw [← h4]
    exact h3
end Mine
namespace Mine
theorem fillD : (PySem.Challenge.rw_tl0001_01.prog = PySem.Challenge.rw_tl0001_01.prog) ∧ (hd.heap_39 = hd.heap_39) := by k_fill; exact ⟨rfl, rfl⟩
/-- how deep a row of deeds ends, if it is one -/
def dep : Nat → List Nat → Option Nat
  | on, [] => some on
  | on, c :: r => if c = 40 then (if on = 3 then none else dep (on + 1) r) else if c = 41 then (if on = 0 then none else dep (on - 1) r) else if c = 111 then dep on r else none
theorem dep_snoc : ∀ (r : List Nat) (a on c : Nat), dep a r = some on → dep a (r ++ [c]) = dep on [c]
  | [], a, on, c, h => by
    simp only [dep, Option.some.injEq] at h
    subst h; rfl
  | d :: r, a, on, c, h => by
    rw [dep] at h
    rw [List.cons_append, dep]
    by_cases q1 : d = 40
    · rw [if_pos q1] at h ⊢
      by_cases q2 : a = 3
      · rw [if_pos q2] at h; cases h
      · rw [if_neg q2] at h ⊢; exact dep_snoc r _ _ c h
    · rw [if_neg q1] at h ⊢
      by_cases q3 : d = 41
      · rw [if_pos q3] at h ⊢
        by_cases q2 : a = 0
        · rw [if_pos q2] at h; cases h
        · rw [if_neg q2] at h ⊢; exact dep_snoc r _ _ c h
      · rw [if_neg q3] at h ⊢
        by_cases q4 : d = 111
        · rw [if_pos q4] at h ⊢; exact dep_snoc r _ _ c h
        · rw [if_neg q4] at h; cases h
theorem dep_le : ∀ (r : List Nat) (a on : Nat), a ≤ 3 → dep a r = some on → on ≤ 3
  | [], a, on, ha, h => by simp only [dep, Option.some.injEq] at h; omega
  | d :: r, a, on, ha, h => by
    simp only [dep] at h
    split at h
    · split at h
      · cases h
      · exact dep_le r _ _ (by omega) h
    · split at h
      · split at h
        · cases h
        · exact dep_le r _ _ (by omega) h
      · split at h
        · exact dep_le r _ _ ha h
        · cases h
theorem maps_head {m : Str → Option Value} (ps : List (Str × Value)) (h : ∀ p ∈ ps, m p.1 = some p.2) : m = fun y => match ps.lookup y with | some v => some v | none => m y := by
  funext y
  induction ps with
  | nil => rfl
  | cons p r ih =>
    have e1 := h p (List.mem_cons_self ..)
    have e2 := ih fun q hq => h q (List.mem_cons_of_mem _ hq)
    obtain ⟨x, v⟩ := p
    rw [List.lookup_cons]
    cases q : y == x with
    | true => rw [eq_of_beq q]; exact e1
    | false => exact e2
/-- where the loop of the drawing stands -/
def DI (s₀ : Shared) (sp O : Addr) (own : Array Value) (i : Nat) (s : Shared) : Prop :=
  ∃ (m : Str → Option Value) (run txt : List Nat) (on n : Nat) (tr tt to : Tok), Fr s₀.heap s₀.heap.objs.size s.heap m ∧ m (Str.ofString "script") = some (.ref sp) ∧ m (Str.ofString "own") = some (.ref O) ∧ m (Str.ofString "run") = some (.str (S run) tr) ∧
    m (Str.ofString "text") = some (.str (S txt) tt) ∧ m (Str.ofString "on") = some (.int (on : Nat) to) ∧ News s₀.heap s₀.heap.objs.size s.heap [(O, listOf own n)] ∧ run.length = i ∧ txt.length = i ∧ dep 0 run = some on ∧ s₀.toks ≤ s.toks ∧ s.os = s₀.os
theorem DI.stands {s₀ : Shared} {sp O : Addr} {own : Array Value} {i : Nat} {s : Shared} (x : DI s₀ sp O own i s) : Stands s₀.heap s₀.heap.objs.size [O] s.heap := by
  obtain ⟨m, run, txt, on, n, tr, tt, to, F, _, _, _, _, _, N, _⟩ := x
  refine ⟨F.keep, fun b z => ?_, ⟨m, F.ns⟩⟩
  rcases z with ⟨o, q⟩ | rfl | z
  · exact ⟨o, F.keep b o q⟩
  · obtain ⟨o, es, ep, ho, _⟩ := F.ns; exact ⟨o, ho⟩
  · rw [List.mem_singleton.mp z]; exact ⟨_, (N (O, listOf own n) (List.mem_singleton.mpr rfl)).1⟩
theorem DI.stable {s₀ : Shared} {sp O : Addr} {own : Array Value} {i : Nat} {s s' : Shared} (x : DI s₀ sp O own i s) (k : ∀ b o, ZZ s₀.heap s₀.heap.objs.size [O] b → s.heap.get? b = some o → s'.heap.get? b = some o)
    (os : s'.os = s.os) (tk : s.toks ≤ s'.toks) : DI s₀ sp O own i s' := by
  obtain ⟨m, run, txt, on, n, tr, tt, to, F, h1, h2, h3, h4, h5, N, h6, h7, h8, h9, h10⟩ := x
  refine ⟨m, run, txt, on, n, tr, tt, to, ⟨F.ns.at' fun o q => k _ o (.inr (.inl rfl)) q, fun b o q => k b o (.inl ⟨o, q⟩) (F.keep b o q), F.above⟩, h1, h2, h3, h4, h5, ?_, h6, h7, h8, Nat.le_trans h9 tk, os.trans h10⟩
  intro p hp
  rw [List.mem_singleton.mp hp]
  have := N _ (List.mem_singleton.mpr rfl)
  exact ⟨k _ _ (.inr (.inr (List.mem_singleton.mpr rfl))) this.1, this.2⟩
theorem assign3 {prog : Program} {w : World} {A : Around} {s : Shared} {E : Value → Shared → Prop} {h₀ : Heap} {L : Addr} {m : Str → Option Value} {news : XS} {env : Env} {x1 x2 x3 : Str} {p1 p2 p3 p4 : Pos} {k : Nat} {T : Addr} {v1 v2 v3 : Value} {Q : Unit → Shared → Prop} (hh : A.handled = none)
    (F : Fr h₀ L s.heap m) (N : News h₀ L s.heap news) (hT : s.heap.IsTuple T #[v1, v2, v3])
    (h : ∀ h', Fr h₀ L h' m → News h₀ L h' news → wpAny (model prog w) A (storeName env x1 v1) (fun _ s₁ => wpAny (model prog w) A (storeName env x2 v2) (fun _ s₂ => wpAny (model prog w) A (storeName env x3 v3) Q E s₂) E s₁) E { s with heap := h' }) :
    wpAny (model prog w) A (assign (.Tuple [.Name x1 p1, .Name x2 p2, .Name x3 p3] k p4) env (.ref T)) Q E s := by
  refine wpAny_assign_Tuple hh hT rfl rfl fun h' hx => ?_
  have old : ∀ b o, s.heap.get? b = some o → h'.get? b = some o := fun b o q => hx b o (Nat.ne_of_lt (Heap.lt_size q)) q
  show wpAny _ _ (do holding [v2, v3] (assign (.Name x1 p1) env v1); do holding [v3] (assign (.Name x2 p2) env v2); do holding [] (assign (.Name x3 p3) env v3); pure ()) _ _ _
  refine wpAny_bind (wpAny_holding (wpAny_assign_Name (wpAny_mono (h h' (frKp F old) (newsKp N old)) (fun _ s₁ h₁ => ?_) fun _ _ e => e)))
  refine wpAny_bind (wpAny_holding (wpAny_assign_Name (wpAny_mono h₁ (fun _ s₂ h₂ => ?_) fun _ _ e => e)))
  exact wpAny_bind (wpAny_holding (wpAny_assign_Name (wpAny_mono h₂ (fun _ s₃ h₃ => wpAny_pure h₃) fun _ _ e => e)))
theorem DI.leaf {s₀ : Shared} {sp O : Addr} {own : Array Value} {i : Nat} {I : Addr} {oI : Obj} {h : Heap} {g : Array GenState} {d : Drawn} {k : Nat} {os : OsState} {Q : Flow → Shared → Prop} {m : Str → Option Value} {news : XS} {n : Nat} {tr tt to : Tok} {z : Int} {sr st : Str}
    (run txt : List Nat) (on c c9 on' : Nat) (F : Fr s₀.heap s₀.heap.objs.size h m) (N : News s₀.heap s₀.heap.objs.size h news) (hO : (O, listOf own n) ∈ news) (hI : (I, oI) ∈ news) (h1 : m (Str.ofString "script") = some (.ref sp)) (h2 : m (Str.ofString "own") = some (.ref O))
    (h3 : m (Str.ofString "run") = some (.str sr tr)) (h4 : m (Str.ofString "text") = some (.str st tt)) (h5 : m (Str.ofString "on") = some (.int z to)) (er : sr = S (run ++ [c])) (et : st = S (txt ++ [c9])) (ez : z = (on' : Nat))
    (h6 : run.length = i) (h7 : txt.length = i) (h8 : dep 0 run = some on) (hc : dep on [c] = some on') (h9 : s₀.toks ≤ k) (h10 : os = s₀.os) : WalkQ I oI (DI s₀ sp O own (i + 1)) Q .next ⟨h, g, d, k, os⟩ := by
  subst er et ez
  refine ⟨(N _ hI).1, m, run ++ [c], txt ++ [c9], on', n, tr, tt, to, F, h1, h2, h3, h4, h5, ?_, by rw [List.length_append, h6]; rfl, by rw [List.length_append, h7]; rfl, by rw [dep_snoc _ _ _ _ h8]; exact hc, h9, h10⟩
  intro p hp
  rw [List.mem_singleton.mp hp]
  exact N _ hO
theorem run_add {run : List Nat} {c : Nat} {y : Str} (e : y = S [c]) : S run ++ y = S (run ++ [c]) := by rw [e, S_app]
theorem allInts_pick {items : Array Value} {lo hi st : Option Int} (h : AllInts items) : AllInts (slicePick items lo hi st) := by
  intro v hv
  unfold slicePick at hv
  have hv' := List.mem_toArray.mp hv
  obtain ⟨i, _, hi⟩ := List.mem_filterMap.mp hv'
  exact h v (Array.mem_of_getElem? hi)
theorem ints_all {vs : List Value} {xs : List Int} (h : IntsAre vs xs) : AllInts vs.toArray := by
  intro v hv
  have hv' := List.mem_toArray.mp hv
  induction h with
  | nil => cases hv'
  | cons n t _ ih =>
    rcases List.mem_cons.mp hv' with rfl | hv'
    · exact ⟨_, _, rfl⟩
    · exact ih (List.mem_toArray.mpr hv') hv'
theorem ints_len {vs : List Value} {xs : List Int} (h : IntsAre vs xs) : vs.length = xs.length := by
  induction h with
  | nil => rfl
  | cons n t _ ih => simp [ih]
theorem sumK {prog : Program} {w : World} {A : Around} {s : Shared} {E : Value → Shared → Prop} {h₀ : Heap} {L : Addr} {m : Str → Option Value} {news : XS} {D : Addr} {its : Array Value} {Q : Value → Shared → Prop} (hh : A.handled = none)
    (F : Fr h₀ L s.heap m) (N : News h₀ L s.heap ((D, { cls := .type "list", data := .seq its }) :: news)) (hall : AllInts its)
    (h : ∀ z h' tk t', Fr h₀ L h' m → News h₀ L h' ((D, { cls := .type "list", data := .seq its }) :: news) → s.toks ≤ tk → Q (.int z t') { s with heap := h', toks := tk }) : wpAny (model prog w) A (call (.builtin "sum") [.ref D]) Q E s := by
  have ND := N _ (List.mem_cons_self ..)
  obtain ⟨xs, rfl⟩ := hall.items
  exact wpAny_tok (sum_intListG hh ⟨_, ND.1, rfl, _, rfl⟩ fun h' tk t' hk htk => h _ h' tk t' (frKp F hk) (newsKp N hk) htk)
theorem own_item {prog : Program} {w : World} {A : Around} {s : Shared} {E : Value → Shared → Prop} {value slice : Expr} {O : Addr} {own : Array Value} {n i : Nat} {k : Int} {u : Tok} {Q : Value → Shared → Prop} {h₀ : Heap} {L : Addr} {news : XS} (N : News h₀ L s.heap news) (hm : (O, listOf own n) ∈ news)
    (hown : ∀ i, i < 7 → ∃ v t, own[i]? = some (.int v t)) (e : k = (i : Nat)) (hi : i < 7) (h : ∀ v t, Q (.int v t) s)
    (hs : subscripted slice false (.ref O) (.int k u) = operate [.ref O, .int k u] (getItem (.ref O) (.int k u)) := by with_unfolding_all rfl) (hg : ∀ r, letTemporaryGo value (.ref O) r = pure () := by intro _; with_unfolding_all rfl) :
    wpAny (model prog w) A (subscriptTail value slice (.ref O) (.int k u)) Q E s := by
  subst e
  obtain ⟨v, t, hv⟩ := hown i hi
  exact item_list (items := own) ⟨_, (N _ hm).1, rfl, n, rfl⟩ (by omega) (by have : (2:Int)^63 = 9223372036854775808 := by decide
                                                                             omega) (by rw [Int.toNat_natCast]; exact hv) (h v t) hs hg
theorem deed_item {prog : Program} {w : World} {A : Around} {s : Shared} {E : Value → Shared → Prop} {value slice : Expr} {x : Int} {t u : Tok} {Q : Value → Shared → Prop} (h : ∀ d, (d = 40 ∨ d = 111 ∨ d = 41) → Q (.str (S [d]) s.toks) { s with toks := s.toks + 1 })
    (hs : subscripted slice false (.str (S [40, 111, 41]) t) (.int (Int.fmod x 3) u) = operate [.str (S [40, 111, 41]) t, .int (Int.fmod x 3) u] (getItem (.str (S [40, 111, 41]) t) (.int (Int.fmod x 3) u)) := by with_unfolding_all rfl)
    (ht : ∀ r, letTemporaryGo value (.str (S [40, 111, 41]) t) r = pure () := by intro _; with_unfolding_all rfl) :
    wpAny (model prog w) A (subscriptTail value slice (.str (S [40, 111, 41]) t) (.int (Int.fmod x 3) u)) Q E s := by
  have h0 : 0 ≤ Int.fmod x 3 := Int.fmod_nonneg_of_pos x (by decide)
  have h1 : Int.fmod x 3 < 3 := Int.fmod_lt_of_pos x (by decide)
  generalize Int.fmod x 3 = z at h0 h1 hs ⊢
  have hz : z = ((z.toNat : Nat) : Int) := by omega
  refine itemS (k := z.toNat) hz (by simp; omega) (by simp) ?_ hs ht
  have three : ∀ k, k < 3 → k = 0 ∨ k = 1 ∨ k = 2 := by decide
  have := three z.toNat (by omega)
  rcases this with e | e | e <;> rw [e]
  · exact h 40 (.inl rfl)
  · exact h 111 (.inr (.inl rfl))
  · exact h 41 (.inr (.inr rfl))
/-- the walk stands still here -/
def Halt (P : Prop) : Prop := P
theorem deed_item' {prog : Program} {w : World} {A : Around} {s : Shared} {E : Value → Shared → Prop} {value slice : Expr} {x : Int} {t u : Tok} {Q : Value → Shared → Prop} (h : Halt (∀ d, (d = 40 ∨ d = 111 ∨ d = 41) → Q (.str (S [d]) s.toks) { s with toks := s.toks + 1 }))
    (hs : subscripted slice false (.str (Str.ofString "(o)") t) (.int (Int.fmod x 3) u) = operate [.str (Str.ofString "(o)") t, .int (Int.fmod x 3) u] (getItem (.str (Str.ofString "(o)") t) (.int (Int.fmod x 3) u)) := by with_unfolding_all rfl)
    (ht : ∀ r, letTemporaryGo value (.str (Str.ofString "(o)") t) r = pure () := by intro _; with_unfolding_all rfl) :
    wpAny (model prog w) A (subscriptTail value slice (.str (Str.ofString "(o)") t) (.int (Int.fmod x 3) u)) Q E s := by
  rw [li_deeds] at hs ht ⊢
  exact deed_item h hs ht
theorem mulS {prog : Program} {w : World} {A : Around} {s : Shared} {E : Value → Shared → Prop} {y : Str} {l : List Nat} {z : Int} {n : Nat} {t u : Tok} {Q : Value → Shared → Prop} (hy : y = S l) (hz : z = (n : Nat)) (hl : l.length ≤ 1000) (hn : n ≤ 1000)
    (h : ∀ t' k, s.toks ≤ k → Q (.str (S (List.replicate n l).flatten) t') { s with toks := k }) : wpAny (model prog w) A (binaryOp .Mult (.str y t) (.int z u)) Q E s := by
  subst hy hz
  have pw : (2 : Int) ^ 63 = 9223372036854775808 := by decide
  refine wpAny_tok (SB.mul (mulOk_of 1000 1000 (by rw [S_len]; exact hl) (by omega) (by omega) (by decide) (by decide)) fun t' k hk => ?_)
  rw [mul_S]
  exact h t' k hk
theorem nine_item {prog : Program} {w : World} {A : Around} {s : Shared} {E : Value → Shared → Prop} {value slice : Expr} {x : Int} {u : Tok} {D : Addr} {n : Nat} {c : Nat} {a1 a2 a3 a4 a5 a6 a7 a8 a9 : Tok} {Q : Value → Shared → Prop} {h₀ : Heap} {L : Addr} {news : XS}
    (N : News h₀ L s.heap ((D, listOf #[.str (Str.ofString ".") a1, .str (Str.ofString "\r") a2, .str (Str.ofString "\n") a3, .str (Str.ofString "\"") a4, .str (Str.ofString "\\") a5, .str (Str.ofString "(") a6, .str (Str.ofString ")") a7, .str (Str.ofString ".") a8, .str ⟨#[c]⟩ a9] n) :: news))
    (h : ∀ c t, Q (.str (S [c]) t) s)
    (hs : subscripted slice false (.ref D) (.int (Int.fmod x 9) u) = operate [.ref D, .int (Int.fmod x 9) u] (getItem (.ref D) (.int (Int.fmod x 9) u)) := by with_unfolding_all rfl) (hg : ∀ r, letTemporaryGo value (.ref D) r = pure () := by intro _; with_unfolding_all rfl) :
    wpAny (model prog w) A (subscriptTail value slice (.ref D) (.int (Int.fmod x 9) u)) Q E s := by
  have h0 : 0 ≤ Int.fmod x 9 := Int.fmod_nonneg_of_pos x (by decide)
  have h1 : Int.fmod x 9 < 9 := Int.fmod_lt_of_pos x (by decide)
  generalize Int.fmod x 9 = z at h0 h1 hs ⊢
  have hl := (N _ (List.mem_cons_self ..)).1
  have pw : (2 : Int) ^ 63 = 9223372036854775808 := by decide
  have nine : ∀ k, k < 9 → k = 0 ∨ k = 1 ∨ k = 2 ∨ k = 3 ∨ k = 4 ∨ k = 5 ∨ k = 6 ∨ k = 7 ∨ k = 8 := by decide
  have := nine z.toNat (by omega)
  have go : ∀ v, (#[Value.str (Str.ofString ".") a1, .str (Str.ofString "\r") a2, .str (Str.ofString "\n") a3, .str (Str.ofString "\"") a4, .str (Str.ofString "\\") a5, .str (Str.ofString "(") a6, .str (Str.ofString ")") a7, .str (Str.ofString ".") a8, .str ⟨#[c]⟩ a9] : Array Value)[z.toNat]? = some v → Q v s →
      wpAny (model prog w) A (subscriptTail value slice (.ref D) (.int z u)) Q E s := fun v hv hq => item_list ⟨_, hl, rfl, n, rfl⟩ h0 (by omega) hv hq hs hg
  rcases this with e | e | e | e | e | e | e | e | e <;> rw [e] at go
  · exact go _ rfl (by rw [li_dot]; exact h _ _)
  · exact go _ rfl (by rw [li_cr]; exact h _ _)
  · exact go _ rfl (by rw [li_lf]; exact h _ _)
  · exact go _ rfl (by rw [li_q]; exact h _ _)
  · exact go _ rfl (by rw [li_bs]; exact h _ _)
  · exact go _ rfl (by rw [li_op]; exact h _ _)
  · exact go _ rfl (by rw [li_cl]; exact h _ _)
  · exact go _ rfl (by rw [li_dot]; exact h _ _)
  · exact go _ rfl (h c _)
end Mine
open Mine
local macro_rules | `(tactic| walk_at "subscriptTail") => `(tactic| ((with_reducible show wpAny _ _ (subscriptTail _ _ (Value.str (Str.ofString "(o)") _) (Value.int _ _)) _ _ _); refine deed_item' ?_))
local macro_rules | `(tactic| walk_at "binaryOp Mult str int") => `(tactic| ((refine' mulS ?Y ?Z ?L ?N ?_; (case Y => walk_at "mine lit"); (case Z => exact rfl); (case L => first | decide | omega | (simp; done)); (case N => omega)); intro t' k' hk'; (try dsimp only at hk'); (try dsimp only)))
local macro_rules | `(tactic| walk_at "subscriptTail Name BinOp ref int") => `(tactic| ((try dsimp only); (refine nine_item (by k_asm) ?_); intro c9 t9))
local macro_rules | `(tactic| walk_at "subscriptTail Name Name ref int") => `(tactic| (refine own_item (by k_asm) (List.mem_cons_self ..) (by with_reducible assumption) (by exact rfl) (by omega) ?_; intro ov ot))
local macro_rules | `(tactic| walk_at "call builtin:sum") => `(tactic| (refine sumK (Rm.deeper (n := 2) (Rm.less (m := 3) (by with_reducible assumption) (by decide)) _).hd (by k_asm) (by k_asm) (by first | exact ints_all (by with_reducible assumption) | exact allInts_pick (by with_reducible assumption)) ?_; intro z' h' tk' t' F' N' hk'; (try dsimp only at hk'); (try dsimp only)))
namespace Mine
theorem execs_app (env : Env) (l2 : List Stmt) : ∀ l1 : List Stmt, execs (l1 ++ l2) env = (execs l1 env >>= fun f => match f with | .next => execs l2 env | f => pure f)
  | [] => rfl
  | a :: r => by
    show execs (a :: (r ++ l2)) env = _
    rw [arm_execs_cons, arm_execs_cons, LawfulMonad.bind_assoc]
    congr 1
    funext f
    cases f with
    | next => exact execs_app env l2 r
    | ret v => rfl
    | brk => rfl
    | cont => rfl
/-- the first three statements, then the others -/
theorem execs_cut3 {M : Model} {A : Around} {E : Value → Shared → Prop} {s : Shared} {env : Env} {a b c : Stmt} {l2 : List Stmt} {Q : Flow → Shared → Prop}
    (h : wpAny M A (execs [a, b, c] env) (fun fl s' => match fl with | .next => wpAny M A (execs l2 env) Q E s' | f => Q f s') E s) : wpAny M A (execs (a :: b :: c :: l2) env) Q E s := by
  show wpAny M A (execs ([a, b, c] ++ l2) env) Q E s
  rw [execs_app]
  refine wpAny_bind (wpAny_mono h (fun f s' hf => ?_) fun _ _ e => e)
  cases f with
  | next => exact hf
  | ret v => exact wpAny_pure hf
  | brk => exact wpAny_pure hf
  | cont => exact wpAny_pure hf
/-- where a turn stands once the run is longer -/
def DM (s₀ : Shared) (sp O I : Addr) (own : Array Value) (oI : Obj) (i : Nat) (txt : List Nat) (xv : Int) (fl : Flow) (s : Shared) : Prop :=
  fl = .next ∧ ∃ (m : Str → Option Value) (run : List Nat) (on n : Nat) (tr tt to tx : Tok), Fr s₀.heap s₀.heap.objs.size s.heap m ∧ m (Str.ofString "script") = some (.ref sp) ∧ m (Str.ofString "own") = some (.ref O) ∧ m (Str.ofString "run") = some (.str (S run) tr) ∧
    m (Str.ofString "text") = some (.str (S txt) tt) ∧ m (Str.ofString "on") = some (.int (on : Nat) to) ∧ m (Str.ofString "x") = some (.int xv tx) ∧ News s₀.heap s₀.heap.objs.size s.heap [(O, listOf own n), (I, oI)] ∧ run.length = i + 1 ∧ dep 0 run = some on ∧ s₀.toks ≤ s.toks ∧ s.os = s₀.os
theorem DM.leaf {s₀ : Shared} {sp O : Addr} {own : Array Value} {i : Nat} {I : Addr} {oI : Obj} {h : Heap} {g : Array GenState} {d : Drawn} {k : Nat} {os : OsState} {m : Str → Option Value} {news : XS} {n : Nat} {tr tt to tx : Tok} {z xv : Int} {sr : Str}
    (run txt : List Nat) (on c on' : Nat) (F : Fr s₀.heap s₀.heap.objs.size h m) (N : News s₀.heap s₀.heap.objs.size h news) (hO : (O, listOf own n) ∈ news) (hI : (I, oI) ∈ news) (h1 : m (Str.ofString "script") = some (.ref sp)) (h2 : m (Str.ofString "own") = some (.ref O))
    (h3 : m (Str.ofString "run") = some (.str sr tr)) (h4 : m (Str.ofString "text") = some (.str (S txt) tt)) (h5 : m (Str.ofString "on") = some (.int z to)) (hx : m (Str.ofString "x") = some (.int xv tx)) (er : sr = S (run ++ [c])) (ez : z = (on' : Nat))
    (h6 : run.length = i) (h8 : dep 0 run = some on) (hc : dep on [c] = some on') (h9 : s₀.toks ≤ k) (h10 : os = s₀.os) : DM s₀ sp O I own oI i txt xv .next ⟨h, g, d, k, os⟩ := by
  subst er ez
  refine ⟨rfl, m, run ++ [c], on', n, tr, tt, to, tx, F, h1, h2, h3, h4, h5, hx, ?_, by rw [List.length_append, h6]; rfl, by rw [dep_snoc _ _ _ _ h8]; exact hc, h9, h10⟩
  intro p hp
  rcases List.mem_cons.mp hp with rfl | hp
  · exact N _ hO
  · rw [List.mem_singleton.mp hp]; exact N _ hI
theorem DI.leaf2 {s₀ : Shared} {sp O : Addr} {own : Array Value} {i : Nat} {I : Addr} {oI : Obj} {h : Heap} {g : Array GenState} {d : Drawn} {k : Nat} {os : OsState} {Q : Flow → Shared → Prop} {m : Str → Option Value} {news : XS} {n on : Nat} {tr tt to : Tok} {st : Str}
    (run txt : List Nat) (c9 : Nat) (F : Fr s₀.heap s₀.heap.objs.size h m) (N : News s₀.heap s₀.heap.objs.size h news) (hO : (O, listOf own n) ∈ news) (hI : (I, oI) ∈ news) (h1 : m (Str.ofString "script") = some (.ref sp)) (h2 : m (Str.ofString "own") = some (.ref O))
    (h3 : m (Str.ofString "run") = some (.str (S run) tr)) (h4 : m (Str.ofString "text") = some (.str st tt)) (h5 : m (Str.ofString "on") = some (.int (on : Nat) to)) (et : st = S (txt ++ [c9]))
    (h6 : run.length = i + 1) (h7 : txt.length = i) (h8 : dep 0 run = some on) (h9 : s₀.toks ≤ k) (h10 : os = s₀.os) : WalkQ I oI (DI s₀ sp O own (i + 1)) Q .next ⟨h, g, d, k, os⟩ := by
  subst et
  refine ⟨(N _ hI).1, m, run, txt ++ [c9], on, n, tr, tt, to, F, h1, h2, h3, h4, h5, ?_, h6, by rw [List.length_append, h7]; rfl, h8, h9, h10⟩
  intro p hp
  rw [List.mem_singleton.mp hp]
  exact N _ hO
theorem drawn_spec {w : World} {A : Around} {s : Shared} {R : Result → Shared → Prop} {sp : Addr} {vs : List Value} {xs : List Int} (S₀ : Std w s.heap) (H : Rm A 7) (ht : 0 < s.toks)
   (hL : s.heap.IsList sp vs.toArray) (hI : IntsAre vs xs) (hx : xs.length ≤ 63)
   (h : ∀ T deeds txt on tr tt s', Kp s s' → deeds.length = 7 → txt.length = 7 → dep 0 deeds = some on → s'.heap.IsTuple T #[.str (S (deeds ++ List.replicate on 41)) tr, .str (S txt) tt] → R (.ok (.ret (.ref T))) s') :
   codeAny (model PySem.Challenge.rw_tl0001_01.row.prog w) A (.call (.ref 89) ⟨[.ref sp], []⟩) R s := by
  obtain ⟨mean, mg, mb, T⟩ := S₀.t
  have X := S₀.x
  refine' enter_fn (binds := [(Str.ofString "script", .ref sp)]) X T ?k1 ?k2 ?k3 ?k4 ?k5 ?_ ?k6 ?k7 ?k8 ?k9
  case k1 => k_is
  case k2 => k_is
  case k3 => exact H.room
  case k4 => exact BindsTo.of_eq rfl
  case k5 => exact locs rfl
  case k6 => rfl
  case k7 => rfl
  case k8 => rfl
  case k9 => decide
  intro h₁ F N
  w_top off
  have hB : TokB s.toks := ht
  (try k_fold)
  k_steps
  rename_i T0 hp0 F' N' l1
  have NT := N' _ (List.mem_cons_self ..)
  refine assign3 (H.hd) F' N' ⟨_, NT.1, rfl, _, rfl⟩ fun h' F2 N2 => ?_
  clear F' N' NT
  (try k_fold)
  k_steps
  rename_i h9 t9 u9 v9 tk9 rgX F3 N3 up3 hk3
  have hown : ∀ own : Array Value, (∀ i, i < 7 → ∃ v t, own[i]? = some (.int v t)) → True := fun _ _ => trivial
  obtain ⟨O, own, n, hO, hm3, NO⟩ : ∃ O own n, (∀ i, i < 7 → ∃ v t, (own : Array Value)[i]? = some (.int v t)) ∧ (∃ m, Fr s.heap s.heap.objs.size h9 m ∧ m (Str.ofString "script") = some (.ref sp) ∧ m (Str.ofString "own") = some (.ref O) ∧ (∃ t, m (Str.ofString "run") = some (.str (S []) t)) ∧ (∃ t, m (Str.ofString "text") = some (.str (S []) t)) ∧ ∃ t, m (Str.ofString "on") = some (.int (0 : Nat) t)) ∧
      News s.heap s.heap.objs.size h9 [(O, listOf own n)] := by
    refine ⟨_, _, _, ?_, ⟨_, F3, rfl, rfl, ⟨_, rfl⟩, ⟨_, rfl⟩, ⟨_, rfl⟩⟩, fun p hp => N3 p (List.mem_cons_of_mem _ hp)⟩
    intro i hi
    match i, hi with
    | 0, _ => exact ⟨_, _, rfl⟩
    | 1, _ => exact ⟨_, _, rfl⟩
    | 2, _ => exact ⟨_, _, rfl⟩
    | 3, _ => exact ⟨_, _, rfl⟩
    | 4, _ => exact ⟨_, _, rfl⟩
    | 5, _ => exact ⟨_, _, rfl⟩
    | 6, _ => exact ⟨_, _, rfl⟩
  obtain ⟨m3, F4, e1, e2, ⟨tr, e3⟩, ⟨tt, e4⟩, ⟨to, e5⟩⟩ := hm3
  clear F3 N3
  have hvs := ints_all hI
  have hvl := ints_len hI
  have hvz : vs.toArray.size ≤ 63 := by rw [List.size_toArray]; omega
  have hvz' : vs.length ≤ 63 := by omega
  refine for_range (h₀ := s.heap) (zs := [O]) (lo := 0) (hi := 7) rgX rfl rfl (by omega) (by omega) H.hd rfl rfl (DI s sp O own) (fun i s x => x.stands) (fun i s1 s2 x k os tk => x.stable k os tk) ?_ ?_ ?_
  · exact ⟨_, [], [], 0, n, _, _, _, F4, e1, e2, e3, e4, e5, NO, rfl, rfl, rfl, by dsimp only; omega, rfl⟩
  · intro i t sA sB m I oI hlt hI' hm hmB up tkB osB NB nI
    obtain ⟨m', run, txt, on, n', tr', tt', to', FA, h1, h2, h3, h4, h5, NA, h6, h7, h8, h9, h10⟩ := hI'
    cases ns_uniq hm FA.ns
    have em := maps_head [(Str.ofString "script", .ref sp), (Str.ofString "own", .ref O), (Str.ofString "run", .str (S run) tr'), (Str.ofString "text", .str (S txt) tt'), (Str.ofString "on", .int (on : Nat) to')] (by
      intro p hp
      simp only [List.mem_cons, List.not_mem_nil, or_false] at hp
      rcases hp with rfl | rfl | rfl | rfl | rfl
      · exact h1
      · exact h2
      · exact h3
      · exact h4
      · exact h5)
    have neL : ∀ b o, s.heap.get? b = some o → b ≠ s.heap.objs.size := fun b o q => Nat.ne_of_lt (Heap.lt_size q)
    have FB : Fr s.heap s.heap.objs.size sB.heap _ := ⟨hmB, fun b o q => up b o (neL b o q) (FA.keep b o q), FA.above⟩
    have ND := NA _ (List.mem_singleton.mpr rfl)
    have NB' : News s.heap s.heap.objs.size sB.heap [(O, listOf own n'), (I, oI)] := by
      intro p hp
      rcases List.mem_cons.mp hp with rfl | hp
      · exact ⟨up _ _ ND.2.1 ND.1, ND.2⟩
      · exact NB p hp
    rw [em] at FB
    obtain ⟨hpB, gB, dB, kB, oB⟩ := sB
    obtain ⟨hpA, gA, dA, kA, oA⟩ := sA
    dsimp only at *
    subst osB
    subst h10
    clear FA hm hmB F4 NO em NB NA ND rgX up3
    have hon := dep_le _ _ _ (by omega) h8
    (try k_fold)
    k_steps
    rename_i tkx hq4 hq5 ov ot N1 hx1 hx2 hx3 hx4 hx5 l1b z1 hp2 tk2 tz hk2 hp3 F3 N3 hq1 tkq hq2 hq3
    clear hx3 hx4 hx5
    intro d hd9
    dsimp only
    have q1 : (Str.ofString "o" == Str.ofString "(") = false := by decide +kernel
    have q2 : (Str.ofString "o" == Str.ofString ")") = false := by decide +kernel
    have q3 : (S [40] == Str.ofString "(") = true := by rw [li_op, S_beq]; rfl
    have q4 : (S [40] == Str.ofString ")") = false := by rw [li_cl, S_beq]; rfl
    have q5 : (S [41] == Str.ofString "(") = false := by rw [li_op, S_beq]; rfl
    have q6 : (S [41] == Str.ofString ")") = true := by rw [li_cl, S_beq]; rfl
    have q7 : (S [111] == Str.ofString "(") = false := by rw [li_op, S_beq]; rfl
    have q8 : (S [111] == Str.ofString ")") = false := by rw [li_cl, S_beq]; rfl
    refine wpAny_mono (Q := fun (_ : Unit) s' => tkq ≤ s'.toks → wpAny _ _ (execs [_, _, _] _) (DM s sp O I own oI i txt (ov + z1)) (fun _ _ => False) s') ?_ (fun _ s' q hle => execs_cut3 (wpAny_mono (q hle) (fun fl s'' mid => ?_) fun _ _ e => e)) (fun _ _ e => e)
    rotate_left
    · obtain ⟨rfl, m8, run8, on8, n8, tr8, tt8, to8, tx8, F8, e1', e2', e3', e4', e5', e6', N8, e7', e8', e9', e10'⟩ := mid
      have em8 := maps_head [(Str.ofString "script", .ref sp), (Str.ofString "own", .ref O), (Str.ofString "run", .str (S run8) tr8), (Str.ofString "text", .str (S txt) tt8), (Str.ofString "on", .int (on8 : Nat) to8), (Str.ofString "x", .int (ov + z1) tx8)] (by
        intro p hp
        simp only [List.mem_cons, List.not_mem_nil, or_false] at hp
        rcases hp with rfl | rfl | rfl | rfl | rfl | rfl
        · exact e1'
        · exact e2'
        · exact e3'
        · exact e4'
        · exact e5'
        · exact e6')
      rw [em8] at F8
      obtain ⟨hp8, g8, d8, k8, os8⟩ := s''
      dsimp only at *
      subst e10'
      clear em8 F3 N3 hle q
      (try k_fold)
      k_steps
      exact DI.leaf2 run8 txt _ (by assumption) (by assumption) (List.mem_cons_of_mem _ (List.mem_cons_self ..)) (List.mem_cons_of_mem _ (List.mem_cons_of_mem _ (List.mem_cons_self ..))) rfl rfl rfl rfl rfl (S_app _ _) e7' h7 e8' (by first | omega | (dsimp only; omega)) rfl
    rcases hd9 with rfl | rfl | rfl
    · k_steps
      · exact DM.leaf run txt on 111 on (by assumption) (by assumption) (List.mem_cons_of_mem _ (List.mem_cons_self ..)) (List.mem_cons_of_mem _ (List.mem_cons_of_mem _ (List.mem_cons_self ..))) rfl rfl rfl rfl rfl rfl (run_add li_o) (by rw [q1, q2, if_neg Bool.false_ne_true]; omega) h6 h8 rfl (by first | omega | (dsimp only; omega)) rfl
      · have hne : ¬ on = 3 := by
          have : ¬ (on : Int) = 3 := by assumption
          omega
        exact DM.leaf run txt on 40 (on + 1) (by assumption) (by assumption) (List.mem_cons_of_mem _ (List.mem_cons_self ..)) (List.mem_cons_of_mem _ (List.mem_cons_of_mem _ (List.mem_cons_self ..))) rfl rfl rfl rfl rfl rfl (S_app _ _) (by rw [q3, q4, if_pos rfl, if_neg Bool.false_ne_true]; omega) h6 h8 (by simp only [dep, if_pos, if_neg hne]) (by first | omega | (dsimp only; omega)) rfl
    · k_steps
      all_goals exact DM.leaf run txt on 111 on (by assumption) (by assumption) (List.mem_cons_of_mem _ (List.mem_cons_self ..)) (List.mem_cons_of_mem _ (List.mem_cons_of_mem _ (List.mem_cons_self ..))) rfl rfl rfl rfl rfl rfl (S_app _ _) (by rw [q7, q8, if_neg Bool.false_ne_true]; omega) h6 h8 rfl (by first | omega | (dsimp only; omega)) rfl
    · k_steps
      · exact DM.leaf run txt on 111 on (by assumption) (by assumption) (List.mem_cons_of_mem _ (List.mem_cons_self ..)) (List.mem_cons_of_mem _ (List.mem_cons_of_mem _ (List.mem_cons_self ..))) rfl rfl rfl rfl rfl rfl (run_add li_o) (by rw [q1, q2, if_neg Bool.false_ne_true]; omega) h6 h8 rfl (by first | omega | (dsimp only; omega)) rfl
      · have hne : ¬ on = 0 := by
          have : ¬ (on : Int) = 0 := by assumption
          omega
        have e3 : dep on [41] = some (on - 1) := by
          rw [dep, if_neg (by decide), if_pos rfl, if_neg hne]; rfl
        exact DM.leaf run txt on 41 (on - 1) (by assumption) (by assumption) (List.mem_cons_of_mem _ (List.mem_cons_self ..)) (List.mem_cons_of_mem _ (List.mem_cons_of_mem _ (List.mem_cons_self ..))) rfl rfl rfl rfl rfl rfl (S_app _ _) (by rw [q5, q6, if_pos rfl, if_neg Bool.false_ne_true]; omega) h6 h8 e3 (by first | omega | (dsimp only; omega)) rfl
  · intro s₂ hI'
    obtain ⟨m', run, txt, on, n', tr', tt', to', FA, h1, h2, h3, h4, h5, NA, h6, h7, h8, h9, h10⟩ := hI'
    have em := maps_head [(Str.ofString "run", .str (S run) tr'), (Str.ofString "text", .str (S txt) tt'), (Str.ofString "on", .int (on : Nat) to')] (by
      intro p hp
      simp only [List.mem_cons, List.not_mem_nil, or_false] at hp
      rcases hp with rfl | rfl | rfl
      · exact h3
      · exact h4
      · exact h5)
    obtain ⟨hpA, gA, dA, kA, oA⟩ := s₂
    dsimp only at *
    intro hTk9
    rw [em] at FA
    subst h10
    clear em F4 NO rgX up3
    have hon := dep_le _ _ _ (by omega) h8
    (try k_fold)
    k_steps
    have efl : ∀ n : Nat, (List.replicate n [41]).flatten = List.replicate n 41 := fun n => by
      induction n with
      | zero => rfl
      | succ n ih => rw [List.replicate_succ, List.flatten_cons, ih]; rfl
    rw [efl]
    refine PyProof.Rows.add_str ?_ (by rw [S_len, S_len, List.length_replicate, sizeLine_eq]; omega)
    intro tq1 tq2
    rw [S_app]
    (try k_fold)
    k_steps
    exact h _ run txt on _ _ _ (Kp.of (by assumption) (by first | omega | (dsimp only; omega))) h6 h7 h8 ⟨_, ((by assumption : News s.heap s.heap.objs.size _ [_, (O, listOf own n')]) _ (List.mem_cons_self ..)).1, rfl, _, rfl⟩
end Mine
namespace Mine
section
variable {prog : Program} {w : World} {A : Around} {s : Shared} {K : Frag}
/-- entering a function that has cells -/
theorem enter_fnC {p : Program} {loose : List Str} {mean : ExcName → Option Value} {mg mb : Str → Option Value}
    {R : Result → Shared → Prop} {name qual : Str} {params : Arguments} {body : List Stmt} {scope : Scope} {dV kV doc pm cdv ct oc : Value} {an od : Option Addr} {osl : Array (Option Value)} {f : Addr} {args : Args} {binds : List (Str × Value)}
    (X : K.In s.heap) (T : Top p loose mean mg mb s.heap)
    (ho : K.lookup f = some ⟨oc, od, .func (fnOf name qual params body scope dV kV doc pm an cdv ct), osl⟩) (hcd : codeIn K cdv qual = true) (hroom : A.depth < recursionLimit)
    (hbind : BindsTo s (fnOf name qual params body scope dV kV doc pm an cdv ct) args binds) (hkind : (binds.all fun y => scope.names.lookup y.1 == some .local || scope.names.lookup y.1 == some .cell) = true)
    (hnd : ((cellsFrom 0 scope.names []).map (·.1)).Nodup)
    (h : ∀ h₁ tk cells, Fr s.heap s.heap.objs.size h₁ (bindL (envOfC qual scope s.heap.objs.size f cdv).kindOf binds fun _ => none) → News s.heap s.heap.objs.size h₁ cells →
      CellsAre (bindC (envOfC qual scope s.heap.objs.size f cdv).kindOf binds fun _ => none) (cellsFrom (s.heap.objs.size + 1) scope.names []) cells → s.toks ≤ tk →
      wpAny (model prog w) (A.deeper (envOfC qual scope s.heap.objs.size f cdv)) (execs body (envOfC qual scope s.heap.objs.size f cdv))
        (fun fl s' => R (.ok (.ret (match fl with | .ret v => v | _ => .none))) s')
        (fun _ _ => False)
        { s with heap := h₁, toks := tk })
    (hco : scope.isCoroutine = false) (hgen : scope.isGenerator = false) (hk : scope.kind = .function) : codeAny (model prog w) A (.call (.ref f) args) R s := by
  refine codeAny_call_function (fd := fnOf name qual params body scope dV kV doc pm an cdv ct) hroom (X _ _ ho) rfl hco hgen rfl (codeRec_of X hcd) (hbind _ _ _ _ ?_)
  refine wpAny_tok (wpAny_newFunctionEnv_cells hk (kindsX hkind _) fun env' he s' x => ?_)
  intro htk
  subst he
  refine ⟨T.nolimit.keeps x.toInCall.keep, codeAny_func ?_⟩
  obtain ⟨h₁, tk, rfl, _⟩ := x.done
  have hk₁ := x.toInCall.keep
  obtain ⟨cells, NC, Y⟩ := Cl.news (h₀ := s.heap) (Nat.le_refl _) fun n c hm => ⟨x.cell n c (lookup_of_mem_nodup (cellsFrom_names scope.names 0 (s.heap.objs.size + 1) [] [] rfl ▸ hnd) hm), x.above n c hm⟩
  exact wpAny_mono (h h₁ tk cells ⟨x.toInCall.ns, fun b o e => hk₁ b o e, Nat.le_refl _⟩ NC Y htk) (fun fl s' hl => hl) fun _ _ y => y.elim
end
end Mine
namespace Mine
theorem cells_cons {cm : Str → Option Value} {n : Str} {c : Addr} {r : List (Str × Addr)} {cells : XS} (x : CellsAre cm ((n, c) :: r) cells) : ∃ o cells', cells = (c, o) :: cells' ∧ o.data = .cell (cm n) ∧ CellsAre cm r cells' := by
  cases x with | cons h1 r => exact ⟨_, _, rfl, h1, r⟩
theorem cells_nil {cm : Str → Option Value} {cells : XS} (x : CellsAre cm [] cells) : cells = [] := by cases x; rfl
theorem cells5 {cm : Str → Option Value} {n1 n2 n3 n4 n5 : Str} {c1 c2 c3 c4 c5 : Addr} {cells : XS} (x : CellsAre cm [(n1, c1), (n2, c2), (n3, c3), (n4, c4), (n5, c5)] cells) :
    ∃ o1 o2 o3 o4 o5, cells = [(c1, o1), (c2, o2), (c3, o3), (c4, o4), (c5, o5)] ∧ o1.data = .cell (cm n1) ∧ o2.data = .cell (cm n2) ∧ o3.data = .cell (cm n3) ∧ o4.data = .cell (cm n4) ∧ o5.data = .cell (cm n5) := by
  obtain ⟨o1, _, rfl, d1, x⟩ := cells_cons x
  obtain ⟨o2, _, rfl, d2, x⟩ := cells_cons x
  obtain ⟨o3, _, rfl, d3, x⟩ := cells_cons x
  obtain ⟨o4, _, rfl, d4, x⟩ := cells_cons x
  obtain ⟨o5, _, rfl, d5, x⟩ := cells_cons x
  obtain rfl := cells_nil x
  exact ⟨o1, o2, o3, o4, o5, rfl, d1, d2, d3, d4, d5⟩
end Mine
section
open Sem (wp)
namespace Mine
section
variable {prog : Program} {w : World} {A : Around} {E : Value → Shared → Prop} {s : Shared} {env : Env}
theorem name_cell {x : Str} {p : Pos} {c : Addr} {v : Value} {Q : Value → Shared → Prop} (hk : env.scope.kind = .function) (hl : env.kindOf x = some .cell) (hd : (x == ("__debug__" : Str)) = false)
    (hc : env.cells.lookup x = some c) (hv : s.heap.IsCell c (some v)) (h : Q v s) : wpAny (model prog w) A (eval (.Name x p) env) Q E s :=
  wpAny_Name (wpAny_loadName_cell hk hl hc hv h) hd
/-- reading gives a number and changes nothing -/
def Gives (prog : Program) (w : World) (A : Around) (env : Env) (e : Expr) (s : Shared) (v : Value) : Prop := ∀ (Q : Value → Shared → Prop) (E : Value → Shared → Prop), Q v s → wpAny (model prog w) A (eval e env) Q E s
theorem lt_lt {l r₁ r₂ : Expr} {pos : Pos} {a b c : Int} {ta tb tc : Tok} {Q : Bool → Shared → Prop} (h1 : Gives prog w A env l s (.int a ta)) (h2 : Gives prog w A env r₁ s (.int b tb)) (h3 : Gives prog w A env r₂ s (.int c tc))
    (hm : lastMarks [.Lt, .Lt] [r₁, r₂] = false) {whole : Sem Value} (h : Q (decide (a < b) && decide (b < c)) s) : wpAny (model prog w) A (PySem.isTrue (.Compare l [.Lt, .Lt] [r₁, r₂] pos) env whole) Q E s := by
  refine isTrue_chain (h1 _ _ ?_) hm
  refine test_link (h2 _ _ ?_)
  refine PyProof.Rows.lt_int (wpAny_truthy_bool ?_)
  by_cases hab : a < b
  · rw [decide_eq_true hab, if_pos rfl]
    refine test_last (h3 _ _ ?_)
    refine PyProof.Rows.lt_int (wpAny_truthy_bool ?_)
    rw [decide_eq_true hab, Bool.true_and] at h
    exact h
  · rw [decide_eq_false hab, if_neg Bool.false_ne_true]
    rw [decide_eq_false hab, Bool.false_and] at h
    exact h
theorem lt_le {l r₁ r₂ : Expr} {pos : Pos} {a b c : Int} {ta tb tc : Tok} {Q : Bool → Shared → Prop} (h1 : Gives prog w A env l s (.int a ta)) (h2 : Gives prog w A env r₁ s (.int b tb)) (h3 : Gives prog w A env r₂ s (.int c tc))
    (hm : lastMarks [.Lt, .LtE] [r₁, r₂] = false) {whole : Sem Value} (h : Q (decide (a < b) && decide (b ≤ c)) s) : wpAny (model prog w) A (PySem.isTrue (.Compare l [.Lt, .LtE] [r₁, r₂] pos) env whole) Q E s := by
  refine isTrue_chain (h1 _ _ ?_) hm
  refine test_link (h2 _ _ ?_)
  refine PyProof.Rows.lt_int (wpAny_truthy_bool ?_)
  by_cases hab : a < b
  · rw [decide_eq_true hab, if_pos rfl]
    refine test_last (h3 _ _ ?_)
    refine PyProof.Rows.le_int (wpAny_truthy_bool ?_)
    rw [decide_eq_true hab, Bool.true_and] at h
    exact h
  · rw [decide_eq_false hab, if_neg Bool.false_ne_true]
    rw [decide_eq_false hab, Bool.false_and] at h
    exact h
end
end Mine
end
section
open Sem (wp)
namespace Mine
theorem paired_ints {f : Nat → Int} : ∀ {l : List Nat} {vs : List Value}, Paired (fun q v => ∃ t, v = .int (f q) t) l vs → IntsAre vs (l.map f)
  | _, _, .nil => .nil
  | _, _, .cons h r => by
    obtain ⟨t, rfl⟩ := h
    exact .cons _ _ (paired_ints r)
theorem filter_getD {α β : Type} (d : α) (P : α → Bool) (f : α → β) : ∀ (l : List α), ((List.range l.length).filter fun q => P (l.getD q d)).map (fun q => f (l.getD q d)) = (l.filter P).map f
  | [] => rfl
  | x :: r => by
    have ih := filter_getD d P f r
    have e1 : ((fun q => P ((x :: r).getD q d)) ∘ Nat.succ) = fun q => P (r.getD q d) := funext fun q => by
      show P ((x :: r).getD (q + 1) d) = _
      rw [List.getD_cons_succ]
    have e2 : (List.map Nat.succ (List.filter (fun q => P (r.getD q d)) (List.range r.length))).map (fun q => f ((x :: r).getD q d)) = (r.filter P).map f := by
      rw [← ih, List.map_map]
      refine List.map_congr_left fun q _ => ?_
      show f ((x :: r).getD (q + 1) d) = _
      rw [List.getD_cons_succ]
    rw [List.length_cons, List.range_succ_eq_map, List.filter_cons, List.filter_map, e1, List.getD_cons_zero, List.filter_cons]
    by_cases hp : P x = true
    · rw [if_pos hp, if_pos hp, List.map_cons, e2, List.map_cons, List.getD_cons_zero]
    · rw [if_neg hp, if_neg hp, e2]
end Mine
end
section
open Sem (wp)
namespace Mine
/-- a list object of pairs of numbers -/
def PairList (h : Heap) (pp : Addr) (pr : List (Nat × Nat)) : Prop :=
  ∃ items : Array Value, h.IsList pp items ∧ items.size = pr.length ∧ ∀ j, j < items.size → ∃ T t u, items[j]? = some (.ref T) ∧ h.IsTuple T #[.int ((pr.getD j (0, 0)).1 : Nat) t, .int ((pr.getD j (0, 0)).2 : Nat) u]
theorem PairList.keeps {h h' : Heap} {pp : Addr} {pr : List (Nat × Nat)} (x : PairList h pp pr) (k : ∀ b o, h.get? b = some o → h'.get? b = some o) : PairList h' pp pr := by
  obtain ⟨items, h1, h2, h3⟩ := x
  refine ⟨items, h1.at fun o e => k _ _ e, h2, fun j hj => ?_⟩
  obtain ⟨T, t, u, e, o, ho, r⟩ := h3 j hj
  exact ⟨T, t, u, e, o, k _ _ ho, r⟩
def refsOf (items : Array Value) : List Addr := items.toList.filterMap fun v => match v with | .ref T => some T | _ => none
theorem refs_mem {items : Array Value} {j : Nat} {T : Addr} (h : items[j]? = some (.ref T)) : T ∈ refsOf items := by
  unfold refsOf
  rw [List.mem_filterMap]
  exact ⟨.ref T, by rw [Array.mem_toList_iff]; exact Array.mem_of_getElem? h, rfl⟩
section
variable {prog : Program} {w : World} {A : Around} {E : Value → Shared → Prop} {s : Shared} {env : Env}
/-- from the list of pairs on: the comprehension of those first numbers that pass the test -/
theorem pairs_comp {iter c : Expr} {p1 p2 p3 p4 pos : Pos} {scope : Scope} {cl : List (Str × Addr)} {pp : Addr} {pr : List (Nat × Nat)} {RR : Value → Addr → Result → Shared → Prop} (hh : A.handled = none) (hp : PairList s.heap pp pr) (hn : pr.length ≤ 100000) (P : Nat × Nat → Bool)
    (hcell : ∀ y ∈ scope.names, y.2 ≠ .cell) (hkind : scope.kind = .function) (hi : ∀ C, (compEnvC scope cl C env).kindOf (Str.ofString "i") = some .local) (hj : ∀ C, (compEnvC scope cl C env).kindOf (Str.ofString "j") = some .local)
    (test : ∀ q C (s' : Shared) m t u, s'.heap.Ns C m → m (Str.ofString "i") = some (.int (q : Nat × Nat).1 t) → m (Str.ofString "j") = some (.int (q.2 : Nat) u) → (∀ b o, s.heap.get? b = some o → s'.heap.get? b = some o) →
      wpAny (model prog w) A (PySem.isTrue c (compEnvC scope cl C env) (eval c (compEnvC scope cl C env))) (fun ok s'' => ok = P q ∧ Kp s' s'') (fun _ _ => False) s')
    (h : ∀ D C items nn s' mC, (∀ b o, s.heap.get? b = some o → s'.heap.get? b = some o) → s.heap.get? D = none → s.heap.get? C = none → C ≠ D → s'.heap.Ns C mC → s'.heap.get? D = some (listOf items nn) → IntsAre items.toList (((pr.filter P).map (·.1)).map fun (i : Nat) => (i : Int)) → s'.os = s.os → s.toks ≤ s'.toks → RR (.ref D) C (.ok .next) s') :
    wpAny (model prog w) A (pyIter (.ref pp)) (fun it s₂ => wpAny (model prog w) A (newList []) (fun acc s₃ => wpAny (model prog w) A (newFunctionEnv scope env.globals cl [] env.qual none .none (some env)) (fun cenv s₄ =>
      codeAny (model prog w) A (.compStart (.ListComp (.Name (Str.ofString "i") p1) [⟨.Tuple [.Name (Str.ofString "i") p2, .Name (Str.ofString "j") p3] 0 p4, iter, [c], 0⟩] scope pos) 0 it acc { cenv with scope := relabel scope env }) (RR acc cenv.locals) s₄) E s₃) E s₂) E s := by
  obtain ⟨items, h1, h2, h3⟩ := hp
  refine wpAny_pyIter_list h1 ?_
  have up : ∀ b o, s.heap.get? b = some o → (s.heap.push { cls := .type "list_iterator", data := .fields #[.ref pp, .int 0 0] }).get? b = some o := fun b o e => Heap.get?_push_of_some _ e
  have lp : pp < s.heap.objs.size := by obtain ⟨o, q, _⟩ := h1; exact Heap.lt_size q
  have nI : s.heap.objs.size ∉ refsOf items := fun q => by
    unfold refsOf at q
    obtain ⟨v, hv, e⟩ := List.mem_filterMap.mp q
    rw [Array.mem_toList_iff, Array.mem_iff_getElem?] at hv
    obtain ⟨j, hj'⟩ := hv
    obtain ⟨hlt, _⟩ := Array.getElem?_eq_some_iff.mp hj'
    obtain ⟨T, t, u, e', o, ho, _⟩ := h3 j hlt
    rw [hj'] at e'
    cases e'
    cases e
    exact Nat.lt_irrefl _ (Heap.lt_size ho)
  have W := Src.pairs (prog := prog) (w := w) hh s.heap.objs.size pp (Nat.ne_of_lt lp) items pr (Str.ofString "i") (Str.ofString "j") (by decide) p2 p3 p4 0 (refsOf items) nI (fun i hi => by
    obtain ⟨T, t, u, e, _⟩ := h3 i hi
    rw [Array.getElem?_eq_getElem hi] at e
    exact ⟨T, Option.some.inj e, refs_mem (by rw [Array.getElem?_eq_getElem hi]; exact e)⟩) h2
  refine comp_list W (fun q => P (pr.getD q (0, 0))) (fun q v => ∃ t, v = .int ((pr.getD q (0, 0)).1 : Nat) t) (by rw [h2]; exact hn) hcell hkind (fun C => ⟨hi C, hj C, hkind⟩) ⟨⟨_, Heap.get?_push_size _ rfl, rfl, rfl⟩, h1.push _, fun j T hj' => ?_⟩ ?_ ?_ ?_ ?_
  · obtain ⟨hlt, _⟩ := Array.getElem?_eq_some_iff.mp hj'
    obtain ⟨T', t, u, e', hT⟩ := h3 j hlt
    rw [hj'] at e'
    cases e'
    exact ⟨t, u, hT.push _⟩
  · intro b hb
    rw [Heap.size_push]
    rcases List.mem_cons.mp hb with rfl | hb
    · exact Nat.lt_succ_self _
    · rcases List.mem_cons.mp hb with rfl | hb
      · exact Nat.lt_succ_of_lt lp
      · unfold refsOf at hb
        obtain ⟨v, hv, e⟩ := List.mem_filterMap.mp hb
        rw [Array.mem_toList_iff, Array.mem_iff_getElem?] at hv
        obtain ⟨j, hj'⟩ := hv
        obtain ⟨hlt, _⟩ := Array.getElem?_eq_some_iff.mp hj'
        obtain ⟨T, t, u, e', o, ho, _⟩ := h3 j hlt
        rw [hj'] at e'
        cases e'
        cases e
        exact Nat.lt_succ_of_lt (Heap.lt_size ho)
  · rintro i C s' m hlt hC ⟨t, u, e1, e2⟩ kp os tk
    have kp' : ∀ b o, s.heap.get? b = some o → s'.heap.get? b = some o := fun b o q => kp b o (fun e => by rw [List.mem_singleton.mp e] at q; exact Nat.lt_irrefl _ (Heap.lt_size q)) (up b o q)
    exact wpAny_tests_one (test (pr.getD i (0, 0)) C s' m t u hC e1 e2 kp')
  · rintro i C s' m hlt hp' hC ⟨t, u, e1, e2⟩ kp os tk
    exact name_loc hkind (hi C) (by decide) hC e1 ⟨⟨t, rfl⟩, Kp.refl⟩
  · intro D C items' nn s' mC kp hDn hCn hCD hns hD hP os tk
    have kp' : ∀ b o, s.heap.get? b = some o → s'.heap.get? b = some o := fun b o q => kp b o (fun e => by rw [List.mem_singleton.mp e] at q; exact Nat.lt_irrefl _ (Heap.lt_size q)) (up b o q)
    have nn' : ∀ a, (s.heap.push { cls := .type "list_iterator", data := .fields #[.ref pp, .int 0 0] }).get? a = none → s.heap.get? a = none := fun a ha => by
      cases q : s.heap.get? a with
      | none => rfl
      | some o => rw [up a o q] at ha; cases ha
    refine h D C items' nn s' mC kp' (nn' D hDn) (nn' C hCn) hCD hns hD ?_ os tk
    have := paired_ints hP
    rw [h2, filter_getD (0, 0) P (fun q => ((q.1 : Nat) : Int)) pr] at this
    rw [List.map_map]
    exact this
end
end Mine
end
namespace Mine
/-- the quoting within an envelope -/
def inQ (t : List Nat) : List Nat := dotL false (crl false t)
def wrapL (d : Nat) (t : List Nat) : List Nat := List.replicate d 46 ++ [61, 34] ++ escL t ++ [34]
theorem escL_cons (c : Nat) (r : List Nat) : escL (c :: r) = (if c = 92 ∨ c = 34 then [92, c] else [c]) ++ escL r := by simp [escL]
theorem escL_nil : escL [] = [] := rfl
theorem crl_esc : ∀ (t : List Nat) (b : Bool), crl b (escL t) = escL (crl b t)
  | [], b => by cases b <;> rfl
  | c :: r, b => by
    rw [escL_cons]
    have ihf := crl_esc r false
    have iht := crl_esc r true
    by_cases h : c = 92 ∨ c = 34
    · rw [if_pos h]
      have e1 : c ≠ 10 := by rcases h with rfl | rfl <;> decide
      have e2 : c ≠ 13 := by rcases h with rfl | rfl <;> decide
      show crl b (92 :: c :: escL r) = escL (crl b (c :: r))
      simp only [crl, if_neg e1, if_neg e2, show ¬ (92 : Nat) = 10 by decide, show ¬ (92 : Nat) = 13 by decide, if_false, ihf]
      rw [escL_cons, if_pos h]; rfl
    · rw [if_neg h]
      show crl b (c :: escL r) = escL (crl b (c :: r))
      simp only [crl]
      by_cases e1 : c = 10
      · subst e1
        simp only [if_true]
        cases b with
        | true => simp only [if_true]; exact ihf
        | false =>
          simp only [Bool.false_eq_true, if_false]
          rw [escL_cons, escL_cons, ihf]; rfl
      · by_cases e2 : c = 13
        · subst e2
          simp only [if_neg e1, if_true]
          rw [escL_cons, escL_cons, iht]; rfl
        · simp only [if_neg e1, if_neg e2]
          rw [escL_cons, if_neg h, ihf]; rfl
theorem dot_esc : ∀ (t : List Nat) (b : Bool), dotL b (escL t) = escL (dotL b t)
  | [], b => by cases b <;> rfl
  | c :: r, b => by
    rw [escL_cons]
    by_cases h : c = 92 ∨ c = 34
    · rw [if_pos h]
      have e1 : c ≠ 10 := by rcases h with rfl | rfl <;> decide
      have e2 : c ≠ 46 := by rcases h with rfl | rfl <;> decide
      have ih := dot_esc r false
      have e3 : (c == 10) = false := beq_eq_false_iff_ne.mpr e1
      show dotL b (92 :: c :: escL r) = escL (dotL b (c :: r))
      simp only [dotL, e2, and_false, if_false, e3, show ((92 : Nat) == 10) = false by decide, show ¬ (92 : Nat) = 46 by decide, ih, escL_append]
      have e4 : escL [c] = [92, c] := by rw [escL_cons, if_pos h]; rfl
      rw [e4]; rfl
    · rw [if_neg h]
      have ih := dot_esc r (c == 10)
      show dotL b (c :: escL r) = escL (dotL b (c :: r))
      simp only [dotL, ih, escL_append]
      congr 1
      split
      · rfl
      · rw [escL_cons, if_neg h]; rfl
theorem crl_snoc (c : Nat) (h1 : c ≠ 10) (h2 : c ≠ 13) : ∀ (t : List Nat) (b : Bool), crl b (t ++ [c]) = crl b t ++ [c]
  | [], b => by simp [crl, h1, h2]
  | d :: r, b => by
    have ihf := crl_snoc c h1 h2 r false
    have iht := crl_snoc c h1 h2 r true
    show crl b (d :: (r ++ [c])) = _
    simp only [crl]
    split
    · split
      · exact ihf
      · rw [ihf]; rfl
    · split
      · rw [iht]; rfl
      · rw [ihf]; rfl
theorem dot_snoc (c : Nat) (h : c ≠ 46) : ∀ (t : List Nat) (b : Bool), dotL b (t ++ [c]) = dotL b t ++ [c]
  | [], b => by simp [dotL, h]
  | d :: r, b => by
    show dotL b (d :: (r ++ [c])) = _
    simp only [dotL, dot_snoc c h r, List.append_assoc]
theorem crl_dots : ∀ (d : Nat) (x : List Nat), crl false (List.replicate d 46 ++ x) = List.replicate d 46 ++ crl false x
  | 0, x => rfl
  | d + 1, x => by
    show crl false (46 :: (List.replicate d 46 ++ x)) = 46 :: (List.replicate d 46 ++ crl false x)
    simp only [crl, show ¬ (46 : Nat) = 10 by decide, show ¬ (46 : Nat) = 13 by decide, if_false, crl_dots d x]
theorem dot_dots : ∀ (d : Nat) (x : List Nat), dotL false (List.replicate d 46 ++ x) = List.replicate d 46 ++ dotL false x
  | 0, x => rfl
  | d + 1, x => by
    show dotL false (46 :: (List.replicate d 46 ++ x)) = 46 :: (List.replicate d 46 ++ dotL false x)
    simp only [dotL, Bool.false_eq_true, false_and, if_false, show ((46 : Nat) == 10) = false by decide, dot_dots d x]
    rfl
theorem crl_wrap (d : Nat) (t : List Nat) : crl false (wrapL d t) = wrapL d (crl false t) := by
  unfold wrapL
  rw [crl_snoc 34 (by decide) (by decide), List.append_assoc, List.append_assoc, crl_dots]
  show (List.replicate d 46 ++ crl false (61 :: 34 :: escL t)) ++ [34] = _
  simp only [crl, show ¬ (61 : Nat) = 10 by decide, show ¬ (61 : Nat) = 13 by decide, show ¬ (34 : Nat) = 10 by decide, show ¬ (34 : Nat) = 13 by decide, if_false, crl_esc]
  simp
theorem dotf_wrap (d : Nat) (t : List Nat) : dotL false (wrapL d t) = wrapL d (dotL false t) := by
  unfold wrapL
  rw [dot_snoc 34 (by decide), List.append_assoc, List.append_assoc, dot_dots]
  show (List.replicate d 46 ++ dotL false (61 :: 34 :: escL t)) ++ [34] = _
  simp only [dotL, Bool.false_eq_true, false_and, if_false, show ((61 : Nat) == 10) = false by decide, show ((34 : Nat) == 10) = false by decide, dot_esc]
  simp
theorem dott_wrap (d : Nat) (t : List Nat) : dotL true (wrapL (d + 1) t) = wrapL (d + 2) (dotL false t) := by
  have h := dotf_wrap d t
  have e : ∀ (k : Nat) (z : List Nat), wrapL (k + 1) z = 46 :: wrapL k z := fun k z => rfl
  rw [e, e, e]
  simp only [dotL, if_true, and_self, show ((46 : Nat) == 10) = false by decide, h]
  rfl
theorem quote_wrap (d : Nat) (t : List Nat) : quoteL (wrapL (d + 1) t) = wrapL (d + 2) (inQ t) := by
  unfold quoteL
  rw [crl_wrap, dott_wrap]; rfl
theorem inQ_wrap (d : Nat) (t : List Nat) : inQ (wrapL d t) = wrapL d (inQ t) := by
  unfold inQ
  rw [crl_wrap, dotf_wrap]
theorem fmt_wrap (t : List Nat) : fmtL t = wrapL 1 t := rfl
end Mine
namespace Mine
/-- the units of an escaped text -/
def ue : Nat → List Nat → List (Nat × List Nat)
  | _, [] => []
  | i, c :: r => if c = 92 ∨ c = 34 then (i + 1, [92, c]) :: ue (i + 2) r else (i, [c]) :: ue (i + 1) r
theorem units_esc : ∀ (t : List Nat) (i : Nat) (x : List Nat), units i false (escL t ++ x) = ue i t ++ units (i + (escL t).length) false x
  | [], i, x => rfl
  | c :: r, i, x => by
    rw [escL_cons, ue]
    by_cases h : c = 92 ∨ c = 34
    · rw [if_pos h, if_pos h]
      show units i false (92 :: c :: (escL r ++ x)) = _
      rw [units, if_pos rfl, units, units_esc r]
      show (i + 1, [92, c]) :: (ue (i + 2) r ++ units (i + 1 + 1 + (escL r).length) false x) = (i + 1, [92, c]) :: (ue (i + 2) r ++ units (i + (escL r).length.succ.succ) false x)
      have : i + 1 + 1 + (escL r).length = i + (escL r).length.succ.succ := by omega
      rw [this]
    · rw [if_neg h, if_neg h]
      have h92 : ¬ c = 92 := fun e => h (.inl e)
      show units i false (c :: (escL r ++ x)) = _
      rw [units, if_neg h92, units_esc r]
      show (i, [c]) :: (ue (i + 1) r ++ units (i + 1 + (escL r).length) false x) = (i, [c]) :: (ue (i + 1) r ++ units (i + (escL r).length.succ) false x)
      have : i + 1 + (escL r).length = i + (escL r).length.succ := by omega
      rw [this]
theorem ue_last : ∀ (t : List Nat) (i : Nat), (ue i t).map (fun u => lastL u.2) = t
  | [], _ => rfl
  | c :: r, i => by
    rw [ue]
    split
    · rw [List.map_cons, ue_last r]; rfl
    · rw [List.map_cons, ue_last r]; rfl
theorem ue_free : ∀ (t : List Nat) (i : Nat), ∀ u ∈ ue i t, u.2 ≠ [34]
  | [], _ => fun _ h => nomatch h
  | c :: r, i => by
    intro u hu
    rw [ue] at hu
    split at hu
    · rcases List.mem_cons.mp hu with rfl | hu
      · simp
      · exact ue_free r _ u hu
    · rename_i h
      rcases List.mem_cons.mp hu with rfl | hu
      · simp only [ne_eq, List.cons.injEq, and_true]; exact fun e => h (.inr e)
      · exact ue_free r _ u hu
theorem unesc_esc (t : List Nat) : unescL (escL t) = t := by
  have h := units_esc t 0 []
  rw [List.append_nil] at h
  unfold unescL
  rw [h]
  have e : units (0 + (escL t).length) false [] = [] := rfl
  rw [e, List.append_nil, ue_last]
/-- the units of a text without backslashes -/
def up : Nat → List Nat → List (Nat × List Nat)
  | _, [] => []
  | i, c :: r => (i, [c]) :: up (i + 1) r
theorem units_plain : ∀ (a : List Nat) (i : Nat) (x : List Nat), 92 ∉ a → units i false (a ++ x) = up i a ++ units (i + a.length) false x
  | [], i, x, _ => rfl
  | c :: r, i, x, h => by
    have h92 : ¬ c = 92 := fun e => h (e ▸ List.mem_cons_self ..)
    show units i false (c :: (r ++ x)) = _
    rw [units, if_neg h92, units_plain r (i + 1) x fun m => h (List.mem_cons_of_mem _ m)]
    show (i, [c]) :: (up (i + 1) r ++ units (i + 1 + r.length) false x) = (i, [c]) :: (up (i + 1) r ++ units (i + (r.length + 1)) false x)
    have : i + 1 + r.length = i + (r.length + 1) := by omega
    rw [this]
theorem up_free : ∀ (a : List Nat) (i : Nat), 34 ∉ a → ∀ u ∈ up i a, u.2 ≠ [34]
  | [], _, _ => fun _ h => nomatch h
  | c :: r, i, h => by
    intro u hu
    rw [up] at hu
    rcases List.mem_cons.mp hu with rfl | hu
    · simp only [ne_eq, List.cons.injEq, and_true]; exact fun e => h (e ▸ List.mem_cons_self ..)
    · exact up_free r _ (fun m => h (List.mem_cons_of_mem _ m)) u hu
theorem stripGo_skip (l : List Nat) : ∀ (us r : List (Nat × List Nat)) (st : Nat) (op : Option Nat), (∀ u ∈ us, u.2 ≠ [34]) → stripGo l (us ++ r) st op = stripGo l r st op
  | [], _, _, _, _ => rfl
  | (p, y) :: us, r, st, op, h => by
    have h0 := h _ (List.mem_cons_self ..)
    show stripGo l ((p, y) :: (us ++ r)) st op = _
    rw [stripGo.eq_def]
    dsimp only
    rw [if_neg h0]
    exact stripGo_skip l us r st op fun u hu => h u (List.mem_cons_of_mem _ hu)
theorem strip_wrap (a t : List Nat) (h92 : 92 ∉ a) (h34 : 34 ∉ a) : stripL (a ++ [34] ++ escL t ++ [34]) = a := by
  have hm : 34 ∈ a ++ [34] ++ escL t ++ [34] := by simp
  unfold stripL
  rw [if_pos hm]
  have e1 : units 0 false (a ++ [34] ++ escL t ++ [34]) = up 0 a ++ ((a.length, [34]) :: (ue (a.length + 1) t ++ [(a.length + 1 + (escL t).length, [34])])) := by
    rw [List.append_assoc, List.append_assoc, units_plain a 0 _ h92]
    congr 1
    show units (0 + a.length) false (34 :: (escL t ++ [34])) = _
    rw [units, if_neg (by decide), units_esc]
    have e : ∀ i, units i false [34] = [(i, [34])] := fun i => by
      rw [units, if_neg (by decide)]; rfl
    rw [e, Nat.zero_add]
  rw [e1, stripGo_skip _ _ _ _ _ (up_free a 0 h34)]
  generalize hl : a ++ [34] ++ escL t ++ [34] = l
  rw [stripGo.eq_def]
  dsimp only
  rw [if_pos rfl, stripGo_skip _ _ _ _ _ (ue_free t _), stripGo.eq_def]
  dsimp only
  rw [if_pos rfl, stripGo.eq_def]
  dsimp only
  have hlen : l.length = a.length + 1 + (escL t).length + 1 := by rw [← hl]; simp; omega
  have hge : ¬ (a.length + 1 + (escL t).length + 1 < l.length) := by omega
  rw [if_neg hge, List.append_nil, List.drop_zero, Nat.sub_zero]
  split
  · rw [← hl, List.append_assoc, List.append_assoc, List.take_left']
    rfl
  · rename_i h
    have : a.length = 0 := by omega
    rw [List.eq_nil_of_length_eq_zero this]
theorem wrap_form (d : Nat) (t : List Nat) : wrapL d t = (List.replicate d 46 ++ [61]) ++ [34] ++ escL t ++ [34] := by
  unfold wrapL
  simp
theorem strip_wrapL (d : Nat) (t : List Nat) : stripL (wrapL d t) = List.replicate d 46 ++ [61] := by
  rw [wrap_form]
  refine strip_wrap _ _ ?_ ?_
  · intro h
    rcases List.mem_append.mp h with h | h
    · have := List.eq_of_mem_replicate h; omega
    · simp at h
  · intro h
    rcases List.mem_append.mp h with h | h
    · have := List.eq_of_mem_replicate h; omega
    · simp at h
theorem within_wrap (d : Nat) (t : List Nat) : withinL (wrapL d t) = escL t := by
  unfold withinL
  rw [strip_wrapL]
  have e : wrapL d t = (List.replicate d 46 ++ [61, 34]) ++ (escL t ++ [34]) := by unfold wrapL; simp
  have h1 : (List.replicate d 46 ++ [61]).length + 1 = (List.replicate d 46 ++ [61, 34]).length := by simp
  rw [h1, e, List.drop_left', List.length_append]
  · have : (List.replicate d 46 ++ [61, 34]).length + (escL t ++ [34]).length - 1 - (List.replicate d 46 ++ [61, 34]).length = (escL t).length := by
      rw [List.length_append (as := escL t), List.length_singleton]; omega
    rw [this, List.take_left']
    rfl
  · rfl
theorem open_wrap (d : Nat) (t : List Nat) : unescL (withinL (wrapL d t)) = t := by rw [within_wrap, unesc_esc]
end Mine
namespace Mine
/-- the envelopes around a core, the first one innermost; each with its dots -/
def nest : List Nat → List Nat → List Nat
  | [], t => t
  | d :: r, t => nest r (wrapL d t)
theorem nest_snoc : ∀ (ds : List Nat) (d : Nat) (t : List Nat), nest (ds ++ [d]) t = wrapL d (nest ds t)
  | [], _, _ => rfl
  | e :: r, d, t => nest_snoc r d (wrapL e t)
theorem nest_in : ∀ (ds : List Nat) (t : List Nat), inQ (nest ds t) = nest ds (inQ t)
  | [], _ => rfl
  | e :: r, t => by rw [nest, nest_in r, inQ_wrap, nest]
theorem step_open (ds : List Nat) (t : List Nat) : stepL 40 (nest ds t) = nest (ds ++ [1]) t := by
  rw [nest_snoc, stepL, if_pos rfl, fmt_wrap]
theorem step_close (ds : List Nat) (d : Nat) (t : List Nat) : stepL 41 (nest (ds ++ [d]) t) = nest ds t := by
  rw [nest_snoc, stepL, if_neg (by decide), if_neg (by decide), open_wrap]
theorem step_send0 (t : List Nat) : stepL 111 (nest [] t) = nest [] (quoteL t) := by
  rw [stepL, if_neg (by decide), if_pos rfl]; rfl
theorem step_send (ds : List Nat) (d : Nat) (t : List Nat) : stepL 111 (nest (ds ++ [d + 1]) t) = nest (ds ++ [d + 2]) (inQ t) := by
  rw [nest_snoc, stepL, if_neg (by decide), if_pos rfl, quote_wrap, nest_in, nest_snoc]
/-- the places of the envelopes that are on, and where each sending stood -/
def stepT (p c : Nat) (σ : List Nat × List Int) : List Nat × List Int :=
  if c = 40 then (σ.1 ++ [p], σ.2) else if c = 41 then (σ.1.dropLast, σ.2) else (σ.1, σ.2 ++ [(σ.1.getLast?.map fun i => (i : Int)).getD (-1)])
def statesT : Nat → List Nat → List Nat × List Int → List (List Nat × List Int)
  | _, [], σ => [σ]
  | p, c :: r, σ => σ :: statesT (p + 1) r (stepT p c σ)
/-- what is read off a state: its envelopes with their dots -/
def dotsT (σ : List Nat × List Int) : List Nat := σ.1.map fun (i : Nat) => 1 + σ.2.count (i : Int)
structure OkT (p : Nat) (σ : List Nat × List Int) : Prop where
  nodup : σ.1.Nodup
  lt : ∀ i ∈ σ.1, i < p
  sl : ∀ z ∈ σ.2, z < p
theorem OkT.step {p c : Nat} {σ : List Nat × List Int} (h : OkT p σ) : OkT (p + 1) (stepT p c σ) := by
  obtain ⟨h1, h2, h3⟩ := h
  unfold stepT
  split
  · refine ⟨?_, ?_, fun z hz => Int.lt_trans (h3 z hz) (by omega)⟩
    · rw [List.nodup_append]
      refine ⟨h1, by simp, fun a ha b hb e => ?_⟩
      rw [List.mem_singleton.mp hb] at e
      have := h2 a ha
      omega
    · intro i hi
      rcases List.mem_append.mp hi with hi | hi
      · have := h2 i hi; omega
      · rw [List.mem_singleton.mp hi]; omega
  · split
    · refine ⟨h1.sublist (List.dropLast_sublist _), fun i hi => ?_, fun z hz => Int.lt_trans (h3 z hz) (by omega)⟩
      have := h2 i ((List.dropLast_sublist _).subset hi); omega
    · refine ⟨h1, fun i hi => by have := h2 i hi; omega, fun z hz => ?_⟩
      rcases List.mem_append.mp hz with hz | hz
      · exact Int.lt_trans (h3 z hz) (by omega)
      · rw [List.mem_singleton.mp hz]
        cases q : σ.1.getLast? with
        | none => show (-1 : Int) < _; omega
        | some i =>
          have := h2 i (List.mem_of_getLast? q)
          show (i : Int) < _
          omega
/-- a row of deeds that never opens what is not there; it ends with none on -/
def valid : Nat → List Nat → Prop
  | n, [] => n = 0
  | n, c :: r => (c = 40 ∧ valid (n + 1) r) ∨ (c = 41 ∧ 0 < n ∧ valid (n - 1) r) ∨ (c = 111 ∧ valid n r)
def coreF (txt : List Nat) (sent : List Int) : List Nat := sent.foldl (fun t x => if x = -1 then quoteL t else inQ t) txt
theorem coreF_snoc (txt : List Nat) (sent : List Int) (x : Int) : coreF txt (sent ++ [x]) = if x = -1 then quoteL (coreF txt sent) else inQ (coreF txt sent) := by
  unfold coreF
  rw [List.foldl_append]; rfl
def readT (txt : List Nat) (σ : List Nat × List Int) : List Nat := nest (dotsT σ) (coreF txt σ.2)
theorem read_step {txt : List Nat} {p c : Nat} {σ : List Nat × List Int} (h : OkT p σ) (hc : c = 40 ∨ (c = 41 ∧ 0 < σ.1.length) ∨ c = 111) : stepL c (readT txt σ) = readT txt (stepT p c σ) := by
  obtain ⟨on, sent⟩ := σ
  unfold readT
  rcases hc with rfl | ⟨rfl, h0⟩ | rfl
  · rw [step_open]
    have e : dotsT (stepT p 40 (on, sent)) = dotsT (on, sent) ++ [1] := by
      show (on ++ [p]).map _ = _
      rw [List.map_append]
      have e0 : sent.count (p : Int) = 0 := List.count_eq_zero.mpr fun hm => by have := h.sl _ hm; omega
      show _ ++ [1 + sent.count (p : Int)] = _
      rw [e0]; rfl
    rw [e]; rfl
  · have hne : on ≠ [] := fun e => by simp [e] at h0
    have e1 : on = on.dropLast ++ [on.getLast hne] := (List.dropLast_concat_getLast hne).symm
    have e : dotsT (on, sent) = dotsT (stepT p 41 (on, sent)) ++ [1 + sent.count ((on.getLast hne : Nat) : Int)] := by
      show on.map _ = (on.dropLast).map _ ++ _
      conv => lhs; rw [e1]
      rw [List.map_append]; rfl
    rw [e, step_close]; rfl
  · cases q : on.getLast? with
    | none =>
      have hn : on = [] := List.getLast?_eq_none_iff.mp q
      subst hn
      show stepL 111 (nest [] (coreF txt sent)) = nest [] (coreF txt (sent ++ [-1]))
      rw [step_send0, coreF_snoc, if_pos rfl]
    | some i =>
      have hne : on ≠ [] := fun e => by rw [e] at q; cases q
      have hi : on.getLast hne = i := by rw [List.getLast?_eq_some_getLast hne] at q; exact Option.some.inj q
      have e1 : on = on.dropLast ++ [i] := by rw [← hi]; exact (List.dropLast_concat_getLast hne).symm
      have nd : i ∉ on.dropLast := fun hm => by
        have := h.nodup
        change on.Nodup at this
        rw [e1, List.nodup_append] at this
        exact this.2.2 i hm i (List.mem_singleton.mpr rfl) rfl
      have es : stepT p 111 (on, sent) = (on, sent ++ [(i : Int)]) := by
        show (on, sent ++ [(on.getLast?.map fun i => (i : Int)).getD (-1)]) = _
        rw [q]; rfl
      rw [es]
      have ed : dotsT (on, sent) = on.dropLast.map (fun (i : Nat) => 1 + sent.count (i : Int)) ++ [sent.count (i : Int) + 1] := by
        show on.map _ = _
        conv => lhs; rw [e1]
        rw [List.map_append]
        show _ ++ [1 + sent.count (i : Int)] = _
        rw [Nat.add_comm]
      have ed2 : dotsT (on, sent ++ [(i : Int)]) = on.dropLast.map (fun (i : Nat) => 1 + sent.count (i : Int)) ++ [sent.count (i : Int) + 2] := by
        show on.map _ = _
        conv => lhs; rw [e1]
        rw [List.map_append]
        congr 1
        · refine List.map_congr_left fun a ha => ?_
          have : (i : Int) ≠ (a : Int) := fun e => nd (by have : i = a := by omega
                                                          rw [this]; exact ha)
          rw [List.count_append, List.count_singleton]
          simp [this]
        · show [1 + (sent ++ [(i : Int)]).count (i : Int)] = _
          rw [List.count_append, List.count_singleton]
          simp; omega
      rw [ed, ed2, step_send]
      show _ = nest _ (coreF txt (sent ++ [(i : Int)]))
      rw [coreF_snoc, if_neg (by omega)]
theorem carried_states (txt : List Nat) : ∀ (r : List Nat) (p : Nat) (σ : List Nat × List Int), OkT p σ → valid σ.1.length r → carriedL r (readT txt σ) = (statesT p r σ).map (readT txt)
  | [], _, _, _, _ => rfl
  | c :: r, p, σ, h, hv => by
    rw [carriedL, statesT, List.map_cons]
    congr 1
    have hlen : (c = 40 ∧ (stepT p c σ).1.length = σ.1.length + 1) ∨ (c = 41 ∧ (stepT p c σ).1.length = σ.1.length - 1) ∨ (c ≠ 40 ∧ c ≠ 41 ∧ (stepT p c σ).1.length = σ.1.length) := by
      unfold stepT
      by_cases h1 : c = 40
      · rw [if_pos h1]; exact .inl ⟨h1, by simp⟩
      · by_cases h2 : c = 41
        · rw [if_neg h1, if_pos h2]; exact .inr (.inl ⟨h2, by simp⟩)
        · rw [if_neg h1, if_neg h2]; exact .inr (.inr ⟨h1, h2, rfl⟩)
    have hv' : valid (stepT p c σ).1.length r := by
      rcases hv with ⟨rfl, hv⟩ | ⟨rfl, h0, hv⟩ | ⟨rfl, hv⟩
      · rcases hlen with ⟨_, e⟩ | ⟨e, _⟩ | ⟨e, _⟩
        · rw [e]; exact hv
        · cases e
        · exact absurd rfl e
      · rcases hlen with ⟨e, _⟩ | ⟨_, e⟩ | ⟨_, e, _⟩
        · cases e
        · rw [e]; exact hv
        · exact absurd rfl e
      · rcases hlen with ⟨e, _⟩ | ⟨e, _⟩ | ⟨_, _, e⟩
        · cases e
        · cases e
        · rw [e]; exact hv
    have hc : c = 40 ∨ (c = 41 ∧ 0 < σ.1.length) ∨ c = 111 := by
      rcases hv with ⟨e, _⟩ | ⟨e, h0, _⟩ | ⟨e, _⟩
      · exact .inl e
      · exact .inr (.inl ⟨e, h0⟩)
      · exact .inr (.inr e)
    rw [read_step h hc]
    exact carried_states txt r (p + 1) _ h.step hv'
end Mine
namespace Mine
/-- the balance of a row of deeds -/
def bal : List Nat → Int → Option Int
  | [], o => some o
  | c :: r, o => if c = 40 then bal r (o + 1) else if c = 41 then (if o - 1 < 0 then none else bal r (o - 1)) else bal r o
theorem bal_app : ∀ (a b : List Nat) (o : Int), bal (a ++ b) o = (bal a o).bind (bal b)
  | [], b, o => rfl
  | c :: r, b, o => by
    show bal (c :: (r ++ b)) o = _
    rw [bal, bal]
    split
    · exact bal_app r b _
    · split
      · split
        · rfl
        · exact bal_app r b _
      · exact bal_app r b _
theorem chk_up : ∀ (l : List Nat) (i : Nat) (o : Int), chkGo (up i l) o = (bal l o == some 0)
  | [], i, o => by
    show (o == 0) = (some o == some 0)
    rfl
  | c :: r, i, o => by
    rw [up, chkGo, bal]
    simp only [List.cons.injEq, and_true]
    split
    · exact chk_up r _ _
    · split
      · split
        · rfl
        · exact chk_up r _ _
      · exact chk_up r _ _
theorem chk_bal {l : List Nat} (h34 : 34 ∉ l) (h92 : 92 ∉ l) : chkL l = (bal l 0 == some 0) := by
  unfold chkL stripL
  rw [if_neg h34]
  have := units_plain l 0 [] h92
  rw [List.append_nil] at this
  rw [this]
  have e : units (0 + l.length) false [] = [] := rfl
  rw [e, List.append_nil]
  exact chk_up l 0 0
def letters (run : List Nat) : Prop := ∀ c ∈ run, c = 40 ∨ c = 41 ∨ c = 111
theorem letters_sub {run l : List Nat} (h : letters run) (s : ∀ c ∈ l, c ∈ run) : 34 ∉ l ∧ 92 ∉ l :=
  And.intro (fun m => (h 34 (s 34 m)).elim (fun e => absurd e (by decide)) fun e => e.elim (fun e => absurd e (by decide)) fun e => absurd e (by decide))
    (fun m => (h 92 (s 92 m)).elim (fun e => absurd e (by decide)) fun e => e.elim (fun e => absurd e (by decide)) fun e => absurd e (by decide))
/-- where what is open e deep is closed -/
def closeFrom : List Nat → Nat → Nat → Nat
  | [], _, p => p
  | c :: r, e, p => if c = 40 then closeFrom r (e + 1) (p + 1) else if c = 41 then (if e = 0 then p else closeFrom r (e - 1) (p + 1)) else closeFrom r e (p + 1)
theorem take_snoc {l : List Nat} {n : Nat} (h : n < l.length) : l.take (n + 1) = l.take n ++ [l.getD n 0] := by
  rw [List.take_add_one, List.getElem?_eq_getElem h, List.getD_eq_getElem?_getD, List.getElem?_eq_getElem h]; rfl
theorem mate_from {run : List Nat} (hr : letters run) {i : Nat} : ∀ (n last e : Nat), run.length - last = n → i ≤ last → last ≤ run.length → bal ((run.drop i).take (last - i)) 0 = some ((e : Int) + 1) →
    mateFrom run i n last = closeFrom (run.drop last) e last
  | 0, last, e, hn, hi, hl, hb => by
    have : last = run.length := by omega
    subst this
    rw [List.drop_of_length_le (Nat.le_refl _)]; rfl
  | n + 1, last, e, hn, hi, hl, hb => by
    have hlt : last < run.length := by omega
    have hd : run.drop last = run.getD last 0 :: run.drop (last + 1) := drop_at hlt
    have hsn : (run.drop i).take (last + 1 - i) = (run.drop i).take (last - i) ++ [run.getD last 0] := by
      have e1 : last + 1 - i = (last - i) + 1 := by omega
      rw [e1, take_snoc (by rw [List.length_drop]; omega)]
      congr 2
      rw [List.getD_eq_getElem?_getD, List.getD_eq_getElem?_getD, List.getElem?_drop]
      congr 2
      omega
    have hsub := letters_sub (l := (run.drop i).take (last + 1 - i)) hr fun c hc => (List.drop_sublist _ _).subset ((List.take_sublist _ _).subset hc)
    have hcb := chk_bal hsub.1 hsub.2
    have hb' : bal ((run.drop i).take (last + 1 - i)) 0 = bal [run.getD last 0] ((e : Int) + 1) := by
      rw [hsn, bal_app, hb]; rfl
    rw [hd, mateFrom, hcb, hb', closeFrom]
    generalize hc : run.getD last 0 = c at hb' ⊢
    have hcl : c = 40 ∨ c = 41 ∨ c = 111 := hr c (by rw [← hc, List.getD_eq_getElem?_getD, List.getElem?_eq_getElem hlt]; exact List.getElem_mem hlt)
    rcases hcl with rfl | rfl | rfl
    · rw [if_neg (fun q => by cases q.1), if_pos rfl]
      exact mate_from hr n (last + 1) (e + 1) (by omega) (by omega) (by omega) (by rw [hb']; show some ((e : Int) + 1 + 1) = _; congr 1)
    · rw [if_neg (show ¬ (41 : Nat) = 40 by decide), if_pos (rfl : (41 : Nat) = 41)]
      have e1 : bal [41] ((e : Int) + 1) = some (e : Int) := by
        rw [bal, if_neg (by decide), if_pos rfl, if_neg (by omega)]
        show some ((e : Int) + 1 - 1) = _
        congr 1; omega
      rw [e1]
      by_cases h0 : e = 0
      · subst h0
        rw [if_pos ⟨rfl, rfl⟩, if_pos rfl]
      · rw [if_neg h0, if_neg (fun q => by
          have := eq_of_beq q.2
          have := Option.some.inj this
          omega)]
        exact mate_from hr n (last + 1) (e - 1) (by omega) (by omega) (by omega) (by rw [hb', e1]; congr 1; omega)
    · rw [if_neg (fun q => by cases q.1), if_neg (by decide), if_neg (by decide)]
      exact mate_from hr n (last + 1) e (by omega) (by omega) (by omega) (by rw [hb']; rfl)
theorem mate_close {run : List Nat} (hr : letters run) {i : Nat} (hi : i < run.length) (h40 : run.getD i 0 = 40) : mateL run i = closeFrom (run.drop (i + 1)) 0 (i + 1) := by
  unfold mateL
  refine mate_from hr _ _ 0 rfl (by omega) (by omega) ?_
  have e : i + 1 - i = 1 := by omega
  rw [e, drop_at hi, h40]
  rfl
end Mine
namespace Mine
def stA (run : List Nat) : Nat → List Nat × List Int
  | 0 => ([], [])
  | k + 1 => stepT k (run.getD k 0) (stA run k)
theorem stA_ok (run : List Nat) : ∀ k, OkT k (stA run k)
  | 0 => ⟨List.nodup_nil, fun _ h => (nomatch h), fun _ h => (nomatch h)⟩
  | k + 1 => (stA_ok run k).step
theorem statesT_eq (run : List Nat) : ∀ (n p : Nat), run.length - p = n → p ≤ run.length → statesT p (run.drop p) (stA run p) = (List.range' p (n + 1)).map (stA run)
  | 0, p, hn, hp => by
    have : p = run.length := by omega
    subst this
    rw [List.drop_of_length_le (Nat.le_refl _)]; rfl
  | n + 1, p, hn, hp => by
    have hlt : p < run.length := by omega
    rw [drop_at hlt, statesT]
    have := statesT_eq run n (p + 1) (by omega) hlt
    rw [show stA run (p + 1) = stepT p (run.getD p 0) (stA run p) from rfl] at this
    rw [this, List.range'_succ (n := n + 1), List.map_cons]
theorem stA_sorted (run : List Nat) : ∀ k, (stA run k).1.Pairwise (· < ·)
  | 0 => List.Pairwise.nil
  | k + 1 => by
    have ih := stA_sorted run k
    have ok := stA_ok run k
    show (stepT k (run.getD k 0) (stA run k)).1.Pairwise (· < ·)
    unfold stepT
    split
    · rw [List.pairwise_append]
      exact ⟨ih, List.pairwise_singleton _ _, fun a ha b hb => by rw [List.mem_singleton.mp hb]; exact ok.lt a ha⟩
    · split
      · exact ih.sublist (List.dropLast_sublist _)
      · exact ih
theorem stA_open (run : List Nat) : ∀ k, ∀ i ∈ (stA run k).1, run.getD i 0 = 40
  | 0 => fun _ h => (nomatch h)
  | k + 1 => by
    have ih := stA_open run k
    intro i hi
    change i ∈ (stepT k (run.getD k 0) (stA run k)).1 at hi
    unfold stepT at hi
    split at hi
    · rename_i h
      rcases List.mem_append.mp hi with hi | hi
      · exact ih i hi
      · rw [List.mem_singleton.mp hi]; exact h
    · split at hi
      · exact ih i ((List.dropLast_sublist _).subset hi)
      · exact ih i hi
theorem closeFrom_ge : ∀ (r : List Nat) (e p : Nat), p ≤ closeFrom r e p
  | [], _, _ => Nat.le_refl _
  | c :: r, e, p => by
    rw [closeFrom]
    split
    · exact Nat.le_of_succ_le (closeFrom_ge r _ _)
    · split
      · split
        · exact Nat.le_refl _
        · exact Nat.le_of_succ_le (closeFrom_ge r _ _)
      · exact Nat.le_of_succ_le (closeFrom_ge r _ _)
theorem on_dich {run : List Nat} {i : Nat} (h40 : run.getD i 0 = 40) : ∀ (m : Nat), i + 1 + m ≤ run.length →
    (∃ base ext, (stA run (i + 1 + m)).1 = base ++ i :: ext ∧ i ∉ base ∧ i ∉ ext ∧ closeFrom (run.drop (i + 1 + m)) ext.length (i + 1 + m) = closeFrom (run.drop (i + 1)) 0 (i + 1)) ∨
      (i ∉ (stA run (i + 1 + m)).1 ∧ closeFrom (run.drop (i + 1)) 0 (i + 1) < i + 1 + m)
  | 0, _ => by
    refine .inl ⟨(stA run i).1, [], ?_, ?_, List.not_mem_nil, rfl⟩
    · show (stepT i (run.getD i 0) (stA run i)).1 = _
      rw [h40]; rfl
    · intro hm
      exact Nat.lt_irrefl _ ((stA_ok run i).lt i hm)
  | m + 1, hm => by
    have hlt : i + 1 + m < run.length := by omega
    have e0 : i + 1 + (m + 1) = (i + 1 + m) + 1 := by omega
    rw [e0]
    have hst : stA run (i + 1 + m + 1) = stepT (i + 1 + m) (run.getD (i + 1 + m) 0) (stA run (i + 1 + m)) := rfl
    rcases on_dich h40 m (by omega) with ⟨base, ext, h1, h2, h3, h4⟩ | ⟨h1, h2⟩
    · rw [drop_at hlt, closeFrom] at h4
      rw [hst]
      unfold stepT
      by_cases c40 : run.getD (i + 1 + m) 0 = 40
      · rw [if_pos c40] at h4 ⊢
        refine .inl ⟨base, ext ++ [i + 1 + m], by rw [h1]; simp, h2, ?_, by rw [List.length_append]; exact h4⟩
        intro hm'
        rcases List.mem_append.mp hm' with hm' | hm'
        · exact h3 hm'
        · have := List.mem_singleton.mp hm'; omega
      · rw [if_neg c40] at h4 ⊢
        by_cases c41 : run.getD (i + 1 + m) 0 = 41
        · rw [if_pos c41] at h4 ⊢
          by_cases hx : ext = []
          · subst hx
            rw [List.length_nil, if_pos (Eq.refl (0 : Nat))] at h4
            refine .inr ⟨?_, by omega⟩
            rw [h1]
            show i ∉ (base ++ [i]).dropLast
            rw [List.dropLast_concat]; exact h2
          · rw [if_neg (fun q => hx (List.eq_nil_of_length_eq_zero q))] at h4
            refine .inl ⟨base, ext.dropLast, ?_, h2, fun q => h3 ((List.dropLast_sublist _).subset q), by rw [List.length_dropLast]; exact h4⟩
            rw [h1, List.dropLast_append_of_ne_nil (by simp)]
            congr 1
            cases ext with
            | nil => exact absurd rfl hx
            | cons a b => rfl
        · rw [if_neg c41] at h4 ⊢
          exact .inl ⟨base, ext, h1, h2, h3, h4⟩
    · refine .inr ⟨?_, by omega⟩
      rw [hst]
      unfold stepT
      split
      · intro hm'
        rcases List.mem_append.mp hm' with hm' | hm'
        · exact h1 hm'
        · have := List.mem_singleton.mp hm'; omega
      · split
        · exact fun q => h1 ((List.dropLast_sublist _).subset q)
        · exact h1
theorem on_mem {run : List Nat} (hr : letters run) {k : Nat} (hk : k ≤ run.length) (i : Nat) : i ∈ (stA run k).1 ↔ (i < run.length ∧ run.getD i 0 = 40) ∧ i < k ∧ k ≤ mateL run i := by
  constructor
  · intro hm
    have h1 := (stA_ok run k).lt i hm
    have h40 := stA_open run k i hm
    have hi : i < run.length := by omega
    refine ⟨⟨hi, h40⟩, h1, ?_⟩
    rw [mate_close hr hi h40]
    have e : i + 1 + (k - (i + 1)) = k := by omega
    have d := on_dich h40 (k - (i + 1)) (by omega)
    rw [e] at d
    rcases d with ⟨base, ext, a1, a2, a3, a4⟩ | ⟨a1, a2⟩
    · rw [← a4]; exact closeFrom_ge _ _ _
    · exact absurd hm a1
  · rintro ⟨⟨hi, h40⟩, h1, h2⟩
    rw [mate_close hr hi h40] at h2
    have e : i + 1 + (k - (i + 1)) = k := by omega
    have d := on_dich h40 (k - (i + 1)) (by omega)
    rw [e] at d
    rcases d with ⟨base, ext, a1, a2, a3, a4⟩ | ⟨a1, a2⟩
    · rw [a1]; simp
    · omega
theorem sorted_ext : ∀ (a b : List Nat), a.Pairwise (· < ·) → b.Pairwise (· < ·) → (∀ x, x ∈ a ↔ x ∈ b) → a = b
  | [], [], _, _, _ => rfl
  | [], y :: b, _, _, h => absurd ((h y).mpr (List.mem_cons_self ..)) List.not_mem_nil
  | x :: a, [], _, _, h => absurd ((h x).mp (List.mem_cons_self ..)) List.not_mem_nil
  | x :: a, y :: b, ha, hb, h => by
    rw [List.pairwise_cons] at ha hb
    have hxy : x = y := by
      rcases List.mem_cons.mp ((h x).mp (List.mem_cons_self ..)) with e | e
      · exact e
      · rcases List.mem_cons.mp ((h y).mpr (List.mem_cons_self ..)) with e' | e'
        · exact e'.symm
        · have h1 := hb.1 x e
          have h2 := ha.1 y e'
          omega
    subst hxy
    rw [sorted_ext a b ha.2 hb.2 fun z => ?_]
    constructor
    · intro hz
      rcases List.mem_cons.mp ((h z).mp (List.mem_cons_of_mem _ hz)) with e | e
      · have := ha.1 z hz; omega
      · exact e
    · intro hz
      rcases List.mem_cons.mp ((h z).mpr (List.mem_cons_of_mem _ hz)) with e | e
      · have := hb.1 z hz; omega
      · exact e
/-- the pairs -/
def pairsL (run : List Nat) : List (Nat × Nat) := ((List.range run.length).filter fun i => run.getD i 0 == 40).map fun i => (i, mateL run i)
def onL (pr : List (Nat × Nat)) (k : Nat) : List Nat := (pr.filter fun q => decide (q.1 < k) && decide (k ≤ q.2)).map (·.1)
theorem on_pairs {run : List Nat} (hr : letters run) {k : Nat} (hk : k ≤ run.length) : onL (pairsL run) k = (stA run k).1 := by
  have e : onL (pairsL run) k = ((List.range run.length).filter fun i => run.getD i 0 == 40).filter fun i => decide (i < k) && decide (k ≤ mateL run i) := by
    unfold onL pairsL
    rw [List.filter_map, List.map_map]
    have : ((fun x : Nat × Nat => x.1) ∘ fun i => (i, mateL run i)) = id := rfl
    rw [this, List.map_id]; rfl
  rw [e]
  refine sorted_ext _ _ ?_ (stA_sorted run k) fun x => ?_
  · exact (List.pairwise_lt_range.sublist List.filter_sublist).sublist List.filter_sublist
  · rw [on_mem hr hk, List.mem_filter, List.mem_filter, List.mem_range]
    simp [and_assoc]
end Mine
namespace Mine
def maxL (l : List Nat) : Int := l.foldl (fun (a : Int) (i : Nat) => max a (i : Int)) (-1)
def sentL (run : List Nat) (pr : List (Nat × Nat)) (k : Nat) : List Int :=
  ((List.range k).filter fun p => run.getD p 0 == 111).map fun p => maxL ((pr.filter fun q => decide (q.1 < p) && decide (p < q.2)).map (·.1))
theorem closeFrom_is : ∀ (r : List Nat) (e p : Nat), closeFrom r e p < p + r.length → r.getD (closeFrom r e p - p) 0 = 41
  | [], e, p, h => by
    change p < p + 0 at h; omega
  | c :: r, e, p, h => by
    have go : ∀ e', closeFrom r e' (p + 1) < p + (c :: r).length → (c :: r).getD (closeFrom r e' (p + 1) - p) 0 = 41 := fun e' h' => by
      have h1 := closeFrom_ge r e' (p + 1)
      have h2 := closeFrom_is r e' (p + 1) (by rw [List.length_cons] at h'; omega)
      have e1 : closeFrom r e' (p + 1) - p = (closeFrom r e' (p + 1) - (p + 1)) + 1 := by omega
      rw [e1, List.getD_cons_succ]; exact h2
    rw [closeFrom] at h ⊢
    split
    · rename_i q; rw [if_pos q] at h; exact go _ h
    · rename_i q; rw [if_neg q] at h
      split
      · rename_i q2; rw [if_pos q2] at h
        split
        · rw [Nat.sub_self, List.getD_cons_zero]; exact q2
        · rename_i q3; rw [if_neg q3] at h; exact go _ h
      · rename_i q2; rw [if_neg q2] at h; exact go _ h
theorem mate_not {run : List Nat} (hr : letters run) {i k : Nat} (hi : i < run.length) (h40 : run.getD i 0 = 40) (hk : k < run.length) (hc : run.getD k 0 ≠ 41) : mateL run i ≠ k := by
  intro e
  rw [mate_close hr hi h40] at e
  have h1 := closeFrom_ge (run.drop (i + 1)) 0 (i + 1)
  have h2 := closeFrom_is (run.drop (i + 1)) 0 (i + 1) (by rw [List.length_drop]; omega)
  rw [e, List.getD_eq_getElem?_getD, List.getElem?_drop, ← List.getD_eq_getElem?_getD] at h2
  have : i + 1 + (k - (i + 1)) = k := by omega
  rw [this] at h2
  exact hc h2
theorem max_fold : ∀ (l : List Nat) (a : Int), l.Pairwise (· < ·) → (∀ i ∈ l, a < (i : Int)) → l.foldl (fun (a : Int) (i : Nat) => max a (i : Int)) a = (l.getLast?.map fun i => (i : Int)).getD a
  | [], _, _, _ => rfl
  | x :: r, a, hp, ha => by
    rw [List.foldl_cons]
    have hx := ha x (List.mem_cons_self ..)
    have e : max a (x : Int) = x := by omega
    rw [e, List.pairwise_cons] at *
    rw [max_fold r (x : Int) hp.2 fun i hi => by have := hp.1 i hi; omega]
    cases r with
    | nil => rfl
    | cons y r => rw [List.getLast?_cons_cons]; cases q : (y :: r).getLast? with
      | none => simp at q
      | some z => rfl
theorem maxL_last {l : List Nat} (hp : l.Pairwise (· < ·)) : maxL l = (l.getLast?.map fun i => (i : Int)).getD (-1) := max_fold l (-1) hp fun i _ => by omega
theorem sent_pairs {run : List Nat} (hr : letters run) : ∀ k, k ≤ run.length → sentL run (pairsL run) k = (stA run k).2
  | 0, _ => rfl
  | k + 1, hk => by
    have ih := sent_pairs hr k (by omega)
    have hlt : k < run.length := by omega
    have e0 : sentL run (pairsL run) (k + 1) = sentL run (pairsL run) k ++ (if run.getD k 0 = 111 then [maxL (((pairsL run).filter fun q => decide (q.1 < k) && decide (k < q.2)).map (·.1))] else []) := by
      unfold sentL
      rw [List.range_succ, List.filter_append, List.map_append]
      congr 1
      by_cases h : run.getD k 0 = 111
      · rw [if_pos h, List.filter_cons_of_pos (by simpa using h)]; rfl
      · rw [if_neg h, List.filter_cons_of_neg (by simpa using h)]; rfl
    rw [e0, ih]
    show _ = (stepT k (run.getD k 0) (stA run k)).2
    have hcl : run.getD k 0 = 40 ∨ run.getD k 0 = 41 ∨ run.getD k 0 = 111 := hr _ (by rw [List.getD_eq_getElem?_getD, List.getElem?_eq_getElem hlt]; exact List.getElem_mem hlt)
    unfold stepT
    rcases hcl with h | h | h
    · rw [h, if_neg (by decide), if_pos rfl, List.append_nil]
    · rw [h, if_neg (by decide), if_neg (by decide), if_pos rfl, List.append_nil]
    · have e1 : ((pairsL run).filter fun q => decide (q.1 < k) && decide (k < q.2)) = (pairsL run).filter fun q => decide (q.1 < k) && decide (k ≤ q.2) := by
        refine List.filter_congr fun q hq => ?_
        obtain ⟨i, hi, rfl⟩ := List.mem_map.mp hq
        rw [List.mem_filter, List.mem_range] at hi
        have := mate_not hr hi.1 (by simpa using hi.2) hlt (by rw [h]; decide)
        congr 1
        rw [decide_eq_decide]
        show k < mateL run i ↔ k ≤ mateL run i
        omega
      have e2 : ((pairsL run).filter fun q => decide (q.1 < k) && decide (k ≤ q.2)).map (·.1) = (stA run k).1 := on_pairs hr (Nat.le_of_lt hlt)
      rw [h, if_pos rfl, if_neg (by decide), if_neg (by decide), e1, e2, maxL_last (stA_sorted run k)]
end Mine
namespace Mine
/-- the mark at a depth -/
def mkL (m : Nat) : List Nat := List.replicate (2 ^ m - 1) 92 ++ [34]
def innerL (n : Nat) (t : List Nat) : List Nat := t.flatMap fun c => (if c = 34 ∨ c = 92 then List.replicate (2 ^ n - 1) 92 else []) ++ [c]
/-- the envelopes, the last one first, from a depth on -/
def formL : Nat → List Nat → List Nat → List Nat
  | m, [], t => innerL m t
  | m, d :: r, t => List.replicate d 46 ++ [61] ++ mkL m ++ formL (m + 1) r t ++ mkL m
theorem esc_reps : ∀ k : Nat, escL (List.replicate k 92) = List.replicate (2 * k) 92
  | 0 => rfl
  | k + 1 => by
    rw [List.replicate_succ, escL_cons, if_pos (.inl rfl), esc_reps k]
    have : 2 * (k + 1) = (2 * k) + 1 + 1 := by omega
    rw [this, List.replicate_succ, List.replicate_succ]; rfl
theorem esc_one {c : Nat} (h : c = 92 ∨ c = 34) (k : Nat) : escL (List.replicate k 92 ++ [c]) = List.replicate (2 * k + 1) 92 ++ [c] := by
  rw [escL_append, esc_reps, escL_cons, if_pos h, List.replicate_succ', List.append_assoc]; rfl
theorem pow_step (m : Nat) : 2 * (2 ^ m - 1) + 1 = 2 ^ (m + 1) - 1 := by
  have : 0 < 2 ^ m := Nat.pow_pos (by decide)
  rw [Nat.pow_succ]; omega
theorem esc_mk (m : Nat) : escL (mkL m) = mkL (m + 1) := by
  unfold mkL
  rw [esc_one (.inr rfl), pow_step]
theorem esc_inner (n : Nat) : ∀ t : List Nat, escL (innerL n t) = innerL (n + 1) t
  | [] => rfl
  | c :: r => by
    have ih := esc_inner n r
    unfold innerL at ih ⊢
    rw [List.flatMap_cons, List.flatMap_cons, escL_append, ih]
    congr 1
    by_cases h : c = 34 ∨ c = 92
    · rw [if_pos h, if_pos h, esc_one (Or.symm h), pow_step]
    · rw [if_neg h, if_neg h]
      show escL [c] = [c]
      rw [escL_cons, if_neg (fun q => h (Or.symm q))]; rfl
theorem esc_plain : ∀ (l : List Nat), (∀ c ∈ l, c ≠ 92 ∧ c ≠ 34) → escL l = l
  | [], _ => rfl
  | c :: r, h => by
    have hc := h c (List.mem_cons_self ..)
    rw [escL_cons, if_neg (fun q => q.elim hc.1 hc.2), esc_plain r fun d hd => h d (List.mem_cons_of_mem _ hd)]; rfl
theorem esc_form : ∀ (ds : List Nat) (m : Nat) (t : List Nat), escL (formL m ds t) = formL (m + 1) ds t
  | [], m, t => esc_inner m t
  | d :: r, m, t => by
    rw [formL, formL, escL_append, escL_append, escL_append, esc_mk, esc_form r]
    rw [esc_plain (List.replicate d 46 ++ [61]) fun c hc => by
      rcases List.mem_append.mp hc with hc | hc
      · rw [List.eq_of_mem_replicate hc]; exact ⟨by decide, by decide⟩
      · rw [List.mem_singleton.mp hc]; exact ⟨by decide, by decide⟩]
theorem inner0 : ∀ t : List Nat, innerL 0 t = t
  | [] => rfl
  | c :: r => by
    have ih := inner0 r
    unfold innerL at ih ⊢
    rw [List.flatMap_cons, ih]
    split <;> rfl
theorem nest_form : ∀ (r : List Nat) (t : List Nat), nest r.reverse t = formL 0 r t
  | [], t => (inner0 t).symm
  | d :: r, t => by
    rw [List.reverse_cons, nest_snoc, nest_form r, formL, wrapL, esc_form]
    show List.replicate d 46 ++ [61, 34] ++ _ ++ [34] = List.replicate d 46 ++ [61] ++ [34] ++ _ ++ [34]
    simp
/-- as it is told: heads and marks, the inner part, and the marks again -/
theorem form_told : ∀ (ds : List Nat) (m : Nat) (t : List Nat),
    formL m ds t = (List.zipWith (fun h k => h ++ k) (ds.map fun d => List.replicate d 46 ++ [61]) ((List.range' m ds.length).map mkL)).flatten ++ innerL (m + ds.length) t ++ ((List.range' m ds.length).map mkL).reverse.flatten
  | [], m, t => by simp [formL]
  | d :: r, m, t => by
    rw [formL, form_told r (m + 1) t, List.length_cons, List.range'_succ]
    have e : m + 1 + r.length = m + (r.length + 1) := by omega
    rw [e]
    simp only [List.map_cons, List.zipWith_cons_cons, List.flatten_cons, List.reverse_cons, List.flatten_append, List.flatten_nil, List.append_nil, List.append_assoc]
theorem nest_told (ds : List Nat) (t : List Nat) :
    nest ds t = (List.zipWith (fun h k => h ++ k) (ds.reverse.map fun d => List.replicate d 46 ++ [61]) ((List.range ds.length).map mkL)).flatten ++ innerL ds.length t ++ ((List.range ds.length).map mkL).reverse.flatten := by
  have h := nest_form ds.reverse t
  rw [List.reverse_reverse] at h
  rw [h, form_told, List.length_reverse, Nat.zero_add, List.range_eq_range']
end Mine
namespace Mine
/-- both signs of a line end made one -/
def crlf1 : List Nat → List Nat
  | [] => []
  | [c] => [c]
  | c :: d :: r => if c = 13 ∧ d = 10 then 10 :: crlf1 r else c :: crlf1 (d :: r)
def split10 : List Nat → List (List Nat)
  | [] => [[]]
  | c :: r => if c = 10 then [] :: split10 r else match split10 r with
    | [] => [[c]]
    | x :: xs => (c :: x) :: xs
def rowsL (txt : List Nat) : List (List Nat) := split10 (repL 13 [10] (crlf1 txt))
theorem split10_ne : ∀ l, split10 l ≠ []
  | [] => by simp [split10]
  | c :: r => by
    rw [split10]
    split
    · simp
    · split <;> simp
theorem split10_free : ∀ l, ∀ x ∈ split10 l, ∀ c ∈ x, c ∈ l ∧ c ≠ 10
  | [], x, hx, c, hc => by
    rw [split10, List.mem_singleton] at hx
    subst hx; cases hc
  | d :: r, x, hx, c, hc => by
    rw [split10] at hx
    split at hx
    · rcases List.mem_cons.mp hx with rfl | hx
      · cases hc
      · have := split10_free r x hx c hc
        exact ⟨List.mem_cons_of_mem _ this.1, this.2⟩
    · rename_i hd
      split at hx
      · rw [List.mem_singleton.mp hx] at hc
        rw [List.mem_singleton.mp hc]; exact ⟨List.mem_cons_self .., hd⟩
      · rename_i y ys q
        rcases List.mem_cons.mp hx with rfl | hx
        · rcases List.mem_cons.mp hc with rfl | hc
          · exact ⟨List.mem_cons_self .., hd⟩
          · have := split10_free r y (by rw [q]; exact List.mem_cons_self ..) c hc
            exact ⟨List.mem_cons_of_mem _ this.1, this.2⟩
        · have := split10_free r x (by rw [q]; exact List.mem_cons_of_mem _ hx) c hc
          exact ⟨List.mem_cons_of_mem _ this.1, this.2⟩
theorem joinL_cons {sep x : List Nat} {xs : List (List Nat)} (h : xs ≠ []) : joinL sep (x :: xs) = x ++ sep ++ joinL sep xs := by
  cases xs with
  | nil => exact absurd rfl h
  | cons y ys => rfl
theorem join_split (sep : List Nat) : ∀ l, joinL sep (split10 l) = l.flatMap fun c => if c = 10 then sep else [c]
  | [] => rfl
  | c :: r => by
    have ih := join_split sep r
    rw [split10, List.flatMap_cons]
    by_cases h : c = 10
    · rw [if_pos h, if_pos h, joinL_cons (split10_ne r), ih]; rfl
    · rw [if_neg h, if_neg h]
      cases q : split10 r with
      | nil => exact absurd q (split10_ne r)
      | cons x xs =>
        rw [q] at ih
        dsimp only
        rw [← ih]
        cases xs with
        | nil => rfl
        | cons y ys => rfl
theorem flat_rep (l : List Nat) : (repL 13 [10] l).flatMap (fun c => if c = 10 then [13, 10] else [c]) = l.flatMap fun c => if c = 10 ∨ c = 13 then [13, 10] else [c] := by
  induction l with
  | nil => rfl
  | cons c r ih =>
    have e : repL 13 [10] (c :: r) = (if c = 13 then [10] else [c]) ++ repL 13 [10] r := by simp [repL]
    rw [e, List.flatMap_append, ih, List.flatMap_cons]
    congr 1
    by_cases h : c = 13
    · subst h; rfl
    · rw [if_neg h]
      by_cases h2 : c = 10
      · subst h2; rfl
      · simp [h, h2]
theorem crl_flat : ∀ l : List Nat, crl false l = (crlf1 l).flatMap fun c => if c = 10 ∨ c = 13 then [13, 10] else [c]
  | [] => rfl
  | [c] => by
    simp only [crl, crlf1, List.flatMap_cons, List.flatMap_nil, List.append_nil, Bool.false_eq_true, if_false]
    by_cases h : c = 10
    · simp [h]
    · by_cases h2 : c = 13
      · simp [h2]
      · simp [h, h2]
  | c :: d :: r => by
    rw [crlf1]
    by_cases h : c = 13 ∧ d = 10
    · obtain ⟨rfl, rfl⟩ := h
      rw [if_pos ⟨rfl, rfl⟩, List.flatMap_cons, ← crl_flat r]
      rfl
    · rw [if_neg h, List.flatMap_cons, ← crl_flat (d :: r)]
      by_cases h1 : c = 10
      · subst h1; rfl
      · by_cases h2 : c = 13
        · subst h2
          have hd : d ≠ 10 := fun e => h ⟨rfl, e⟩
          show 13 :: 10 :: crl true (d :: r) = [13, 10] ++ crl false (d :: r)
          rw [crl_true (by simpa using hd)]; rfl
        · simp only [crl, h1, h2, if_false, or_self]; rfl
theorem rows_join (txt : List Nat) : joinL [13, 10] (rowsL txt) = crl false txt := by
  unfold rowsL
  rw [join_split, flat_rep, ← crl_flat]
theorem rows_free (txt : List Nat) : ∀ x ∈ rowsL txt, ∀ c ∈ x, c ≠ 10 ∧ c ≠ 13 := by
  intro x hx c hc
  have h := split10_free _ x hx c hc
  refine ⟨h.2, fun e => ?_⟩
  have h1 := h.1
  unfold repL at h1
  obtain ⟨d, _, hd⟩ := List.mem_flatMap.mp h1
  split at hd
  · rw [List.mem_singleton.mp hd] at e; cases e
  · rename_i q; rw [List.mem_singleton.mp hd] at e; exact q e
theorem rows_ne (txt : List Nat) : rowsL txt ≠ [] := split10_ne _
end Mine
namespace Mine
def dotsRow (many : Nat) (row : List Nat) : List Nat := (if row.take 1 = [46] then List.replicate many 46 else []) ++ row
theorem dots0 (row : List Nat) : dotsRow 0 row = row := by
  unfold dotsRow
  split <;> rfl
theorem dots_succ (k : Nat) (row : List Nat) : dotsRow 1 (dotsRow k row) = dotsRow (k + 1) row := by
  unfold dotsRow
  by_cases h : row.take 1 = [46]
  · rw [if_pos h, if_pos h]
    have e : (List.replicate k 46 ++ row).take 1 = [46] := by
      cases k with
      | zero => exact h
      | succ k => rfl
    rw [if_pos e, List.replicate_succ]; rfl
  · rw [if_neg h, if_neg h]
    show (if row.take 1 = [46] then _ else _) ++ row = _
    rw [if_neg h]
theorem dots_free {k : Nat} {row : List Nat} (h : ∀ c ∈ row, c ≠ 10 ∧ c ≠ 13) : ∀ c ∈ dotsRow k row, c ≠ 10 ∧ c ≠ 13 := by
  intro c hc
  unfold dotsRow at hc
  rcases List.mem_append.mp hc with hc | hc
  · split at hc
    · rw [List.eq_of_mem_replicate hc]; exact ⟨by decide, by decide⟩
    · cases hc
  · exact h c hc
theorem crl_free : ∀ (row x : List Nat), (∀ c ∈ row, c ≠ 10 ∧ c ≠ 13) → crl false (row ++ x) = row ++ crl false x
  | [], _, _ => rfl
  | c :: r, x, h => by
    have hc := h c (List.mem_cons_self ..)
    show crl false (c :: (r ++ x)) = _
    simp only [crl, if_neg hc.1, if_neg hc.2, crl_free r x fun d hd => h d (List.mem_cons_of_mem _ hd)]
    rfl
theorem crl_rows : ∀ rows : List (List Nat), (∀ x ∈ rows, ∀ c ∈ x, c ≠ 10 ∧ c ≠ 13) → crl false (joinL [13, 10] rows) = joinL [13, 10] rows
  | [], _ => rfl
  | [x], h => by
    have := crl_free x [] (h x (List.mem_cons_self ..))
    rw [List.append_nil] at this
    show crl false x = x
    rw [this]; simp [crl]
  | x :: y :: r, h => by
    have ih := crl_rows (y :: r) fun z hz => h z (List.mem_cons_of_mem _ hz)
    show crl false (x ++ [13, 10] ++ joinL [13, 10] (y :: r)) = x ++ [13, 10] ++ joinL [13, 10] (y :: r)
    rw [List.append_assoc, crl_free x _ (h x (List.mem_cons_self ..))]
    show x ++ (13 :: 10 :: crl false (joinL [13, 10] (y :: r))) = _
    rw [ih]; simp
theorem dotf_free : ∀ (row x : List Nat), (∀ c ∈ row, c ≠ 10) → dotL false (row ++ x) = row ++ dotL false x
  | [], _, _ => rfl
  | c :: r, x, h => by
    have hc : (c == 10) = false := beq_eq_false_iff_ne.mpr (h c (List.mem_cons_self ..))
    show dotL false (c :: (r ++ x)) = _
    simp only [dotL, Bool.false_eq_true, false_and, if_false, hc, dotf_free r x fun d hd => h d (List.mem_cons_of_mem _ hd)]
    rfl
theorem dot_row {row : List Nat} (h : ∀ c ∈ row, c ≠ 10) (b : Bool) (x : List Nat) (hx : ∀ b', dotL b' x = dotL false x) : dotL b (row ++ x) = (if b = true then dotsRow 1 row else row) ++ dotL false x := by
  cases b with
  | false => exact dotf_free row x h
  | true =>
    rw [if_pos rfl]
    cases row with
    | nil => exact hx true
    | cons c r =>
      have hc : (c == 10) = false := beq_eq_false_iff_ne.mpr (h c (List.mem_cons_self ..))
      show dotL true (c :: (r ++ x)) = _
      simp only [dotL, true_and, hc, dotf_free r x fun d hd => h d (List.mem_cons_of_mem _ hd)]
      unfold dotsRow
      by_cases e : c = 46
      · subst e; rfl
      · have : ¬ (List.take 1 (c :: r) = [46]) := by simp [e]
        rw [if_neg e, if_neg this]; rfl
theorem dot_rows : ∀ (rs : List (List Nat)) (r : List Nat) (b : Bool), (∀ x ∈ r :: rs, ∀ c ∈ x, c ≠ 10 ∧ c ≠ 13) →
    dotL b (joinL [13, 10] (r :: rs)) = joinL [13, 10] ((if b = true then dotsRow 1 r else r) :: rs.map (dotsRow 1))
  | [], r, b, h => by
    have := dot_row (row := r) (fun c hc => (h r (List.mem_cons_self ..) c hc).1) b [] fun b' => by cases b' <;> rfl
    rw [List.append_nil] at this
    show dotL b r = _
    rw [this]; simp [dotL, joinL]
  | y :: rs, r, b, h => by
    have ih := dot_rows rs y true fun x hx => h x (List.mem_cons_of_mem _ hx)
    rw [if_pos rfl] at ih
    show dotL b (r ++ [13, 10] ++ joinL [13, 10] (y :: rs)) = (if b = true then dotsRow 1 r else r) ++ [13, 10] ++ joinL [13, 10] (dotsRow 1 y :: rs.map (dotsRow 1))
    have e : ∀ b' z, dotL b' (13 :: 10 :: z) = 13 :: 10 :: dotL true z := fun b' z => by simp [dotL]
    rw [List.append_assoc, dot_row (fun c hc => (h r (List.mem_cons_self ..) c hc).1) b _ (fun b' => by
      show dotL b' (13 :: 10 :: _) = dotL false (13 :: 10 :: _)
      rw [e, e])]
    show _ ++ dotL false (13 :: 10 :: joinL [13, 10] (y :: rs)) = _
    rw [e, ih]; simp
def plainL (txt : List Nat) (sent : List Int) : List Nat :=
  if sent = [] then txt else joinL [13, 10] (match rowsL txt with | [] => [] | r :: rs => dotsRow (sent.count (-1)) r :: rs.map (dotsRow sent.length))
theorem plain_core (txt : List Nat) : ∀ (n : Nat) (sent : List Int), sent.length = n → coreF txt sent = plainL txt sent
  | 0, sent, h => by
    have : sent = [] := List.eq_nil_of_length_eq_zero h
    subst this; rfl
  | n + 1, sent, h => by
    have hne : sent ≠ [] := fun e => by rw [e] at h; cases h
    obtain ⟨s, x, rfl⟩ : ∃ s x, sent = s ++ [x] := ⟨_, _, (List.dropLast_concat_getLast hne).symm⟩
    have hs : s.length = n := by rw [List.length_append, List.length_singleton] at h; omega
    have ih := plain_core txt n s hs
    have hfree := rows_free txt
    have hjoin := rows_join txt
    rw [coreF_snoc, plainL, if_neg hne, ih]
    cases q : rowsL txt with
    | nil => exact absurd q (rows_ne txt)
    | cons r rs =>
      rw [q] at hfree hjoin
      dsimp only
      have hl : (s ++ [x]).length = s.length + 1 := by rw [List.length_append, List.length_singleton]
      have hc : (s ++ [x]).count (-1) = s.count (-1) + (if x = -1 then 1 else 0) := by
        rw [List.count_append, List.count_singleton]
        by_cases hx : x = -1
        · subst hx; simp
        · rw [if_neg hx]; simp [hx]
      -- what stands after the ends are made
      have key : ∃ a m, s.count (-1) = a ∧ s.length = m ∧ crl false (plainL txt s) = joinL [13, 10] (dotsRow a r :: rs.map (dotsRow m)) := by
        refine ⟨_, _, rfl, rfl, ?_⟩
        by_cases h0 : s = []
        · subst h0
          show crl false txt = joinL [13, 10] (dotsRow 0 r :: rs.map (dotsRow 0))
          have : rs.map (dotsRow 0) = rs := by
            have : dotsRow 0 = id := funext dots0
            rw [this, List.map_id]
          rw [dots0, this, hjoin]
        · rw [plainL, if_neg h0, q]
          refine crl_rows _ fun z hz => ?_
          rcases List.mem_cons.mp hz with rfl | hz
          · exact dots_free (hfree r (List.mem_cons_self ..))
          · obtain ⟨y, hy, rfl⟩ := List.mem_map.mp hz
            exact dots_free (hfree y (List.mem_cons_of_mem _ hy))
      obtain ⟨a, m, ea, em, key⟩ := key
      have hfr : ∀ z ∈ dotsRow a r :: rs.map (dotsRow m), ∀ c ∈ z, c ≠ 10 ∧ c ≠ 13 := fun z hz => by
        rcases List.mem_cons.mp hz with rfl | hz
        · exact dots_free (hfree r (List.mem_cons_self ..))
        · obtain ⟨y, hy, rfl⟩ := List.mem_map.mp hz
          exact dots_free (hfree y (List.mem_cons_of_mem _ hy))
      have emap : (rs.map (dotsRow m)).map (dotsRow 1) = rs.map (dotsRow (m + 1)) := by
        rw [List.map_map]
        exact List.map_congr_left fun y _ => dots_succ m y
      rw [hl, hc, ea, em]
      by_cases hx : x = -1
      · rw [if_pos hx, if_pos hx]
        unfold quoteL
        rw [key, dot_rows _ _ true hfr, if_pos rfl, emap, dots_succ]
      · rw [if_neg hx, if_neg hx]
        unfold inQ
        rw [key, dot_rows _ _ false hfr, if_neg Bool.false_ne_true, emap]; rfl
/-- what is told of a text -/
def toldF (txt : List Nat) (on : List Nat) (sent : List Int) : List Nat :=
  (List.zipWith (fun h k => h ++ k) (on.reverse.map fun (i : Nat) => List.replicate (1 + sent.count (i : Int)) 46 ++ [61]) ((List.range on.length).map mkL)).flatten ++ innerL on.length (plainL txt sent) ++ ((List.range on.length).map mkL).reverse.flatten
theorem read_told (txt : List Nat) (σ : List Nat × List Int) : readT txt σ = toldF txt σ.1 σ.2 := by
  unfold readT toldF
  rw [nest_told, plain_core txt _ σ.2 rfl]
  unfold dotsT
  rw [List.length_map, ← List.map_reverse, List.map_map]; rfl
def toldL (run txt : List Nat) (pr : List (Nat × Nat)) (k : Nat) : List Nat := toldF txt (onL pr k) (sentL run pr k)
theorem valid_letters : ∀ (r : List Nat) (n : Nat), valid n r → letters r
  | [], _, _ => fun _ h => nomatch h
  | c :: r, n, h => by
    intro d hd
    rcases h with ⟨rfl, h⟩ | ⟨rfl, _, h⟩ | ⟨rfl, h⟩ <;> rcases List.mem_cons.mp hd with rfl | hd
    · exact .inl rfl
    · exact valid_letters r _ h d hd
    · exact .inr (.inl rfl)
    · exact valid_letters r _ h d hd
    · exact .inr (.inr rfl)
    · exact valid_letters r _ h d hd
/-- THE PLAIN LAW -/
theorem plain_law {run : List Nat} (txt : List Nat) (hv : valid 0 run) : carriedL run txt = (List.range (run.length + 1)).map (toldL run txt (pairsL run)) := by
  have hr := valid_letters run 0 hv
  have h := carried_states txt run 0 ([], []) (stA_ok run 0) hv
  have e0 : readT txt ([], []) = txt := rfl
  rw [e0] at h
  have hs := statesT_eq run run.length 0 (Nat.sub_zero _) (Nat.zero_le _)
  rw [List.drop_zero] at hs
  change statesT 0 run ([], []) = _ at hs
  rw [h, hs, List.map_map, List.range_eq_range']
  refine List.map_congr_left fun k hk => ?_
  have hk' : k ≤ run.length := by
    rw [List.mem_range'] at hk
    obtain ⟨i, hi, rfl⟩ := hk
    omega
  show readT txt (stA run k) = toldL run txt (pairsL run) k
  rw [read_told, toldL, on_pairs hr hk', sent_pairs hr k hk']
end Mine
namespace Mine
theorem valid_close : ∀ n : Nat, valid n (List.replicate n 41)
  | 0 => rfl
  | n + 1 => .inr (.inl ⟨rfl, Nat.succ_pos _, valid_close n⟩)
theorem valid_run : ∀ (r : List Nat) (a on : Nat), dep a r = some on → valid a (r ++ List.replicate on 41)
  | [], a, on, h => by
    simp only [dep, Option.some.injEq] at h
    subst h; exact valid_close a
  | c :: r, a, on, h => by
    rw [dep] at h
    by_cases q1 : c = 40
    · rw [if_pos q1] at h
      by_cases q2 : a = 3
      · rw [if_pos q2] at h; cases h
      · rw [if_neg q2] at h; exact .inl ⟨q1, valid_run r _ on h⟩
    · rw [if_neg q1] at h
      by_cases q3 : c = 41
      · rw [if_pos q3] at h
        by_cases q2 : a = 0
        · rw [if_pos q2] at h; cases h
        · rw [if_neg q2] at h; exact .inr (.inl ⟨q3, by omega, valid_run r _ on h⟩)
      · rw [if_neg q3] at h
        by_cases q4 : c = 111
        · rw [if_pos q4] at h; exact .inr (.inr ⟨q4, valid_run r _ on h⟩)
        · rw [if_neg q4] at h; cases h
/-- a row of deeds that is never more than three deep -/
def low : Nat → List Nat → Prop
  | n, [] => n ≤ 3
  | n, c :: r => n ≤ 3 ∧ ((c = 40 ∧ low (n + 1) r) ∨ (c = 41 ∧ 0 < n ∧ low (n - 1) r) ∨ (c = 111 ∧ low n r))
theorem low_close : ∀ n : Nat, n ≤ 3 → low n (List.replicate n 41)
  | 0, h => h
  | n + 1, h => ⟨h, .inr (.inl ⟨rfl, Nat.succ_pos _, low_close n (by omega)⟩)⟩
theorem low_run : ∀ (r : List Nat) (a on : Nat), a ≤ 3 → dep a r = some on → low a (r ++ List.replicate on 41)
  | [], a, on, ha, h => by
    simp only [dep, Option.some.injEq] at h
    subst h; exact low_close a ha
  | c :: r, a, on, ha, h => by
    rw [dep] at h
    refine ⟨ha, ?_⟩
    by_cases q1 : c = 40
    · rw [if_pos q1] at h
      by_cases q2 : a = 3
      · rw [if_pos q2] at h; cases h
      · rw [if_neg q2] at h; exact .inl ⟨q1, low_run r _ on (by omega) h⟩
    · rw [if_neg q1] at h
      by_cases q3 : c = 41
      · rw [if_pos q3] at h
        by_cases q2 : a = 0
        · rw [if_pos q2] at h; cases h
        · rw [if_neg q2] at h; exact .inr (.inl ⟨q3, by omega, low_run r _ on (by omega) h⟩)
      · rw [if_neg q3] at h
        by_cases q4 : c = 111
        · rw [if_pos q4] at h; exact .inr (.inr ⟨q4, low_run r _ on ha h⟩)
        · rw [if_neg q4] at h; cases h
theorem states_low : ∀ (r : List Nat) (p : Nat) (σ : List Nat × List Int), low σ.1.length r → σ.2.length ≤ p → ∀ τ ∈ statesT p r σ, τ.1.length ≤ 3 ∧ τ.2.length ≤ p + r.length
  | [], p, σ, h, hs, τ, ht => by
    rw [statesT, List.mem_singleton] at ht
    subst ht; exact ⟨h, by omega⟩
  | c :: r, p, σ, h, hs, τ, ht => by
    rw [statesT] at ht
    rcases List.mem_cons.mp ht with rfl | ht
    · exact ⟨h.1, by omega⟩
    · have step : low (stepT p c σ).1.length r ∧ (stepT p c σ).2.length ≤ p + 1 := by
        unfold stepT
        rcases h.2 with ⟨rfl, hv⟩ | ⟨rfl, h0, hv⟩ | ⟨rfl, hv⟩
        · rw [if_pos rfl]; exact ⟨by simpa using hv, by show σ.2.length ≤ p + 1; omega⟩
        · rw [if_neg (by decide), if_pos rfl]; exact ⟨by simpa using hv, by show σ.2.length ≤ p + 1; omega⟩
        · rw [if_neg (by decide), if_neg (by decide)]; exact ⟨hv, by rw [List.length_append, List.length_singleton]; omega⟩
      have := states_low r (p + 1) _ step.1 step.2 τ ht
      rw [List.length_cons]; omega
theorem split10_len : ∀ l, (split10 l).length ≤ l.length + 1
  | [] => by simp [split10]
  | c :: r => by
    have ih := split10_len r
    rw [split10]
    split
    · simp; omega
    · split
      · simp
      · rename_i q; rw [q] at ih; simp at ih ⊢; omega
theorem crlf1_len : ∀ l, (crlf1 l).length ≤ l.length
  | [] => by simp [crlf1]
  | [c] => by simp [crlf1]
  | c :: d :: r => by
    have h1 := crlf1_len r
    have h2 := crlf1_len (d :: r)
    rw [crlf1]
    split
    · simp; omega
    · simp at h2 ⊢; omega
theorem rows_len (txt : List Nat) : (rowsL txt).length ≤ txt.length + 1 := by
  have h1 := split10_len (repL 13 [10] (crlf1 txt))
  have h2 := repL_len 13 [10] (crlf1 txt) (by decide)
  have h3 := crlf1_len txt
  unfold rowsL
  simp at h2
  omega
theorem dots_len (k : Nat) (row : List Nat) : (dotsRow k row).length ≤ row.length + k := by
  unfold dotsRow
  rw [List.length_append]
  split
  · rw [List.length_replicate]; omega
  · simp
theorem join_len : ∀ (rows : List (List Nat)) (f : List Nat → List Nat) (k : Nat), (∀ x, (f x).length ≤ x.length + k) → (joinL [13, 10] (rows.map f)).length ≤ (joinL [13, 10] rows).length + rows.length * k
  | [], f, k, h => by simp [joinL]
  | [x], f, k, h => by
    have := h x
    show (f x).length ≤ x.length + 1 * k
    omega
  | x :: y :: r, f, k, h => by
    have ih := join_len (y :: r) f k h
    have := h x
    show (f x ++ [13, 10] ++ joinL [13, 10] ((y :: r).map f)).length ≤ (x ++ [13, 10] ++ joinL [13, 10] (y :: r)).length + (x :: y :: r).length * k
    rw [List.length_append, List.length_append, List.length_append, List.length_append, List.length_cons (a := x), Nat.succ_mul]
    omega
theorem plain_len (txt : List Nat) (sent : List Int) : (plainL txt sent).length ≤ 2 * txt.length + (txt.length + 1) * sent.length := by
  unfold plainL
  split
  · omega
  · have hr := rows_len txt
    have hj := congrArg List.length (rows_join txt)
    have hc := crl_len false txt
    cases q : rowsL txt with
    | nil => exact absurd q (rows_ne txt)
    | cons r rs =>
      rw [q] at hr hj
      dsimp only
      have hcount : sent.count (-1) ≤ sent.length := List.count_le_length
      have h1 := join_len rs (dotsRow sent.length) sent.length (dots_len _)
      have h2 := dots_len (sent.count (-1)) r
      rw [List.length_cons] at hr
      have hm : (rs.length + 1) * sent.length ≤ (txt.length + 1) * sent.length := Nat.mul_le_mul_right _ hr
      rw [Nat.succ_mul] at hm
      cases rs with
      | nil =>
        simp only [joinL, List.map_nil] at hj ⊢
        omega
      | cons y ys =>
        rw [List.map_cons] at h1 ⊢
        rw [joinL_cons (by simp)] at hj ⊢
        rw [List.length_append, List.length_append] at hj ⊢
        omega
theorem wrap_len (d : Nat) (t : List Nat) : (wrapL d t).length ≤ d + 3 + 2 * t.length := by
  have := escL_len t
  unfold wrapL
  simp
  omega
theorem nest_len : ∀ (ds : List Nat) (t : List Nat) (B : Nat), (∀ d ∈ ds, d ≤ B) → ds.length ≤ 3 → (nest ds t).length ≤ 7 * (B + 3) + 8 * t.length
  | [], t, B, _, _ => by show t.length ≤ _; omega
  | [a], t, B, h, _ => by
    have h1 := wrap_len a t
    have := h a (by simp)
    show (wrapL a t).length ≤ _
    omega
  | [a, b], t, B, h, _ => by
    have h1 := wrap_len a t
    have h2 := wrap_len b (wrapL a t)
    have := h a (by simp)
    have := h b (by simp)
    show (wrapL b (wrapL a t)).length ≤ _
    omega
  | [a, b, c], t, B, h, _ => by
    have h1 := wrap_len a t
    have h2 := wrap_len b (wrapL a t)
    have h3 := wrap_len c (wrapL b (wrapL a t))
    have := h a (by simp)
    have := h b (by simp)
    have := h c (by simp)
    show (wrapL c (wrapL b (wrapL a t))).length ≤ _
    omega
  | a :: b :: c :: d :: r, t, B, _, hl => by simp at hl
theorem plain_pos {txt : List Nat} (h : 0 < txt.length) (sent : List Int) : 0 < (coreF txt sent).length := by
  have pq : ∀ t : List Nat, 0 < t.length → 0 < (crl false t).length := fun t ht => by
    cases t with
    | nil => cases ht
    | cons c r =>
      simp only [crl, Bool.false_eq_true, if_false]
      split
      · simp
      · split <;> simp
  have pd : ∀ (b : Bool) (t : List Nat), 0 < t.length → 0 < (dotL b t).length := fun b t ht => by
    cases t with
    | nil => cases ht
    | cons c r =>
      rw [dotL, List.length_append]
      split <;> simp <;> omega
  unfold coreF
  revert txt
  induction sent with
  | nil => intro txt h; exact h
  | cons x s ih =>
    intro txt h
    rw [List.foldl_cons]
    refine ih ?_
    split
    · exact pd _ _ (pq _ h)
    · exact pd _ _ (pq _ h)
theorem nest_pos : ∀ (ds : List Nat) (t : List Nat), 0 < t.length → 0 < (nest ds t).length
  | [], _, h => h
  | d :: r, t, h => nest_pos r _ (by unfold wrapL; simp; omega)
theorem carried_small {run txt : List Nat} (hv : valid 0 run) (hlow : low 0 run) (hrl : run.length ≤ 10) (htx : txt.length = 7) : ∀ x ∈ carriedL run txt, 0 < x.length ∧ x.length ≤ 3000 := by
  intro x hx
  have h := carried_states txt run 0 ([], []) (stA_ok run 0) hv
  have e0 : readT txt ([], []) = txt := rfl
  rw [e0] at h
  rw [h] at hx
  obtain ⟨τ, hτ, rfl⟩ := List.mem_map.mp hx
  have hl := states_low run 0 ([], []) hlow (Nat.le_refl _) τ hτ
  have hp := plain_len txt τ.2
  rw [htx] at hp
  have hc := plain_core txt _ τ.2 rfl
  refine ⟨nest_pos _ _ (plain_pos (by omega) _), ?_⟩
  unfold readT
  have hn := nest_len (dotsT τ) (coreF txt τ.2) 11 (fun d hd => by
    unfold dotsT at hd
    obtain ⟨i, _, rfl⟩ := List.mem_map.mp hd
    have : τ.2.count (i : Int) ≤ τ.2.length := List.count_le_length
    omega) (by unfold dotsT; rw [List.length_map]; exact hl.1)
  rw [hc] at hn ⊢
  omega
end Mine
section
open Sem (wp)
namespace Mine
section
variable {prog : Program} {w : World} {A : Around} {E : Value → Shared → Prop} {s : Shared} {env : Env}
theorem maxK {l : Addr} {vs : List Value} {ns : List Int} {Q : Value → Shared → Prop} (hh : A.handled = none) (hl : s.heap.IsList l vs.toArray) (hi : IntsAre vs ns) (hne : 0 < ns.length)
    (h : ∀ M t s', Kp s s' → M ∈ ns → (∀ a, a ∈ ns → a ≤ M) → Q (.int M t) s') : wpAny (model prog w) A (call (.builtin "max") [.ref l]) Q E s := by
  obtain ⟨xs, e⟩ := hi.allInts.items
  have hns : ns = xs.toList.map (·.1) := by
    rw [← hi.numsOf, ← nums_intItems, ← e]
  have hsz : 0 < xs.size := by
    have h3 := hne; rw [hns, List.length_map, Array.length_toList] at h3; exact h3
  rw [e] at hl
  refine wpAny_tok (max_intList hh hl hsz fun v h' tk hv hk htk => ?_)
  obtain ⟨t, rfl⟩ := intItems_at hv
  obtain ⟨h1, h2⟩ := argBest_gt (numAt xs) (xs.size - 1)
  refine h _ t _ ⟨hk, rfl, htk⟩ ?_ fun a ha => ?_
  · rw [hns, numAt_eq]; exact getD_mem (by rw [List.length_map, Array.length_toList]; omega)
  · rw [hns] at ha
    obtain ⟨j, hj, rfl⟩ := mem_getD ha
    rw [List.length_map, Array.length_toList] at hj
    rw [← numAt_eq]; exact h2 j (by omega)
theorem foldl_max_ge : ∀ (l : List Nat) (a : Int), a ≤ l.foldl (fun (a : Int) (i : Nat) => max a (i : Int)) a ∧ (∀ i ∈ l, (i : Int) ≤ l.foldl (fun (a : Int) (i : Nat) => max a (i : Int)) a) ∧ (l.foldl (fun (a : Int) (i : Nat) => max a (i : Int)) a = a ∨ ∃ i ∈ l, l.foldl (fun (a : Int) (i : Nat) => max a (i : Int)) a = (i : Int))
  | [], a => ⟨Int.le_refl _, fun _ h => (nomatch h), .inl rfl⟩
  | x :: r, a => by
    obtain ⟨h1, h2, h3⟩ := foldl_max_ge r (max a (x : Int))
    rw [List.foldl_cons]
    refine ⟨by omega, fun i hi => ?_, ?_⟩
    · rcases List.mem_cons.mp hi with rfl | hi
      · omega
      · exact h2 i hi
    · rcases h3 with h3 | ⟨i, hi, h3⟩
      · rw [h3]
        by_cases hx : a ≤ (x : Int)
        · exact .inr ⟨x, List.mem_cons_self .., by omega⟩
        · exact .inl (by omega)
      · exact .inr ⟨i, List.mem_cons_of_mem _ hi, h3⟩
theorem max_is {l : List Nat} {M : Int} (hm : M ∈ (-1 : Int) :: l.map (fun (i : Nat) => (i : Int))) (hg : ∀ a, a ∈ (-1 : Int) :: l.map (fun (i : Nat) => (i : Int)) → a ≤ M) : M = maxL l := by
  obtain ⟨h1, h2, h3⟩ := foldl_max_ge l (-1)
  unfold maxL
  refine Int.le_antisymm ?_ ?_
  · rcases List.mem_cons.mp hm with rfl | hm
    · exact h1
    · obtain ⟨i, hi, rfl⟩ := List.mem_map.mp hm
      exact h2 i hi
  · rcases h3 with h3 | ⟨i, hi, h3⟩
    · rw [h3]; exact hg _ (List.mem_cons_self ..)
    · rw [h3]; exact hg _ (List.mem_cons_of_mem _ (List.mem_map.mpr ⟨i, hi, rfl⟩))
end
end Mine
end
section
open Sem (wp)
namespace Mine
/-- all that stands in the one stands in the other -/
def Le (b h : Heap) : Prop := ∀ a o, b.get? a = some o → h.get? a = some o
theorem Le.rfl' {b : Heap} : Le b b := fun _ _ e => e
theorem Le.trans {a b c : Heap} (x : Le a b) (y : Le b c) : Le a c := fun p o e => y p o (x p o e)
theorem Le.push {b h : Heap} (x : Le b h) (o : Obj) : Le b (h.push o) := fun a q e => Heap.get?_push_of_some _ (x a q e)
/-- what an expression gives, from any state that holds b -/
def Ex (prog : Program) (w : World) (A : Around) (env : Env) (b : Heap) (e : Expr) (P : Value → Heap → Prop) : Prop :=
  ∀ (s : Shared) (Q : Value → Shared → Prop) (E : Value → Shared → Prop), Le b s.heap → (∀ v s', Kp s s' → P v s'.heap → Q v s') → wpAny (model prog w) A (eval e env) Q E s
def sV (l : List Nat) : Value → Heap → Prop := fun v _ => ∃ t, v = .str (S l) t
def iV (n : Int) : Value → Heap → Prop := fun v _ => ∃ t, v = .int n t
def bV (c : Bool) : Value → Heap → Prop := fun v _ => v = .bool c
section
variable {prog : Program} {w : World} {A : Around} {env : Env} {b : Heap}
theorem Kp.heap {s : Shared} {h : Heap} {k : Nat} (x : Le s.heap h) (t : s.toks ≤ k) : Kp s { s with heap := h, toks := k } := ⟨x, rfl, t⟩
theorem Kp.tk {s : Shared} {k : Nat} (t : s.toks ≤ k) : Kp s { s with toks := k } := ⟨fun _ _ e => e, rfl, t⟩
theorem Ex.loc {x : Str} {p : Pos} {m : Str → Option Value} {v : Value} {P : Value → Heap → Prop} (hk : env.scope.kind = .function) (hl : env.kindOf x = some .local) (hn : b.Ns env.locals m) (hv : m x = some v) (hP : ∀ h, Le b h → P v h)
    (hd : (x == ("__debug__" : Str)) = false := by decide) : Ex prog w A env b (.Name x p) P := fun s Q E hb h =>
  name_loc hk hl hd (hn.keeps hb) hv (h v s .refl (hP _ hb))
theorem Ex.cell {x : Str} {p : Pos} {c : Addr} {v : Value} {P : Value → Heap → Prop} (hk : env.scope.kind = .function) (hl : env.kindOf x = some .cell) (hc : env.cells.lookup x = some c) (hn : b.IsCell c (some v)) (hP : ∀ h, Le b h → P v h)
    (hd : (x == ("__debug__" : Str)) = false := by decide) : Ex prog w A env b (.Name x p) P := fun s Q E hb h =>
  name_cell hk hl hd hc (let ⟨o, ho, r⟩ := hn; ⟨o, hb _ _ ho, r⟩) (h v s .refl (hP _ hb))
theorem Ex.str {x : Str} {k : Nat} {p : Pos} {l : List Nat} (e : x = S l) : Ex prog w A env b (.Constant (.str x) k p) (sV l) := fun s Q E hb h => by
  subst e
  exact Constant_str (h _ _ (Kp.tk (Nat.le_succ _)) ⟨_, rfl⟩)
theorem Ex.int {n : Int} {k : Nat} {p : Pos} : Ex prog w A env b (.Constant (.int n) k p) (iV n) := fun s Q E hb h =>
  wpAny_Constant_int (h _ _ (Kp.tk (Nat.le_succ _)) ⟨_, rfl⟩)
theorem Ex.neg {e : Expr} {n : Int} {p : Pos} (x : Ex prog w A env b e (iV n)) : Ex prog w A env b (.UnaryOp .USub e p) (iV (-n)) := fun s Q E hb h =>
  UnaryOp_ (x s _ _ hb fun v s' k ⟨t, ev⟩ => by subst ev; exact PyProof.Rows.neg_int (h _ _ (k.trans (Kp.tk (Nat.le_succ _))) ⟨_, rfl⟩))
theorem Ex.bin {op : Operator} {l r : Expr} {p : Pos} {P1 P2 P : Value → Heap → Prop} (x : Ex prog w A env b l P1) (y : Ex prog w A env b r P2) (st : ∀ v h h', Le h h' → P1 v h → P1 v h')
    (hop : ∀ u v (s : Shared) (Q : Value → Shared → Prop) (E : Value → Shared → Prop), Le b s.heap → P1 u s.heap → P2 v s.heap → (∀ z s', Kp s s' → P z s'.heap → Q z s') → wpAny (model prog w) A (binaryOp op u v) Q E s) :
    Ex prog w A env b (.BinOp l op r p) P := fun s Q E hb h =>
  wpAny_BinOp (x s _ _ hb fun u s₁ k₁ h₁ => y s₁ _ _ (hb.trans k₁.keep) fun v s₂ k₂ h₂ => hop u v s₂ _ _ ((hb.trans k₁.keep).trans k₂.keep) (st _ _ _ k₂.keep h₁) h₂ fun z s₃ k₃ h₃ => h z s₃ ((k₁.trans k₂).trans k₃) h₃)
theorem Ex.add_s {l r : Expr} {p : Pos} {x y : List Nat} (hx : Ex prog w A env b l (sV x)) (hy : Ex prog w A env b r (sV y)) (hl : x.length + y.length ≤ 10000000) : Ex prog w A env b (.BinOp l .Add r p) (sV (x ++ y)) :=
  hx.bin hy (fun _ _ _ _ q => q) fun u v s Q E hb ⟨t, e1⟩ ⟨t', e2⟩ h => by
    subst e1 e2
    refine wpAny_tok (SBL.add (hsz := by rw [S_len, S_len, sizeLine_eq]; omega) fun t k _ => ?_)
    intro hk
    rw [S_app]
    exact h _ _ (Kp.tk hk) ⟨_, rfl⟩
theorem Ex.mul_s {l r : Expr} {p : Pos} {x : List Nat} {n : Int} {k : Nat} (hx : Ex prog w A env b l (sV x)) (hy : Ex prog w A env b r (iV n)) (e : n = (k : Nat)) (hl : x.length ≤ 1000) (hk : k ≤ 1000) : Ex prog w A env b (.BinOp l .Mult r p) (sV (List.replicate k x).flatten) :=
  hx.bin hy (fun _ _ _ _ q => q) fun u v s Q E hb ⟨t, e1⟩ ⟨t', e2⟩ h => by
    subst e1 e2
    exact mulS rfl e hl hk fun t k hk => h _ _ (Kp.tk hk) ⟨_, rfl⟩
theorem Ex.add_i {l r : Expr} {p : Pos} {x y : Int} (hx : Ex prog w A env b l (iV x)) (hy : Ex prog w A env b r (iV y)) : Ex prog w A env b (.BinOp l .Add r p) (iV (x + y)) :=
  hx.bin hy (fun _ _ _ _ q => q) fun u v s Q E hb ⟨t, e1⟩ ⟨t', e2⟩ h => by
    subst e1 e2
    exact PyProof.Rows.add_int (h _ _ (Kp.tk (Nat.le_succ _)) ⟨_, rfl⟩)
theorem Ex.sub_i {l r : Expr} {p : Pos} {x y : Int} (hx : Ex prog w A env b l (iV x)) (hy : Ex prog w A env b r (iV y)) : Ex prog w A env b (.BinOp l .Sub r p) (iV (x - y)) :=
  hx.bin hy (fun _ _ _ _ q => q) fun u v s Q E hb ⟨t, e1⟩ ⟨t', e2⟩ h => by
    subst e1 e2
    exact PyProof.Rows.sub_int (h _ _ (Kp.tk (Nat.le_succ _)) ⟨_, rfl⟩)
theorem Ex.pow_i {l r : Expr} {p : Pos} {x n : Int} (hx : Ex prog w A env b l (iV x)) (hy : Ex prog w A env b r (iV n)) (h0 : 0 ≤ n) (h1 : n ≤ 1000000) (h2 : x.natAbs < 2 ^ 64) : Ex prog w A env b (.BinOp l .Pow r p) (iV (x ^ n.toNat)) :=
  hx.bin hy (fun _ _ _ _ q => q) fun u v s Q E hb ⟨t, e1⟩ ⟨t', e2⟩ h => by
    subst e1 e2
    exact pow_int_small h0 h1 h2 (h _ _ (Kp.tk (Nat.le_succ _)) ⟨_, rfl⟩)
theorem Ex.cmp {op : CmpOp} {l r : Expr} {p : Pos} {P1 P2 P : Value → Heap → Prop} (x : Ex prog w A env b l P1) (y : Ex prog w A env b r P2) (st : ∀ v h h', Le h h' → P1 v h → P1 v h')
    (hop : ∀ u v (s : Shared) (Q : Value → Shared → Prop) (E : Value → Shared → Prop), Le b s.heap → P1 u s.heap → P2 v s.heap → (∀ z s', Kp s s' → P z s'.heap → Q z s') → wpAny (model prog w) A (compareOp op u v) Q E s) 
    (hm : behindInMarks op r = false) : Ex prog w A env b (.Compare l [op] [r] p) P := fun s Q E hb h =>
  wpAny_Compare1 (x s _ _ hb fun u s₁ k₁ h₁ => y s₁ _ _ (hb.trans k₁.keep) fun v s₂ k₂ h₂ => hop u v s₂ _ _ ((hb.trans k₁.keep).trans k₂.keep) (st _ _ _ k₂.keep h₁) h₂ fun z s₃ k₃ h₃ => h z s₃ ((k₁.trans k₂).trans k₃) h₃) hm
theorem Ex.eq_s {l r : Expr} {p : Pos} {x y : List Nat} (hx : Ex prog w A env b l (sV x)) (hy : Ex prog w A env b r (sV y)) (hm : behindInMarks .Eq r = false := by with_unfolding_all rfl) : Ex prog w A env b (.Compare l [.Eq] [r] p) (bV (decide (x = y))) :=
  hx.cmp hy (fun _ _ _ _ q => q) (fun u v s Q E hb ⟨t, e1⟩ ⟨t', e2⟩ h => by
    subst e1 e2
    refine PyProof.Rows.eq_str ?_
    rw [S_beq]
    exact h _ _ .refl rfl) hm
theorem Ex.in_s {l r : Expr} {p : Pos} {c : Nat} {y : List Nat} (hx : Ex prog w A env b l (sV [c])) (hy : Ex prog w A env b r (sV y)) (hm : behindInMarks .In r = false := by with_unfolding_all rfl) : Ex prog w A env b (.Compare l [.In] [r] p) (bV (decide (c ∈ y))) :=
  hx.cmp hy (fun _ _ _ _ q => q) (fun u v s Q E hb ⟨t, e1⟩ ⟨t', e2⟩ h => by
    subst e1 e2
    refine PyProof.Rows.in_str ?_
    rw [has_S, Bool.not_not]
    exact h _ _ .refl rfl) hm
/-- the test of a comparison -/
theorem Ex.isTrue {op : CmpOp} {l r : Expr} {p : Pos} {c : Bool} {P1 P2 : Value → Heap → Prop} (x : Ex prog w A env b l P1) (y : Ex prog w A env b r P2) (st : ∀ v h h', Le h h' → P1 v h → P1 v h')
    (hop : ∀ u v (s : Shared) (Q : Value → Shared → Prop) (E : Value → Shared → Prop), Le b s.heap → P1 u s.heap → P2 v s.heap → Q (.bool c) s → wpAny (model prog w) A (compareOp op u v) Q E s) 
    (hm : behindInMarks op r = false := by with_unfolding_all rfl) {whole : Sem Value} {s : Shared} {Q : Bool → Shared → Prop} {E : Value → Shared → Prop} (hb : Le b s.heap) (h : ∀ s', Kp s s' → Q c s') : wpAny (model prog w) A (PySem.isTrue (.Compare l [op] [r] p) env whole) Q E s :=
  wpAny_isTrue_Compare1 (x s _ _ hb fun u s₁ k₁ h₁ => y s₁ _ _ (hb.trans k₁.keep) fun v s₂ k₂ h₂ => hop u v s₂ _ _ ((hb.trans k₁.keep).trans k₂.keep) (st _ _ _ k₂.keep h₁) h₂ (wpAny_truthy_bool (h s₂ (k₁.trans k₂)))) hm
theorem Ex.true_eq {l r : Expr} {p : Pos} {x y : List Nat} (hx : Ex prog w A env b l (sV x)) (hy : Ex prog w A env b r (sV y)) (hm : behindInMarks .Eq r = false := by with_unfolding_all rfl) {whole : Sem Value} {s : Shared} {Q : Bool → Shared → Prop} {E : Value → Shared → Prop} (hb : Le b s.heap)
    (h : ∀ s', Kp s s' → Q (decide (x = y)) s') : wpAny (model prog w) A (PySem.isTrue (.Compare l [.Eq] [r] p) env whole) Q E s :=
  hx.isTrue hy (fun _ _ _ _ q => q) (fun u v s Q E hb ⟨t, e1⟩ ⟨t', e2⟩ h => by
    subst e1 e2
    refine PyProof.Rows.eq_str ?_
    rw [S_beq]
    exact h) hm hb h
/-- a name of the machine's own -/
structure Glo (env : Env) (b : Heap) (x : Str) (v : Value) : Prop where
  k : env.scope.kind = .function
  l : env.kindOf x = some .globalImplicit
  d : (x == ("__debug__" : Str)) = false
  r : ∃ mg mb, b.Ns env.globals mg ∧ b.Ns env.builtins mb ∧ mg x = none ∧ mb x = some v
theorem Ex.built1 {x : Str} {p q : Pos} {id : String} {e : Expr} {P P' : Value → Heap → Prop} (G : Glo env b x (.builtin id)) (he : Ex prog w A env b e P)
    (hop : ∀ u (s : Shared) (Q : Value → Shared → Prop) (E : Value → Shared → Prop), Le b s.heap → P u s.heap → (∀ z s', Kp s s' → P' z s'.heap → Q z s') → wpAny (model prog w) A (call (.builtin id) [u]) Q E s)
    (hs : starEach [e] env = [(false, eval e env)] := by rfl) : Ex prog w A env b (.Call (.Name x p) [e] [] q) P' := fun s Q E hb h => by
  obtain ⟨mg, mb, g1, g2, g3, g4⟩ := G.r
  refine PyProof.Rows.Call_Name1 (Name_function_global G.k G.l (loadGlobal_builtin (g1.keeps hb) g3 (g2.keeps hb) g4 ?_) G.d) hs
  refine PySem.callWith_builtin1 (he s _ _ hb fun u s₁ k₁ h₁ => hop u s₁ _ _ (hb.trans k₁.keep) h₁ fun z s₂ k₂ h₂ => h z s₂ (k₁.trans k₂) h₂)
theorem Ex.type1 {x : Str} {p q : Pos} {id : String} {e : Expr} {P P' : Value → Heap → Prop} (G : Glo env b x (.type id)) (he : Ex prog w A env b e P)
    (hop : ∀ u (s : Shared) (Q : Value → Shared → Prop) (E : Value → Shared → Prop), Le b s.heap → P u s.heap → (∀ z s', Kp s s' → P' z s'.heap → Q z s') → wpAny (model prog w) A (call (.type id) [u]) Q E s)
    (hs : starEach [e] env = [(false, eval e env)] := by rfl) : Ex prog w A env b (.Call (.Name x p) [e] [] q) P' := fun s Q E hb h => by
  obtain ⟨mg, mb, g1, g2, g3, g4⟩ := G.r
  refine PyProof.Rows.Call_Name1 (Name_function_global G.k G.l (loadGlobal_builtin (g1.keeps hb) g3 (g2.keeps hb) g4 ?_) G.d) hs
  refine PySem.callWith_type1 (he s _ _ hb fun u s₁ k₁ h₁ => hop u s₁ _ _ (hb.trans k₁.keep) h₁ fun z s₂ k₂ h₂ => h z s₂ (k₁.trans k₂) h₂)
theorem Ex.int_b {x : Str} {p q : Pos} {e : Expr} {c : Bool} (G : Glo env b x (.type "int")) (he : Ex prog w A env b e (bV c)) (hs : starEach [e] env = [(false, eval e env)] := by rfl) : Ex prog w A env b (.Call (.Name x p) [e] [] q) (iV (if c then 1 else 0)) :=
  Ex.type1 G he (fun u s Q E hb h1 h => by
    cases h1
    exact call_int_bool (h _ _ (Kp.tk (Nat.le_succ _)) ⟨_, rfl⟩)) hs
theorem Ex.len_l {x : Str} {p q : Pos} {e : Expr} {D : Addr} {items : Array Value} (G : Glo env b x (.builtin "len")) (he : Ex prog w A env b e (fun v _ => v = .ref D)) (hl : b.IsList D items) (hz : items.size ≤ 1000000) (hs : starEach [e] env = [(false, eval e env)] := by rfl) :
    Ex prog w A env b (.Call (.Name x p) [e] [] q) (iV (items.size : Nat)) :=
  Ex.built1 G he (fun u s Q E hb h1 h => by
    cases h1
    exact len_list (hl.at fun o q => hb _ o q) (by omega) (h _ _ (Kp.tk (Nat.le_succ_of_le (Nat.le_succ _))) ⟨_, rfl⟩)) hs
theorem Ex.item_s {v i : Expr} {p : Pos} {l : List Nat} {k : Nat} (hv : Ex prog w A env b v (sV l)) (hi : Ex prog w A env b i (iV (k : Nat))) (hk : k < l.length) (hl : l.length ≤ 1000000)
    (hs : ∀ t u, subscripted i false (.str (S l) t) (.int (k : Nat) u) = operate [.str (S l) t, .int (k : Nat) u] (getItem (.str (S l) t) (.int (k : Nat) u)) := by intro _ _; with_unfolding_all rfl)
    (ht : ∀ t r, letTemporaryGo v (.str (S l) t) r = pure () := by intro _ _; with_unfolding_all rfl) : Ex prog w A env b (.Subscript v i p) (sV [l.getD k 0]) := fun s Q E hb h =>
  Subscript_ (hv s _ _ hb fun u s₁ k₁ ⟨t, e₁⟩ => hi s₁ _ _ (hb.trans k₁.keep) fun z s₂ k₂ ⟨t', e₂⟩ => by
    subst e₁ e₂
    exact itemS rfl hk hl (h _ _ ((k₁.trans k₂).trans (Kp.tk (Nat.le_succ _))) ⟨_, rfl⟩) (hs _ _) (ht _))
theorem Ex.slice_to {v u : Expr} {p p' : Pos} {l : List Nat} {k : Nat} (hv : Ex prog w A env b v (sV l)) (hi : Ex prog w A env b u (iV (k : Nat))) (hl : l.length ≤ 1000000)
    (hs : ∀ t D, subscripted (.Slice none (some u) none p') false (.str (S l) t) (.ref D) = operate [.ref D, .str (S l) t] (getItem (.str (S l) t) (.ref D)) := by intro _ _; with_unfolding_all rfl)
    (ht : ∀ t r, letTemporaryGo v (.str (S l) t) r = pure () := by intro _ _; with_unfolding_all rfl) : Ex prog w A env b (.Subscript v (.Slice none (some u) none p') p) (sV (l.take k)) := fun s Q E hb h =>
  Subscript_ (hv s _ _ hb fun u s₁ k₁ ⟨t, e₁⟩ => by
    subst e₁
    refine wpAny_Slice ?_
    rw [evalPart_none]
    refine wpAny_pure ?_
    rw [evalPart_some]
    refine hi s₁ _ _ (hb.trans k₁.keep) fun z s₂ k₂ ⟨t', e₂⟩ => ?_
    subst e₂
    refine wpAny_pure ?_
    refine wpAny_tok (tail_of_ItemOn (SBH.sliceItem_ns (P := Le s₂.heap) (fun h ob a => a.push ob) Le.rfl' (fun h' t' k a => ?_) (by rw [S_len, sizeLine_eq]; omega)) (hs _ _) (ht _))
    intro htk
    rw [slice_S_to]
    exact h _ _ ((k₁.trans k₂).trans (Kp.heap a htk)) ⟨_, rfl⟩)
end
end Mine
end
section
open Sem (wp)
namespace Mine
/-- a new list of numbers -/
def LV (ns : List Int) : Value → Heap → Prop := fun v h => ∃ D items nn, v = .ref D ∧ h.get? D = some (listOf items nn) ∧ IntsAre items.toList ns
/-- where a comprehension ends -/
def CompOut (s : Shared) (F : List Value → Prop) (RR : Value → Addr → Result → Shared → Prop) : Prop :=
  ∀ D C items nn s' mC, Le s.heap s'.heap → s.heap.get? D = none → s.heap.get? C = none → C ≠ D → s'.heap.Ns C mC → s'.heap.get? D = some (listOf items nn) → F items.toList → s'.os = s.os → s.toks ≤ s'.toks → RR (.ref D) C (.ok .next) s'
section
variable {prog : Program} {w : World} {A : Around} {env : Env} {b : Heap}
theorem LV.up {ns : List Int} : ∀ v h h', Le h h' → LV ns v h → LV ns v h' := fun v h h' k ⟨D, items, nn, e, q, i⟩ => ⟨D, items, nn, e, k _ _ q, i⟩
theorem Ex.list1 {e : Expr} {p : Pos} {n : Int} (he : Ex prog w A env b e (iV n)) (hs : starEach [e] env = (false, eval e env) :: starEach [] env := by rfl) : Ex prog w A env b (.List [e] p) (LV [n]) := fun s Q E hb h =>
  List_ (args_cons (he s _ _ hb fun v s₁ k₁ ⟨t, e₁⟩ => args_nil (by
    subst e₁
    refine wpAny_newList ?_ (by show 1 ≤ sizeLine; decide)
    exact h _ _ (k₁.trans ⟨fun a o q => Heap.get?_push_of_some _ q, rfl, Nat.le_refl _⟩) ⟨_, _, _, rfl, Heap.get?_push_size _ rfl, .cons _ _ .nil⟩)) hs)
theorem Ex.add_l {l r : Expr} {p : Pos} {x y : List Int} (hx : Ex prog w A env b l (LV x)) (hy : Ex prog w A env b r (LV y)) (hz : x.length + y.length ≤ 1000000) : Ex prog w A env b (.BinOp l .Add r p) (LV (x ++ y)) :=
  hx.bin hy LV.up fun u v s Q E hb ⟨D, it, nn, e1, q1, i1⟩ ⟨D', it', nn', e2, q2, i2⟩ h => by
    subst e1 e2
    have z1 := i1.length
    have z2 := i2.length
    rw [Array.length_toList] at z1 z2
    refine P.add_list (hsz := by rw [sizeLine_eq]; omega) q1 q2 ?_
    exact h _ _ ⟨fun a o q => Heap.get?_push_of_some _ q, rfl, Nat.le_refl _⟩ ⟨_, _, _, rfl, Heap.get?_push_size _ rfl, by rw [Array.toList_append]; exact i1.append i2⟩
theorem Ex.max_l {x : Str} {p q : Pos} {e : Expr} {ns : List Int} {M : Int} (hh : A.handled = none) (G : Glo env b x (.builtin "max")) (he : Ex prog w A env b e (LV ns)) (hne : 0 < ns.length) (hM : ∀ m, m ∈ ns → (∀ a, a ∈ ns → a ≤ m) → m = M)
    (hs : starEach [e] env = [(false, eval e env)] := by rfl) : Ex prog w A env b (.Call (.Name x p) [e] [] q) (iV M) :=
  Ex.built1 G he (fun u s Q E hb ⟨D, it, nn, e1, q1, i1⟩ h => by
    subst e1
    refine maxK (vs := it.toList) hh ⟨_, q1, rfl, nn, rfl⟩ i1 hne fun m t s' k h1 h2 => ?_
    rw [hM m h1 h2]
    exact h _ _ k ⟨_, rfl⟩) hs
theorem Ex.count {o e : Expr} {pos apos : Pos} {D : Addr} {items : Array Value} {nn : Nat} {ns : List Int} {k : Int} {pl : Sem Bool} (ho : Ex prog w A env b o (fun v _ => v = .ref D)) (he : Ex prog w A env b e (iV k)) (hl : b.get? D = some (listOf items nn)) (hi : IntsAre items.toList ns)
    (hs : starEach [e] env = (false, eval e env) :: starEach [] env := by rfl)
    (hc : eval (.Call (.Attribute o (Str.ofString "count") apos) [e] [] pos) env = (do
      let ov ← eval o env
      standAt apos.atName
      let (f, first) ← holding [ov] (getMethod ov (Str.ofString "count") pl)
      callWith pos f first (backTo pos (starEach [e] env)) []) := by rfl) : Ex prog w A env b (.Call (.Attribute o (Str.ofString "count") apos) [e] [] pos) (iV (ns.count k : Nat)) := fun s Q E hb h => by
  refine MethodCall_ (ho s _ _ hb fun u s₁ k₁ e₁ => ?_) hc
  subst e₁
  have q1 : s₁.heap.get? D = some (listOf items nn) := k₁.keep _ _ (hb _ _ hl)
  refine getMethod_list_of PySem.F.slot_list_count PySem.F.type_list_count (items := items) ⟨_, q1, rfl, nn, rfl⟩ ⟨_, q1, rfl⟩ ?_
  refine callWith_method1 (args_cons (he s₁ _ _ (hb.trans k₁.keep) fun v s₂ k₂ e₂ => ?_) hs) hs
  obtain ⟨t, rfl⟩ := e₂
  refine args_nil ?_
  refine count_list_ints (vs := items.toList) ⟨_, k₂.keep _ _ q1, rfl, nn, rfl⟩ hi ?_
  exact h _ _ ((k₁.trans k₂).trans (Kp.tk (Nat.le_succ _))) ⟨_, rfl⟩
/-- a comprehension, from what it is drawn from on -/
def CompGo (prog : Program) (w : World) (A : Around) (env : Env) (scope : Scope) (cl : List (Str × Addr)) (elt target iter : Expr) (ifs : List Expr) (pos : Pos) (RR : Value → Addr → Result → Shared → Prop) (E : Value → Shared → Prop) (v : Value) (s : Shared) : Prop :=
  wpAny (model prog w) A (pyIter v) (fun it s₂ => wpAny (model prog w) A (newList []) (fun acc s₃ => wpAny (model prog w) A (newFunctionEnv scope env.globals cl [] env.qual none .none (some env)) (fun cenv s₄ =>
    codeAny (model prog w) A (.compStart (.ListComp elt [⟨target, iter, ifs, 0⟩] scope pos) 0 it acc { cenv with scope := relabel scope env }) (RR acc cenv.locals) s₄) E s₃) E s₂) E s
/-- what a comprehension gives, from any state that holds b -/
def Body (prog : Program) (w : World) (A : Around) (env : Env) (b : Heap) (scope : Scope) (cl : List (Str × Addr)) (elt target iter : Expr) (ifs : List Expr) (pos : Pos) (F : List Value → Prop) : Prop :=
  ∀ (s : Shared) (RR : Value → Addr → Result → Shared → Prop) (E : Value → Shared → Prop), Le b s.heap → CompOut s F RR → wpAny (model prog w) A (eval iter env) (CompGo prog w A env scope cl elt target iter ifs pos RR E) E s
theorem CompOut.later {s s₁ : Shared} {F : List Value → Prop} {RR : Value → Addr → Result → Shared → Prop} (k : Kp s s₁) (x : CompOut s F RR) : CompOut s₁ F RR := by
  have nn : ∀ a, s₁.heap.get? a = none → s.heap.get? a = none := fun a h => by
    cases q : s.heap.get? a with
    | none => rfl
    | some o => rw [k.keep a o q] at h; cases h
  exact fun D C items nn' s' mC k₁ nD nC CD hns hD hF os tk => x D C items nn' s' mC (Le.trans k.keep k₁) (nn D nD) (nn C nC) CD hns hD hF (os.trans k.os) (Nat.le_trans k.tok tk)
theorem Body.ofEx {elt target iter : Expr} {ifs : List Expr} {scope : Scope} {cl : List (Str × Addr)} {pos : Pos} {Pi : Value → Heap → Prop} {F : List Value → Prop} (hit : Ex prog w A env b iter Pi)
    (body : ∀ v s RR E, Le b s.heap → Pi v s.heap → CompOut s F RR → CompGo prog w A env scope cl elt target iter ifs pos RR E v s) : Body prog w A env b scope cl elt target iter ifs pos F := fun s RR E hb out =>
  hit s _ _ hb fun v s₁ k₁ h₁ => body v s₁ _ _ (hb.trans k₁.keep) h₁ (out.later k₁)
theorem Ex.comp {elt target iter : Expr} {ifs : List Expr} {scope : Scope} {cl : List (Str × Addr)} {pos : Pos} {F : List Value → Prop} (hclos : closureFor scope env = pure cl) (hkind : scope.kind = .function)
    (hnames : ∀ x ∈ scope.names, x.2 = .local → scope.names.lookup x.1 = some .local) (body : Body prog w A env b scope cl elt target iter ifs pos F)
    (hs : ∀ x, foldedSetIterable iter env x = pure x := by intro _; rfl) :
    Ex prog w A env b (.ListComp elt [⟨target, iter, ifs, 0⟩] scope pos) (fun v h => ∃ D items nn, v = .ref D ∧ h.get? D = some (listOf items nn) ∧ F items.toList) := fun s Q E hb h => by
  rw [eval_ListComp]
  refine wpAny_comprehension_free (use := none) rfl hs hclos hkind hnames (body s _ _ hb ?_)
  intro D C items nn s' mC k nD nC CD hns hD hF os tk
  refine ⟨mC, hns, fun h' hs' => ?_⟩
  refine h _ _ ⟨fun a o q => (hs'.2 a fun e => by rw [e, nC] at q; cases q).trans (k a o q), os, tk⟩ ⟨D, items, nn, rfl, (hs'.2 D (Ne.symm CD)).trans hD, hF⟩
theorem Body.pairs {iter c : Expr} {p1 p2 p3 p4 pos : Pos} {scope : Scope} {cl : List (Str × Addr)} {pp : Addr} {pr : List (Nat × Nat)} (hh : A.handled = none) (hp : PairList b pp pr) (hn : pr.length ≤ 100000) (P : Nat × Nat → Bool)
    (hcell : ∀ y ∈ scope.names, y.2 ≠ .cell) (hkind : scope.kind = .function) (hi : ∀ C, (compEnvC scope cl C env).kindOf (Str.ofString "i") = some .local) (hj : ∀ C, (compEnvC scope cl C env).kindOf (Str.ofString "j") = some .local)
    (hit : Ex prog w A env b iter (fun v _ => v = .ref pp))
    (test : ∀ q C (s' : Shared) m t u, s'.heap.Ns C m → m (Str.ofString "i") = some (.int (q : Nat × Nat).1 t) → m (Str.ofString "j") = some (.int (q.2 : Nat) u) → Le b s'.heap →
      wpAny (model prog w) A (PySem.isTrue c (compEnvC scope cl C env) (eval c (compEnvC scope cl C env))) (fun ok s'' => ok = P q ∧ Kp s' s'') (fun _ _ => False) s') :
    Body prog w A env b scope cl (.Name (Str.ofString "i") p1) (.Tuple [.Name (Str.ofString "i") p2, .Name (Str.ofString "j") p3] 0 p4) iter [c] pos (fun vs => IntsAre vs (((pr.filter P).map (·.1)).map fun (i : Nat) => (i : Int))) :=
  Body.ofEx hit fun v s RR E hb hv out => by
    subst hv
    refine pairs_comp hh (hp.keeps hb) hn P hcell hkind hi hj (fun q C s' m t u h1 h2 h3 k => test q C s' m t u h1 h2 h3 (hb.trans k)) ?_
    exact out
/-- a comprehension over what is drawn one by one, when its parts are read -/
theorem comp_src {elt target iter : Expr} {ifs : List Expr} {scope : Scope} {cl : List (Str × Addr)} {pos : Pos} {s₀ s : Shared} {it : Addr} {fp wr : List Addr} {n : Nat} {St : Nat → Heap → Prop} {Kd : Env → Prop} {Bd : Nat → (Str → Option Value) → Prop} {RR : Value → Addr → Result → Shared → Prop} {E : Value → Shared → Prop}
    {F : List Value → Prop} (k₀ : Kp s₀ s) (nw : ∀ a ∈ wr, s₀.heap.get? a = none) (W : Src prog w A it fp wr n St target Kd Bd) (hn : n ≤ 100000) (p : Nat → Bool) (Fv : Nat → Value → Prop) (hF : ∀ vs, Paired Fv ((List.range n).filter p) vs → F vs)
    (hcell : ∀ y ∈ scope.names, y.2 ≠ .cell) (hkind : scope.kind = .function) (hK : ∀ C, Kd (compEnvC scope cl C env)) (hst : St 0 s.heap) (hfp : ∀ a ∈ fp, a < s.heap.objs.size)
    (tests : ∀ i C (s' : Shared) m, i < n → s'.heap.Ns C m → Bd i m → Le s₀.heap s'.heap →
      wpAny (model prog w) A (forIn ifs true fun c r => if r = true then do let ok ← isTrue c (compEnvC scope cl C env) (eval c (compEnvC scope cl C env)); pure (ForInStep.yield ok) else pure (ForInStep.yield r)) (fun ok s'' => ok = p i ∧ Kp s' s'') (fun _ _ => False) s')
    (elts : ∀ i C h m, i < n → p i = true → h.Ns C m → Bd i m → Le s₀.heap h → Ex prog w A (compEnvC scope cl C env) h elt (fun v _ => Fv i v))
    (out : CompOut s₀ F RR) :
    wpAny (model prog w) A (newList []) (fun acc s₃ => wpAny (model prog w) A (newFunctionEnv scope env.globals cl [] env.qual none .none (some env)) (fun cenv s₄ =>
      codeAny (model prog w) A (.compStart (.ListComp elt [⟨target, iter, ifs, 0⟩] scope pos) 0 (.ref it) acc { cenv with scope := relabel scope env }) (RR acc cenv.locals) s₄) E s₃) E s := by
  have low : ∀ {s' : Shared}, (∀ b o, b ∉ wr → s.heap.get? b = some o → s'.heap.get? b = some o) → Le s₀.heap s'.heap := fun k a o q => k a o (fun e => by rw [nw a e] at q; cases q) (k₀.keep a o q)
  have nn : ∀ a, s.heap.get? a = none → s₀.heap.get? a = none := fun a h => by
    cases q : s₀.heap.get? a with
    | none => rfl
    | some o => rw [k₀.keep a o q] at h; cases h
  refine comp_list W p Fv hn hcell hkind hK hst hfp ?_ ?_ ?_
  · intro i C s' m hlt h1 h2 k _ _
    exact tests i C s' m hlt h1 h2 (low k)
  · intro i C s' m hlt hp h1 h2 k _ _
    exact elts i C s'.heap m hlt hp h1 h2 (low k) s' _ _ Le.rfl' fun v s'' k' hv => ⟨hv, k'⟩
  · intro D C items nn' s' mC k nD nC CD hns hD hP os tk
    exact out D C items nn' s' mC (low k) (nn D nD) (nn C nC) CD hns hD (hF _ hP) (os.trans k₀.os) (Nat.le_trans k₀.tok tk)
end
end Mine
end
section
open Sem (wp)
namespace Mine
def RngV (n : Nat) : Value → Heap → Prop := fun v h => ∃ r t u w, v = .ref r ∧ IsRange h r 0 (n : Nat) 1 t u w
section
variable {prog : Program} {w : World} {A : Around} {env : Env} {b : Heap}
theorem Ex.range1 {x : Str} {p q : Pos} {e : Expr} {n : Nat} {k : Int} (G : Glo env b x (.type "range")) (he : Ex prog w A env b e (iV k)) (ek : k = (n : Nat)) (hs : starEach [e] env = [(false, eval e env)] := by rfl) : Ex prog w A env b (.Call (.Name x p) [e] [] q) (RngV n) :=
  Ex.type1 G he (fun u s Q E hb ⟨t, h1⟩ h => by
    subst h1 ek
    refine call_range_1 ?_
    exact h _ _ ⟨fun a o q => Heap.get?_push_of_some _ q, rfl, Nat.le_succ_of_le (Nat.le_succ _)⟩ ⟨_, _, _, _, rfl, Heap.get?_push_size _ rfl⟩) hs
theorem fresh_get (h : Heap) : h.get? h.objs.size = none := Heap.get?_none_of_le (Nat.le_refl _)
theorem range_iter {s : Shared} {n : Nat} {r : Addr} {t u v : Tok} {Q : Value → Shared → Prop} {E : Value → Shared → Prop} (hr : IsRange s.heap r 0 (n : Nat) 1 t u v) (hn : n ≤ 100000)
    (h : ∀ s', Kp s s' → s'.heap.objs.size = s.heap.objs.size + 1 → IsRangeIter s'.heap s.heap.objs.size ((0 : Int) + (0 : Nat) * 1) ((n : Int) - (0 : Nat)) 1 → Q (.ref s.heap.objs.size) s') : wpAny (model prog w) A (pyIter (.ref r)) Q E s := by
  have pw : (2 : Int) ^ 62 = 4611686018427387904 := by decide
  refine wpAny_pyIter_range hr (small_one (by omega) (by omega) (by omega) (by omega)) (h _ ⟨fun a o q => Heap.get?_push_of_some _ q, rfl, Nat.le_refl _⟩ (Heap.size_push ..) ?_)
  have e2 : Builtin.Range.rangeSize (0 : Int) (n : Int) 1 = (n : Int) - ((0 : Nat) : Int) := by rw [rangeSize_one]; split <;> omega
  show IsRangeIter _ _ ((0 : Int) + ((0 : Nat) : Int) * 1) _ 1
  rw [← e2]
  exact Heap.get?_push_size _ rfl
/-- over a range, into a name of its own -/
theorem Body.range {elt iter : Expr} {x : Str} {px : Pos} {ifs : List Expr} {scope : Scope} {cl : List (Str × Addr)} {pos : Pos} {n : Nat} {F : List Value → Prop} (hh : A.handled = none) (hit : Ex prog w A env b iter (RngV n)) (hn : n ≤ 100000)
    (hcell : ∀ y ∈ scope.names, y.2 ≠ .cell) (hkind : scope.kind = .function) (hx : ∀ C, (compEnvC scope cl C env).kindOf x = some .local) (p : Nat → Bool) (Fv : Nat → Value → Prop) (hF : ∀ vs, Paired Fv ((List.range n).filter p) vs → F vs)
    (tests : ∀ i C (s' : Shared) m t, i < n → s'.heap.Ns C m → m x = some (.int (i : Nat) t) → Le b s'.heap →
      wpAny (model prog w) A (forIn ifs true fun c r => if r = true then do let ok ← isTrue c (compEnvC scope cl C env) (eval c (compEnvC scope cl C env)); pure (ForInStep.yield ok) else pure (ForInStep.yield r)) (fun ok s'' => ok = p i ∧ Kp s' s'') (fun _ _ => False) s')
    (elts : ∀ i C h m t, i < n → p i = true → h.Ns C m → m x = some (.int (i : Nat) t) → Le b h → Ex prog w A (compEnvC scope cl C env) h elt (fun v _ => Fv i v)) :
    Body prog w A env b scope cl elt (.Name x px) iter ifs pos F := Body.ofEx hit fun v s RR E hb ⟨r, t, u, z, ev, hr⟩ out => by
  subst ev
  refine range_iter hr hn fun s₁ k₁ sz hI => ?_
  refine comp_src k₁ (wr := [s.heap.objs.size]) (fun a ha => by rw [List.mem_singleton.mp ha]; exact fresh_get _) (Src.ofWalks (Walks.range hh s.heap.objs.size 0 1 n) x px) hn p Fv hF hcell hkind (fun C => ⟨hx C, hkind⟩) hI (fun a ha => by rw [List.mem_singleton.mp ha, sz]; exact Nat.lt_succ_self _) ?_ ?_ out
  · rintro i C s' m hlt h1 ⟨v, ⟨t', rfl⟩, h2⟩ k
    exact tests i C s' m t' hlt h1 (by rw [h2]; congr 2; omega) (hb.trans k)
  · rintro i C h m hlt hp h1 ⟨v, ⟨t', rfl⟩, h2⟩ k
    exact elts i C h m t' hlt hp h1 (by rw [h2]; congr 2; omega) (hb.trans k)
/-- over a range, into a cell -/
theorem Body.rangeP {elt iter : Expr} {x : Str} {px : Pos} {ifs : List Expr} {scope : Scope} {cl : List (Str × Addr)} {pos : Pos} {n : Nat} {F : List Value → Prop} (hh : A.handled = none) (hit : Ex prog w A env b iter (RngV n)) (hn : n ≤ 100000)
    (hcells : ∀ C, cellsFrom (C + 1) scope.names cl = (x, C + 1) :: cl) (hpush : ∀ h : Heap, pushCells h scope.names = h.push { cls := .type "cell", data := .cell none }) (hkind : scope.kind = .function)
    (hkc : ∀ C, (cellEnv scope x cl C env).kindOf x = some .cell) (p : Nat → Bool) (Fv : Nat → Value → Prop) (hF : ∀ vs, Paired Fv ((List.range n).filter p) vs → F vs)
    (tests : ∀ i C (s' : Shared) t, i < n → s'.heap.IsCell (C + 1) (some (.int (i : Nat) t)) → Le b s'.heap →
      wpAny (model prog w) A (forIn ifs true fun c r => if r = true then do let ok ← isTrue c (cellEnv scope x cl C env) (eval c (cellEnv scope x cl C env)); pure (ForInStep.yield ok) else pure (ForInStep.yield r)) (fun ok s'' => ok = p i ∧ Kp s' s'') (fun _ _ => False) s')
    (elts : ∀ i C h t, i < n → p i = true → h.IsCell (C + 1) (some (.int (i : Nat) t)) → Le b h → Ex prog w A (cellEnv scope x cl C env) h elt (fun v _ => Fv i v)) :
    Body prog w A env b scope cl elt (.Name x px) iter ifs pos F := Body.ofEx hit fun v s RR E hb ⟨r, t, u, z, ev, hr⟩ out => by
  subst ev
  refine range_iter hr hn fun s₁ k₁ sz hI => ?_
  have nI : ∀ a o, s.heap.get? a = some o → a ∉ [s.heap.objs.size] := fun a o q e => by rw [List.mem_singleton.mp e, fresh_get] at q; cases q
  have low : ∀ {s' : Shared}, (∀ b o, b ∉ [s.heap.objs.size] → s₁.heap.get? b = some o → s'.heap.get? b = some o) → Le s.heap s'.heap := fun k a o q => k a o (nI a o q) (k₁.keep a o q)
  have nn : ∀ a, s₁.heap.get? a = none → s.heap.get? a = none := fun a h => by
    cases q : s.heap.get? a with
    | none => rfl
    | some o => rw [k₁.keep a o q] at h; cases h
  have ei : ∀ i : Nat, (0 : Int) + (i : Nat) * 1 = ((i : Nat) : Int) := fun i => by omega
  refine comp_listP (Walks.range hh s.heap.objs.size 0 1 n) p Fv hn hcells hpush hkind hkc hI (fun a ha => by rw [List.mem_singleton.mp ha, sz]; exact Nat.lt_succ_self _) ?_ ?_ ?_
  · rintro i v C s' hlt ⟨t', rfl⟩ h1 k _ _
    rw [ei] at h1
    exact tests i C s' t' hlt h1 (hb.trans (low k))
  · rintro i v C s' hlt hp ⟨t', rfl⟩ h1 k _ _
    rw [ei] at h1
    exact elts i C s'.heap t' hlt hp h1 (hb.trans (low k)) s' _ _ Le.rfl' fun v s'' k' hv => ⟨hv, k'⟩
  · intro D C items nn' s' mC k nD nC CD hns hD hP os tk
    exact out D C items nn' s' mC (low k) (nn D nD) (nn C nC) CD hns hD (hF _ hP) (os.trans k₁.os) (Nat.le_trans k₁.tok tk)
/-- over the signs of a text -/
theorem Body.str {elt iter : Expr} {x : Str} {px : Pos} {scope : Scope} {cl : List (Str × Addr)} {pos : Pos} {l : List Nat} {F : List Value → Prop} (hh : A.handled = none) (hit : Ex prog w A env b iter (sV l)) (hn : l.length ≤ 100000)
    (hcell : ∀ y ∈ scope.names, y.2 ≠ .cell) (hkind : scope.kind = .function) (hx : ∀ C, (compEnvC scope cl C env).kindOf x = some .local) (Fv : Nat → Value → Prop) (hF : ∀ vs, Paired Fv (List.range l.length) vs → F vs)
    (elts : ∀ i c C h m t, l[i]? = some c → h.Ns C m → m x = some (.str (S [c]) t) → Le b h → Ex prog w A (compEnvC scope cl C env) h elt (fun v _ => Fv i v)) :
    Body prog w A env b scope cl elt (.Name x px) iter [] pos F := Body.ofEx hit fun v s RR E hb ⟨t, ev⟩ out => by
  subst ev
  refine wpAny_pyIter_strU ?_
  refine comp_src (s₀ := s) ⟨fun a o q => Heap.get?_push_of_some _ q, rfl, Nat.le_refl _⟩ (wr := [s.heap.objs.size]) (fun a ha => by rw [List.mem_singleton.mp ha]; exact fresh_get _) (Src.ofWalks (walks_str hh s.heap.objs.size l t) x px) hn (fun _ => true) Fv (fun vs h => hF vs (by rwa [List.filter_eq_self.mpr fun _ _ => rfl] at h)) hcell hkind (fun C => ⟨hx C, hkind⟩)
    ⟨_, Heap.get?_push_size _ rfl, rfl, rfl⟩ (fun a ha => by rw [List.mem_singleton.mp ha, Heap.size_push]; exact Nat.lt_succ_self _) ?_ ?_ out
  · intro i C s' m hlt h1 h2 k
    exact wpAny_tests_nil ⟨rfl, .refl⟩
  · rintro i C h m hlt hp h1 ⟨v, ⟨c, t', hc, rfl⟩, h2⟩ k
    exact elts i c C h m t' hc h1 h2 (hb.trans k)
/-- over a list of numbers -/
theorem Body.ints {elt iter : Expr} {x : Str} {px : Pos} {scope : Scope} {cl : List (Str × Addr)} {pos : Pos} {ns : List Int} {F : List Value → Prop} (hh : A.handled = none) (hit : Ex prog w A env b iter (LV ns)) (hn : ns.length ≤ 100000)
    (hcell : ∀ y ∈ scope.names, y.2 ≠ .cell) (hkind : scope.kind = .function) (hx : ∀ C, (compEnvC scope cl C env).kindOf x = some .local) (Fv : Nat → Value → Prop) (hF : ∀ vs, Paired Fv (List.range ns.length) vs → F vs)
    (elts : ∀ i C h m t, i < ns.length → h.Ns C m → m x = some (.int (ns.getD i 0) t) → Le b h → Ex prog w A (compEnvC scope cl C env) h elt (fun v _ => Fv i v)) :
    Body prog w A env b scope cl elt (.Name x px) iter [] pos F := Body.ofEx hit fun v s RR E hb ⟨D, items, nn, ev, q, hi⟩ out => by
  subst ev
  have hlen := hi.length
  rw [Array.length_toList] at hlen
  have hl : s.heap.IsList D items := ⟨_, q, rfl, nn, rfl⟩
  have lD := Heap.lt_size q
  refine wpAny_pyIter_list hl ?_
  refine comp_src (s₀ := s) ⟨fun a o q => Heap.get?_push_of_some _ q, rfl, Nat.le_refl _⟩ (wr := [s.heap.objs.size]) (fun a ha => by rw [List.mem_singleton.mp ha]; exact fresh_get _) (Src.ofWalks (Walks.list hh s.heap.objs.size D (Nat.ne_of_lt lD) items) x px) (by omega) (fun _ => true) Fv (fun vs h => hF vs (by rwa [List.filter_eq_self.mpr fun _ _ => rfl, hlen] at h)) hcell hkind (fun C => ⟨hx C, hkind⟩)
    ⟨⟨_, Heap.get?_push_size _ rfl, rfl, rfl⟩, hl.push _⟩ (fun a ha => by
      rw [Heap.size_push]
      rcases List.mem_cons.mp ha with rfl | ha
      · exact Nat.lt_succ_self _
      · rw [List.mem_singleton.mp ha]; exact Nat.lt_succ_of_lt lD) ?_ ?_ out
  · intro i C s' m hlt h1 h2 k
    exact wpAny_tests_nil ⟨rfl, .refl⟩
  · rintro i C h m hlt hp h1 ⟨v, hv, h2⟩ k
    obtain ⟨t, rfl⟩ := hi.int_at i v (by rw [Array.getElem?_toList]; exact hv)
    exact elts i C h m t (by omega) h1 h2 (hb.trans k)
/-- what comes in twos, into two names -/
theorem Src.ofWalksT (hh : A.handled = none) {I : Addr} {fp wr : List Addr} {n : Nat} {Pt : Nat → Array Value → Prop} {St : Nat → Heap → Prop} {Mid : Nat → Addr → Heap → Prop} (W : WalksT prog w A I fp wr n Pt St Mid) (two : ∀ i vals, Pt i vals → ∃ a b, vals = #[a, b]) (x y : Str) (hxy : x ≠ y) (px py pt : Pos) (k : Nat) :
    Src prog w A I fp wr n St (.Tuple [.Name x px, .Name y py] k pt) (fun ce => ce.kindOf x = some .local ∧ ce.kindOf y = some .local ∧ ce.scope.kind = .function) (fun i m => ∃ a b, Pt i #[a, b] ∧ m x = some a ∧ m y = some b) where
  sub := W.sub
  self := fun s Q E st hq => W.self 0 s Q E st hq
  frame := W.frame
  bind := fun i ce s m Q hi st hn hC hK h => by
    have wC : ce.locals ∉ wr := fun q => hC (W.sub _ q)
    refine wpAny_tok (W.item i s _ _ hi st fun T vals h' tk hP hT hTt hM hk => ?_)
    intro htk
    obtain ⟨a, b', rfl⟩ := two i vals hP
    show wpAny _ _ (letOwnedTupleGo (.Tuple [.Name x px, .Name y py] k pt) (.ref I) (.ref T)) _ _ _
    refine W.go _ _ _ i T _ _ _ hM fun h₂ hS₂ hk₂ => ?_
    have hT₂ : h₂.IsTuple T #[a, b'] := by
      obtain ⟨o, ho, r⟩ := hTt
      exact ⟨o, hk₂ _ _ (W.apart _ _ _ hM) ho, r⟩
    refine wpAny_assign_Tuple hh hT₂ rfl rfl fun h₃ hx₃ => ?_
    have old₃ : ∀ b o, h₂.get? b = some o → h₃.get? b = some o := fun b o q => hx₃ b o (Nat.ne_of_lt (Heap.lt_size q)) q
    show wpAny _ _ (do holding [b'] (assign (.Name x px) ce a); do holding [] (assign (.Name y py) ce b'); pure ()) _ _ _
    refine wpAny_bind (wpAny_holding (wpAny_assign_Name (wpAny_storeName_local hK.1 ((hn.at' fun o q => hk₂ _ o wC (hk _ o wC q)).keeps old₃) (fun h₄ hn₄ hs₄ => ?_) (notClass hK.2.2))))
    replace hs₄ : Heap.SameBut ce.locals h₃ h₄ := hs₄
    refine wpAny_bind (wpAny_holding (wpAny_assign_Name (wpAny_storeName_local hK.2.1 hn₄ (fun h₅ hn₅ hs₅ => wpAny_pure ?_) (notClass hK.2.2))))
    replace hs₅ : Heap.SameBut ce.locals h₄ h₅ := hs₅
    have up : ∀ b o, b ≠ ce.locals → h₂.get? b = some o → h₅.get? b = some o := fun b o hb q => (hs₅.2 b hb).trans ((hs₄.2 b hb).trans (old₃ b o q))
    refine h _ _ (W.frame _ _ _ hS₂ fun b hb o q => up b o (fun e => hC (e ▸ hb)) q) hn₅ ⟨a, b', hP, ?_, if_pos rfl⟩ (fun b o hb hc q => up b o hc (hk₂ b o hb (hk b o hb q))) rfl ?_
    · show (if x = y then _ else if x = x then _ else _) = _
      rw [if_neg hxy, if_pos rfl]
    · dsimp only at htk ⊢; omega
  done := fun s Q st h => wpAny_tok (W.done s _ _ st fun h' tk hk' htk => h _ hk' rfl htk)
theorem zip_apart (N D1 D2 : Nat) (h1 : D1 < N) (h2 : D2 < N) : ZipApart (N + 4) (N + 2) (N + 3) N (N + 1) D1 D2 := by
  constructor <;> (intro e; change @Eq Nat _ _ at e; omega)
theorem zip_low (N D1 D2 : Nat) (h1 : D1 < N) (h2 : D2 < N) (a : Nat) (ha : a ∈ [N + 4, N + 2, N + 3, N, N + 1, D1, D2]) : a < N + 5 := by
  simp only [List.mem_cons, List.not_mem_nil, or_false] at ha
  omega
/-- over two lists at once -/
theorem Body.zip {elt : Expr} {z1 z2 : Expr} {zx : Str} {zp zq : Pos} {x y : Str} {px py pt : Pos} {k : Nat} {scope : Scope} {cl : List (Str × Addr)} {pos : Pos} {D1 D2 : Addr} {it1 it2 : Array Value} {F : List Value → Prop} (hh : A.handled = none)
    (G : Glo env b zx (.type "zip")) (h1 : Ex prog w A env b z1 (fun v _ => v = .ref D1)) (h2 : Ex prog w A env b z2 (fun v _ => v = .ref D2)) (q1 : b.IsList D1 it1) (q2 : b.IsList D2 it2) (hn : it1.size ≤ 100000) (e12 : it1.size = it2.size)
    (hcell : ∀ y ∈ scope.names, y.2 ≠ .cell) (hkind : scope.kind = .function) (hxy : x ≠ y) (hx : ∀ C, (compEnvC scope cl C env).kindOf x = some .local) (hy : ∀ C, (compEnvC scope cl C env).kindOf y = some .local) (Fv : Nat → Value → Prop) (hF : ∀ vs, Paired Fv (List.range it1.size) vs → F vs)
    (elts : ∀ i u v C h m, i < it1.size → it1[i]? = some u → it2[i]? = some v → h.Ns C m → m x = some u → m y = some v → Le b h → Ex prog w A (compEnvC scope cl C env) h elt (fun v _ => Fv i v))
    (hs : starEach [z1, z2] env = [(false, eval z1 env), (false, eval z2 env)] := by rfl) :
    Body prog w A env b scope cl elt (.Tuple [.Name x px, .Name y py] k pt) (.Call (.Name zx zp) [z1, z2] [] zq) [] pos F := fun s RR E hb out => by
  obtain ⟨mg, mb, g1, g2, g3, g4⟩ := G.r
  refine PyProof.Rows.Call_Name2 (Name_function_global G.k G.l (loadGlobal_builtin (g1.keeps hb) g3 (g2.keeps hb) g4 ?_) G.d) hs
  refine PyProof.Rows.callWith_type rfl (evalArgs_plain (spliced_cons (h1 s _ _ hb fun v s₁ k₁ e₁ => spliced_cons (h2 s₁ _ _ (hb.trans k₁.keep) fun v' s₂ k₂ e₂ => spliced_nil ?_))))
  subst e₁ e₂
  have k₁₂ := k₁.trans k₂
  have b₂ := hb.trans k₁₂.keep
  have l1 : s₂.heap.IsList D1 it1 := q1.at fun o q => b₂ _ o q
  have l2 : s₂.heap.IsList D2 it2 := q2.at fun o q => b₂ _ o q
  have z1' : D1 < s₂.heap.objs.size := let ⟨_, q, _⟩ := l1; Heap.lt_size q
  have z2' : D2 < s₂.heap.objs.size := let ⟨_, q, _⟩ := l2; Heap.lt_size q
  refine call_zip_2 l1 l2 fun h' i1 i2 i3 i4 i5 sz kp => ?_
  have out₂ := out.later k₁₂
  obtain ⟨hp, g, d, tk, os⟩ := s₂
  dsimp only at *
  generalize hN : hp.objs.size = N at *
  have DA := zip_apart N D1 D2 z1' z2'
  have fr : ∀ j, hp.get? (N + j) = none := fun j => Heap.get?_none_of_le (by rw [hN]; exact Nat.le_add_right _ _)
  have emin : min it1.size it2.size = it1.size := by omega
  refine wpAny_pyIter_zip i1 ?_
  have W := Src.ofWalksT hh (WalksT.zip2 (prog := prog) (w := w) hh (N + 4) (N + 2) (N + 3) N (N + 1) D1 D2 DA it1 it2) (fun i vals ⟨a, b, _, _, e⟩ => ⟨a, b, e⟩) x y hxy px py pt k
  rw [emin] at W
  refine comp_src (s₀ := ⟨hp, g, d, tk, os⟩) ⟨kp, rfl, Nat.le_refl _⟩ (wr := [N + 4, N + 3, N, N + 1]) (fun a ha => ?_) W hn (fun _ => true) Fv (fun vs h => hF vs (by rwa [List.filter_eq_self.mpr fun _ _ => rfl] at h)) hcell hkind (fun C => ⟨hx C, hy C, hkind⟩)
    ⟨i1, i2, ⟨_, _, i3⟩, i4, i5, l1.at fun o q => kp _ o q, l2.at fun o q => kp _ o q⟩ (fun a ha => ?_) ?_ ?_ out₂
  · simp only [List.mem_cons, List.not_mem_nil, or_false] at ha
    rcases ha with rfl | rfl | rfl | rfl
    · exact fr 4
    · exact fr 3
    · exact fr 0
    · exact fr 1
  · show a < h'.objs.size
    rw [sz]
    exact zip_low N D1 D2 z1' z2' a ha
  · intro i C s' m hlt h1 h2 k
    exact wpAny_tests_nil ⟨rfl, .refl⟩
  · rintro i C h m hlt hp' hns ⟨u, v, ⟨u', v', e1, e2, e⟩, m1, m2⟩ kk
    obtain ⟨rfl, rfl⟩ : u = u' ∧ v = v' := by
      have := congrArg Array.toList e
      simp at this
      exact this
    exact elts i u v C h m hlt e1 e2 hns m1 m2 (b₂.trans kk)
end
end Mine
end
section
open Sem (wp)
namespace Mine
/-- all but one -/
def But (c : Addr) (h h' : Heap) : Prop := ∀ a o, a ≠ c → h.get? a = some o → h'.get? a = some o
theorem Le.but {c : Addr} {h h' h'' : Heap} (x : Le h h') (y : But c h' h'') : But c h h'' := fun a o n q => y a o n (x a o q)
section
variable {prog : Program} {w : World} {A : Around} {E : Value → Shared → Prop} {s : Shared} {env : Env}
theorem asg_cell {x : Str} {px pos : Pos} {e : Expr} {c : Addr} {v₀ : Option Value} {P : Value → Heap → Prop} {Q : Flow → Shared → Prop} (hk : env.scope.kind = .function) (hl : env.kindOf x = some .cell) (hc : env.cells.lookup x = some c) (h0 : s.heap.IsCell c v₀)
    (he : Ex prog w A env s.heap e P) (h : ∀ v s₁ s₂, Kp s s₁ → P v s₁.heap → But c s₁.heap s₂.heap → s₂.heap.IsCell c (some v) → s₂.os = s.os → s.toks ≤ s₂.toks → Q .next s₂)
    (hs : swapsWith e (some (.Name x px)) pos.line env = pure false := by rfl) : wpAny (model prog w) A (exec (.Assign [.Name x px] e pos) env) Q E s := by
  refine wpAny_Assign_Name (he s _ _ Le.rfl' fun v s₁ k₁ hv => ?_) hs
  refine wpAny_tok (wpAny_storeName_cell hk hl hc (let ⟨o, ho, r⟩ := h0; ⟨o, k₁.keep _ _ ho, r⟩) fun h₂ hc₂ hs₂ => ?_)
  intro htk
  replace hs₂ : Heap.SameBut c s₁.heap h₂ := hs₂
  exact h v s₁ _ k₁ hv (fun a o n q => (hs₂.2 a n).trans q) hc₂ k₁.os (Nat.le_trans k₁.tok htk)
theorem asg_loc {x : Str} {px pos : Pos} {e : Expr} {m : Str → Option Value} {P : Value → Heap → Prop} {Q : Flow → Shared → Prop} (hk : env.scope.kind = .function) (hl : env.kindOf x = some .local) (hn : s.heap.Ns env.locals m)
    (he : Ex prog w A env s.heap e P) (h : ∀ v s₁ s₂, Kp s s₁ → P v s₁.heap → But env.locals s₁.heap s₂.heap → s₂.heap.Ns env.locals (fun y => if y = x then some v else m y) → s₂.os = s.os → s.toks ≤ s₂.toks → Q .next s₂)
    (hs : swapsWith e (some (.Name x px)) pos.line env = pure false := by rfl) : wpAny (model prog w) A (exec (.Assign [.Name x px] e pos) env) Q E s := by
  refine wpAny_Assign_Name (he s _ _ Le.rfl' fun v s₁ k₁ hv => ?_) hs
  refine wpAny_tok (wpAny_storeName_local hl (hn.keeps k₁.keep) (fun h₂ hn₂ hs₂ => ?_) (notClass hk))
  intro htk
  replace hs₂ : Heap.SameBut env.locals s₁.heap h₂ := hs₂
  exact h v s₁ _ k₁ hv (fun a o n q => (hs₂.2 a n).trans q) hn₂ k₁.os (Nat.le_trans k₁.tok htk)
theorem ns_get {h : Heap} {a : Addr} {m : Str → Option Value} (x : h.Ns a m) : ∃ o, h.get? a = some o := let ⟨o, _, _, q, _⟩ := x; ⟨o, q⟩
theorem asg_comp {elt target iter : Expr} {x : Str} {px : Pos} {ifs : List Expr} {scope : Scope} {cl : List (Str × Addr)} {pos spos : Pos} {m : Str → Option Value} {F : List Value → Prop} {Q : Flow → Shared → Prop}
    (hk : env.scope.kind = .function) (hl : env.kindOf x = some .local) (hn : s.heap.Ns env.locals m)
    (hsw : swapsWith (.ListComp elt [⟨target, iter, ifs, 0⟩] scope pos) (some (.Name x px)) spos.line env = pure true)
    (hclos : closureFor scope env = pure cl) (hkind : scope.kind = .function) (hnames : ∀ z ∈ scope.names, z.2 = .local → scope.names.lookup z.1 = some .local)
    (body : Body prog w A env s.heap scope cl elt target iter ifs pos F)
    (h : ∀ D items nn s₂, But env.locals s.heap s₂.heap → s.heap.get? D = none → s₂.heap.get? D = some (listOf items nn) → F items.toList → s₂.heap.Ns env.locals (fun y => if y = x then some (.ref D) else m y) → s₂.os = s.os → s.toks ≤ s₂.toks → Q .next s₂)
    (hs : ∀ x, foldedSetIterable iter env x = pure x := by intro _; rfl) :
    wpAny (model prog w) A (exec (.Assign [.Name x px] (.ListComp elt [⟨target, iter, ifs, 0⟩] scope pos) spos) env) Q E s := by
  refine assign_comp hsw hclos hkind hnames (body s _ _ Le.rfl' ?_) hs
  intro D C items nn s' mC k nD nC CD hns hD hF os tk
  obtain ⟨oL, hL⟩ := ns_get hn
  have LD : D ≠ env.locals := fun e => by rw [e, hL] at nD; cases nD
  have LC : C ≠ env.locals := fun e => by rw [e, hL] at nC; cases nC
  show wpAny _ A (assign (.Name x px) env (.ref D)) _ _ s'
  refine wpAny_tok (wpAny_assign_Name (wpAny_storeName_local hl (hn.keeps k) (fun h₂ hn₂ hs₂ => ?_) (notClass hk)))
  replace hs₂ : Heap.SameBut env.locals s'.heap h₂ := hs₂
  intro htk
  refine ⟨mC, hns.at' fun o q => (hs₂.2 C LC).trans q, fun h' hs' => ?_⟩
  replace hs' : Heap.SameBut C h₂ h' := hs'
  refine h D items nn _ (fun a o n q => (hs'.2 a fun e => by rw [e, nC] at q; cases q).trans ((hs₂.2 a n).trans (k a o q))) nD ((hs'.2 D (Ne.symm CD)).trans ((hs₂.2 D LD).trans hD)) hF (hn₂.at' fun o q => (hs'.2 _ (Ne.symm LC)).trans q) os (Nat.le_trans tk htk)
end
/-- the function's own heap: what was there, and three cells -/
structure Tb (s₀ : Shared) (L : Addr) (vr vp vk : Value) (s : Shared) : Prop where
  le : Le s₀.heap s.heap
  run : s.heap.IsCell (L + 1) (some vr)
  pairs : s.heap.IsCell (L + 2) (some vp)
  k : s.heap.IsCell (L + 3) (some vk)
  os : s.os = s₀.os
  tok : s₀.toks ≤ s.toks
theorem cell_up {h h' : Heap} {c : Addr} {v : Option Value} (x : h.IsCell c v) (k : ∀ o, h.get? c = some o → h'.get? c = some o) : h'.IsCell c v := let ⟨o, ho, r⟩ := x; ⟨o, k o ho, r⟩
theorem Tb.but {s₀ s s' : Shared} {L c : Addr} {vr vp vk : Value} (x : Tb s₀ L vr vp vk s) (b : But c s.heap s'.heap) (os : s'.os = s₀.os) (tk : s₀.toks ≤ s'.toks) (h0 : s₀.heap.get? c = none) (h1 : L + 1 ≠ c) (h2 : L + 2 ≠ c) (h3 : L + 3 ≠ c) : Tb s₀ L vr vp vk s' :=
  ⟨fun a o q => b a o (fun e => by rw [e, h0] at q; cases q) (x.le a o q), cell_up x.run fun o => b _ o h1, cell_up x.pairs fun o => b _ o h2, cell_up x.k fun o => b _ o h3, os, tk⟩
/-- a cell with a list of numbers -/
structure Lc (c : Addr) (D : Addr) (items : Array Value) (nn : Nat) (ns : List Int) (h : Heap) : Prop where
  c : h.IsCell c (some (.ref D))
  l : h.get? D = some (listOf items nn)
  i : IntsAre items.toList ns
theorem Lc.up {c D : Addr} {items : Array Value} {nn : Nat} {ns : List Int} {h h' : Heap} (x : Lc c D items nn ns h) (k : Le h h') : Lc c D items nn ns h' := ⟨cell_up x.c fun o => k _ o, k _ _ x.l, x.i⟩
theorem Lc.but {c D e : Addr} {items : Array Value} {nn : Nat} {ns : List Int} {h h' : Heap} (x : Lc c D items nn ns h) (k : But e h h') (h1 : c ≠ e) (h2 : ∀ o, h.get? e = some o → o.data ≠ .seq items nn) : Lc c D items nn ns h' :=
  ⟨cell_up x.c fun o => k _ o h1, k _ _ (fun q => by have := x.l; rw [q] at this; exact h2 _ this rfl) x.l, x.i⟩
theorem ns_data {h : Heap} {a : Addr} {m : Str → Option Value} {items : Array Value} {nn : Nat} (x : h.Ns a m) : ∀ o, h.get? a = some o → o.data ≠ .seq items nn := by
  obtain ⟨o, es, ep, q, hd, _⟩ := x
  intro o' q' e
  rw [q] at q'; cases q'
  rw [hd] at e; cases e
theorem cell_data {h : Heap} {a : Addr} {v : Option Value} {items : Array Value} {nn : Nat} (x : h.IsCell a v) : ∀ o, h.get? a = some o → o.data ≠ .seq items nn := by
  obtain ⟨o, q, hd⟩ := x
  intro o' q' e
  rw [q] at q'; cases q'
  rw [hd] at e; cases e
theorem paired_strs {f : Nat → List Nat} : ∀ {l : List Nat} {vs : List Value}, Paired (fun q v => ∃ t, v = .str (S (f q)) t) l vs → StrsAre vs ((l.map f).map S)
  | _, _, .nil => .nil
  | _, _, .cons h r => by
    obtain ⟨t, rfl⟩ := h
    exact .cons _ _ (paired_strs r)
end Mine
end
section
open Builtin Builtin.Str StrLaws
namespace Mine
theorem sub_S (l : List Nat) (i j : Nat) : strSub (S l) i j = S ((l.drop i).take (j - i)) := S_of_cps (by rw [strSub_toList, S_cps])
theorem at_crlf (l : List Nat) (c : Nat) : At (S l) (S [13, 10]) (S l).length c ↔ ∃ r, l.drop c = 13 :: 10 :: r := by
  unfold At
  rw [subAt_eq, S_len, S_cps, S_cps]
  show c + 2 ≤ (S l).length ∧ _ ↔ _
  rw [S_len, beq_iff_eq]
  constructor
  · rintro ⟨h1, h2⟩
    cases h : l.drop c with
    | nil => rw [h] at h2; cases h2
    | cons a t =>
      cases t with
      | nil => rw [h] at h2; cases h2
      | cons b r =>
        rw [h] at h2
        have h2' : [a, b] = [13, 10] := h2
        cases h2'
        exact ⟨r, rfl⟩
  · rintro ⟨r, h⟩
    have := congrArg List.length h
    rw [List.length_drop] at this
    simp only [List.length_cons] at this
    refine ⟨by omega, ?_⟩
    rw [h]; rfl
theorem crlf1_cons (c : Nat) (r : List Nat) (h : ¬ ∃ t, c :: r = 13 :: 10 :: t) : crlf1 (c :: r) = c :: crlf1 r := by
  cases r with
  | nil => rfl
  | cons d r =>
    rw [crlf1, if_neg]
    rintro ⟨rfl, rfl⟩
    exact h ⟨r, rfl⟩
theorem crlf1_skip (l : List Nat) : ∀ (n a : Nat), a + n ≤ l.length → (∀ k, a ≤ k → k < a + n → ¬ ∃ r, l.drop k = 13 :: 10 :: r) → crlf1 (l.drop a) = (l.drop a).take n ++ crlf1 (l.drop (a + n))
  | 0, a, _, _ => by rw [List.take_zero]; rfl
  | n + 1, a, hl, hn => by
    have e : l.drop a = l[a]'(by omega) :: l.drop (a + 1) := List.drop_eq_getElem_cons (by omega)
    have h0 := hn a (Nat.le_refl _) (by omega)
    rw [e] at h0
    rw [e, crlf1_cons _ _ h0, crlf1_skip l n (a + 1) (by omega) fun k h1 h2 => hn k (by omega) (by omega), List.take_succ_cons, show a + 1 + n = a + (n + 1) by omega]
    rfl
theorem join_crlf (l : List Nat) : ∀ (cuts : List Nat) (a f : Nat), a ≤ l.length → ChainG (S l) (S [13, 10]) (S l).length a cuts f → (∀ k, f ≤ k → ¬ At (S l) (S [13, 10]) (S l).length k) →
    Str.join (S [10]) (partsFrom (S l) 2 a cuts) = S (crlf1 (l.drop a))
  | [], a, f, ha, h, hf => by
    have e : f = a := h
    subst e
    show strSub (S l) f (S l).length = _
    have key := crlf1_skip l (l.length - f) f (by omega) fun k h1 _ q => hf k h1 ((at_crlf l k).mpr q)
    rw [show f + (l.length - f) = l.length by omega, List.drop_length] at key
    rw [sub_S, S_len, key]
    show _ = S (_ ++ [])
    rw [List.append_nil]
  | c :: r, a, f, ha, h, hf => by
    obtain ⟨h1, h2, h3, h4⟩ := h
    obtain ⟨t, ht⟩ := (at_crlf l c).mp h2
    have hc : c + 2 ≤ l.length := by have := h2.1; rw [S_len, S_len] at this; exact this
    have ih := join_crlf l r (c + 2) f hc h4 hf
    obtain ⟨p, q, e⟩ := partsFrom_ne (S l) 2 (c + 2) r
    have key := crlf1_skip l (c - a) a (by omega) fun k k1 k2 q => h3 k k1 (by omega) ((at_crlf l k).mpr q)
    show Str.join (S [10]) (strSub (S l) a c :: partsFrom (S l) 2 (c + 2) r) = _
    rw [e] at ih ⊢
    show strSub (S l) a c ++ S [10] ++ Str.join (S [10]) (p :: q) = _
    have et : l.drop (c + 2) = t := by
      have : l.drop (c + 2) = (l.drop c).drop 2 := by rw [List.drop_drop]
      rw [this, ht]; rfl
    rw [ih, sub_S, S_app, S_app, key, show a + (c - a) = c by omega, ht, crlf1, if_pos ⟨rfl, rfl⟩, et]
    simp
theorem replace_crlf (l : List Nat) : Txt.replace (S l) (S [13, 10]) (S [10]) = S (crlf1 l) := by
  obtain ⟨f, h1, h2⟩ := occ_tight (S l) (S [13, 10]) (by rw [S_len]; decide)
  have key := join_crlf l _ 0 f (Nat.zero_le _) h1 h2
  rw [List.drop_zero] at key
  rw [← key]
  unfold Txt.replace
  split
  · rename_i h
    rw [S_len] at h
    have h' : (occurrences (S l) (S [13, 10]) 0 (S l).length ((S l).length + 1)).isEmpty = true := by
      rw [Bool.or_eq_true] at h
      rcases h with h | h
      · exact h
      · exact absurd h (by decide)
    rw [List.isEmpty_iff.mp h']
    show _ = strSub (S l) 0 (S l).length
    rw [sub_whole]
  · rw [glued_eq_join, partsBetween_eq]; rfl
theorem split10_one : ∀ x : List Nat, 10 ∉ x → split10 x = [x]
  | [], _ => rfl
  | c :: r, h => by rw [split10, if_neg (fun e => h (by rw [e]; exact List.mem_cons_self ..)), split10_one r fun m => h (List.mem_cons_of_mem _ m)]
theorem split10_app (t : List Nat) : ∀ x : List Nat, 10 ∉ x → split10 (x ++ 10 :: t) = x :: split10 t
  | [], _ => by
    show split10 (10 :: t) = _
    rw [split10, if_pos rfl]
  | c :: r, h => by
    show split10 (c :: (r ++ 10 :: t)) = _
    rw [split10, if_neg (fun e => h (by rw [e]; exact List.mem_cons_self ..)), split10_app t r fun m => h (List.mem_cons_of_mem _ m)]
theorem split10_join : ∀ (ps : List (List Nat)), ps ≠ [] → (∀ x ∈ ps, 10 ∉ x) → split10 (joinL [10] ps) = ps
  | [], h, _ => absurd rfl h
  | [x], _, h => split10_one x (h x (List.mem_singleton.mpr rfl))
  | x :: y :: r, _, h => by
    have ih := split10_join (y :: r) (by simp) fun z hz => h z (List.mem_cons_of_mem _ hz)
    show split10 (x ++ [10] ++ joinL [10] (y :: r)) = _
    rw [List.append_assoc]
    show split10 (x ++ 10 :: joinL [10] (y :: r)) = _
    rw [split10_app _ x (h x (List.mem_cons_self ..)), ih]
theorem split_ne (x y : Str) : Txt.split x y ≠ [] := by
  unfold Txt.split
  split
  · simp
  · split
    · simp
    · rw [partsBetween_eq]
      obtain ⟨p, q, e⟩ := partsFrom_ne x y.length 0 (occurrences x y 0 x.length (x.length + 1))
      rw [e]; simp
theorem split_S (l : List Nat) : Txt.split (S l) (S [10]) = (split10 l).map S := by
  have e1 := StrLaws.join_split (S l) (S [10])
  have e2 : ∀ p ∈ Txt.split (S l) (S [10]), 10 ∉ p.cps.toList := split_free (S l) 10
  have hne := split_ne (S l) (S [10])
  generalize Txt.split (S l) (S [10]) = ps at e1 e2 hne
  have e3 : (ps.map fun p => p.cps.toList).map S = ps := by
    rw [List.map_map]
    conv => rhs; rw [← List.map_id ps]
    exact List.map_congr_left fun p _ => S_of p
  rw [← e3, join_S] at e1
  rw [← S_inj e1, split10_join _ (by simpa using hne) (by
      intro x hx
      obtain ⟨p, hp, rfl⟩ := List.mem_map.mp hx
      exact e2 p hp), e3]
end Mine
end
section
open Sem (wp)
namespace Mine
theorem mkGlo {K : Frag} {h₀ b : Heap} {p : Program} {loose : List Str} {mean : ExcName → Option Value} {mg mb : Str → Option Value} {env : Env} {x : Str} {v : Value} (X : K.In h₀) (T : Top p loose mean mg mb h₀) (e : nsIn K mainGlobals x = some none) (hv : bootBuiltins x = some v) (hn : x ≠ "__name__") (le : Le h₀ b)
    (hg : env.globals = mainGlobals := by rfl) (hb : env.builtins = builtinsNs := by rfl) (hk : env.scope.kind = .function := by rfl) (hl : env.kindOf x = some .globalImplicit := by rfl) (hd : (x == ("__debug__" : Str)) = false := by decide) : Glo env b x v :=
  ⟨hk, hl, hd, mg, mb, by rw [hg]; exact T.g.keeps le, by rw [hb]; exact T.b.keeps le, mg_none_of X T.g e, (T.builtins x hn).trans hv⟩
/-- a new list of texts -/
def TV (ls : List (List Nat)) : Value → Heap → Prop := fun v h => ∃ D items, v = .ref D ∧ h.IsList D items ∧ StrsAre items.toList (ls.map S)
section
variable {prog : Program} {w : World} {A : Around} {env : Env} {b : Heap}
theorem Ex.compL {elt target iter : Expr} {ifs : List Expr} {scope : Scope} {cl : List (Str × Addr)} {pos : Pos} {ns : List Int} (hclos : closureFor scope env = pure cl) (hkind : scope.kind = .function)
    (hnames : ∀ x ∈ scope.names, x.2 = .local → scope.names.lookup x.1 = some .local) (body : Body prog w A env b scope cl elt target iter ifs pos (fun vs => IntsAre vs ns))
    (hs : ∀ x, foldedSetIterable iter env x = pure x := by intro _; rfl) : Ex prog w A env b (.ListComp elt [⟨target, iter, ifs, 0⟩] scope pos) (LV ns) := Ex.comp hclos hkind hnames body hs
theorem Ex.compT {elt target iter : Expr} {ifs : List Expr} {scope : Scope} {cl : List (Str × Addr)} {pos : Pos} {ls : List (List Nat)} (hclos : closureFor scope env = pure cl) (hkind : scope.kind = .function)
    (hnames : ∀ x ∈ scope.names, x.2 = .local → scope.names.lookup x.1 = some .local) (body : Body prog w A env b scope cl elt target iter ifs pos (fun vs => StrsAre vs (ls.map S)))
    (hs : ∀ x, foldedSetIterable iter env x = pure x := by intro _; rfl) : Ex prog w A env b (.ListComp elt [⟨target, iter, ifs, 0⟩] scope pos) (TV ls) := fun s Q E hb h =>
  Ex.comp hclos hkind hnames body hs s Q E hb fun v s' k ⟨D, items, nn, e, q, i⟩ => h v s' k ⟨D, items, e, ⟨_, q, rfl, nn, rfl⟩, i⟩
theorem Ex.join {e : Expr} {x : Str} {pos p apos : Pos} {k : Nat} {sep : List Nat} {ls : List (List Nat)} {pl : Sem Bool} (ex : x = S sep) (he : Ex prog w A env b e (TV ls)) (hok : (ls.map List.length).sum + ls.length * sep.length ≤ 16777216)
    (hs : starEach [e] env = (false, eval e env) :: starEach [] env := by rfl)
    (hc : eval (.Call (.Attribute (.Constant (.str x) k p) (Str.ofString "join") apos) [e] [] pos) env = (do
      let ov ← eval (.Constant (.str x) k p) env
      standAt apos.atName
      let (f, first) ← holding [ov] (getMethod ov (Str.ofString "join") pl)
      callWith pos f first (backTo pos (starEach [e] env)) []) := by rfl) : Ex prog w A env b (.Call (.Attribute (.Constant (.str x) k p) (Str.ofString "join") apos) [e] [] pos) (sV (joinL sep ls)) := fun s Q E hb h => by
  refine MethodCall_ (Ex.str ex s _ _ hb fun u s₁ k₁ e₁ => ?_) hc
  obtain ⟨t, rfl⟩ := e₁
  refine GM.join ?_
  refine callWith_method1 (args_cons (he s₁ _ _ (hb.trans k₁.keep) fun v s₂ k₂ e₂ => ?_) hs) hs
  obtain ⟨D, items, rfl, q, hi⟩ := e₂
  refine args_nil ?_
  exact join_call q hi hok fun t' k' hk' => h _ _ ((k₁.trans k₂).trans (Kp.tk hk')) ⟨_, rfl⟩
theorem Ex.len_is {x : Str} {p q : Pos} {e : Expr} {n : Nat} (G : Glo env b x (.builtin "len")) (he : Ex prog w A env b e (fun v h => ∃ D items, v = .ref D ∧ h.IsList D items ∧ items.size = n)) (hz : n ≤ 1000000) (hs : starEach [e] env = [(false, eval e env)] := by rfl) :
    Ex prog w A env b (.Call (.Name x p) [e] [] q) (iV (n : Nat)) :=
  Ex.built1 G he (fun u s Q E hb ⟨D, items, e1, hl, e2⟩ h => by
    subst e1 e2
    exact len_list hl (by omega) (h _ _ (Kp.tk (Nat.le_succ_of_le (Nat.le_succ _))) ⟨_, rfl⟩)) hs
theorem mul_base {s : Shared} {E : Value → Shared → Prop} {D : Addr} {it : Array Value} {nn : Nat} {x : Int} {u : Tok} {Q : Value → Shared → Prop} (q1 : s.heap.get? D = some (listOf it nn)) (hlo : -(2 ^ 63 : Int) ≤ x) (hhi : x < 2 ^ 63) (hsz : it.size * x.toNat ≤ 2 ^ 24)
    (h : Q (.ref s.heap.objs.size) { s with heap := s.heap.push { cls := .type "list", data := .seq (List.foldl (fun x1 x2 => x1 ++ x2) #[] (List.replicate (if it.isEmpty = true then 0 else x.toNat) it)) } }) : wpAny (model prog w) A (binaryOp .Mult (.ref D) (.int x u)) Q E s :=
  wpAny_binaryOp_repeat_ref (T := "list") (U := "int") (by decide) ⟨_, q1, rfl⟩ (fun s' => typeIs_int s' x u) noFill_list_mul F.fills_int_mul F.slot_int_rmul repeat_list F.slot_int_index.lookup
    (call_meets F.slot_int_rmul (typeIs_int s x u) F.entry_int_rmul (F.args_int_rmul_2 _ _) (int___rmul___int_list x u D it nn)
      ⟨q1, rfl, ⟨_, q1, rfl⟩, call_meets F.slot_list_mul ⟨_, q1, rfl⟩ F.entry_list_mul (F.args_list_mul_2 _ _)
        (AutoListH.list___mul___list_int_3 D it nn x u (by simp [Builtin.List.listFitsIndex]; omega) (by omega) (by simp [Builtin.List.listTooLong, sizeLine]; omega))
        ⟨q1, h⟩⟩)
/-- a list of one number so many times -/
theorem Ex.rep_l {l r : Expr} {p : Pos} {n : Nat} {v z : Int} (hx : Ex prog w A env b l (LV [v])) (hy : Ex prog w A env b r (iV z)) (e : z = (n : Nat)) (hn : n ≤ 1000) : Ex prog w A env b (.BinOp l .Mult r p) (LV (List.replicate n v)) :=
  hx.bin hy LV.up fun u u' s Q E hb ⟨D, it, nn, e1, q1, i1⟩ ⟨t', e2⟩ h => by
    subst e1 e2 e
    have pw : (2 : Int) ^ 63 = 9223372036854775808 := by decide
    have z1 := i1.length
    rw [Array.length_toList] at z1
    have z1' : it.size = 1 := z1
    obtain ⟨t, vs', e3, i3⟩ := i1.cons_inv
    have e4 := i3.nil_inv
    subst e4
    have e5 : it = #[.int v t] := Array.toList_inj.mp e3
    subst e5
    have e24 : (2 : Nat) ^ 24 = 16777216 := by decide
    refine mul_base q1 (by omega) (by omega) (by rw [e24]; show 1 * ((n : Nat) : Int).toNat ≤ _; omega) ?_
    refine h _ _ ⟨fun a o q => Heap.get?_push_of_some _ q, rfl, Nat.le_refl _⟩ ⟨_, _, _, rfl, Heap.get?_push_size _ rfl, ?_⟩
    show IntsAre (List.foldl (fun x1 x2 => x1 ++ x2) #[] (List.replicate (if (#[Value.int v t] : Array Value).isEmpty = true then 0 else ((n : Nat) : Int).toNat) #[Value.int v t])).toList _
    have : ∀ (m : Nat) (a : Array Value) (ns : List Int), IntsAre a.toList ns → IntsAre (List.foldl (fun x1 x2 => x1 ++ x2) a (List.replicate m #[Value.int v t])).toList (ns ++ List.replicate m v) := by
      intro m
      induction m with
      | zero => intro a ns h; rw [List.replicate_zero, List.replicate_zero, List.append_nil]; exact h
      | succ m ih =>
        intro a ns h
        rw [List.replicate_succ, List.foldl_cons, List.replicate_succ]
        have := ih (a ++ #[Value.int v t]) (ns ++ [v]) (by rw [Array.toList_append]; exact h.append (.cons _ _ .nil))
        rw [List.append_assoc] at this
        exact this
    exact this n #[] [] .nil
theorem pick_back {α : Type} (l : List α) : ∀ m : Nat, m ≤ l.length → ((List.range m).map fun (k : Nat) => (((l.length : Nat) : Int) - 1 + (-1) * (k : Int)).toNat).filterMap (l[·]?) = (l.drop (l.length - m)).reverse
  | 0, _ => by simp
  | m + 1, h => by
    have e0 : (((l.length : Nat) : Int) - 1 + (-1) * (m : Int)).toNat = l.length - (m + 1) := by omega
    have hlt : l.length - (m + 1) < l.length := by omega
    have e1 : l.drop (l.length - (m + 1)) = l[l.length - (m + 1)] :: l.drop (l.length - m) := by
      rw [List.drop_eq_getElem_cons hlt]
      congr 2; omega
    rw [List.range_succ, List.map_append, List.filterMap_append, pick_back l m (by omega), e1, List.reverse_cons]
    congr 1
    rw [List.map_singleton, e0, List.filterMap_cons, List.getElem?_eq_getElem hlt]; rfl
theorem pick_rev (items : Array Value) : slicePick items none none (some (-1)) = items.toList.reverse.toArray := by
  have e := pick_back items.toList items.toList.length (Nat.le_refl _)
  rw [Nat.sub_self, List.drop_zero] at e
  rw [← e]
  unfold slicePick sliceBounds sliceRange
  rw [Array.length_toList]
  have c : (if ((items.size : Nat) : Int) - 1 > -1 then (((items.size : Nat) : Int) - 1 - -1 - -1 - 1) / (- -1) else 0).toNat = items.size := by
    rw [show (- (-1) : Int) = 1 by decide, Int.ediv_one]
    split <;> omega
  simp only [Option.getD_some, show ¬ ((-1 : Int) > 0) by decide, if_false]
  rw [c]
  simp
theorem Ex.rev {v : Expr} {p p' p1 p2 : Pos} {k : Nat} {D : Addr} {items : Array Value} (hv : Ex prog w A env b v (fun u _ => u = .ref D)) (hl : b.IsList D items) (hz : items.size ≤ 1000000)
    (hs : ∀ T, subscripted (.Slice none none (some (.UnaryOp .USub (.Constant (.int 1) k p1) p2)) p') false (.ref D) (.ref T) = operate [.ref D, .ref T] (getItem (.ref D) (.ref T)) := by intro _; with_unfolding_all rfl)
    (ht : ∀ r, letTemporaryGo v (.ref D) r = pure () := by intro _; with_unfolding_all rfl) :
    Ex prog w A env b (.Subscript v (.Slice none none (some (.UnaryOp .USub (.Constant (.int 1) k p1) p2)) p') p) (fun u h => ∃ D', u = .ref D' ∧ h.get? D' = some (listOf items.toList.reverse.toArray 0)) := fun s Q E hb h =>
  Subscript_ (hv s _ _ hb fun u s₁ k₁ e₁ => by
    subst e₁
    refine wpAny_Slice ?_
    rw [evalPart_none]
    refine wpAny_pure ?_
    refine wpAny_pure ?_
    rw [evalPart_some]
    refine Ex.neg (env := env) (b := s₁.heap) Ex.int s₁ _ _ Le.rfl' fun z s₂ k₂ ⟨t', e₂⟩ => ?_
    subst e₂
    have l2 : s₂.heap.IsList D items := hl.at fun o q => k₂.keep _ o (k₁.keep _ o (hb _ o q))
    have l3 := l2.push { cls := .type "slice", data := .fields #[.none, .none, .int (-1) t'] }
    refine subscriptTail_ops (Heap.IsList.typeIs (s := { s₂ with heap := s₂.heap.push { cls := .type "slice", data := .fields #[.none, .none, .int (-1) t'] } }) l3) list_getitem_lookup
      (wpAny_getItem_list_slice l3 (Heap.IsSliceOf.new ..) .none .none (.int _ _) (by decide) ?_ (by rw [sizeLine_eq]; omega)) (hs _) ht
    rw [pick_rev]
    refine h _ _ ((k₁.trans k₂).trans ⟨fun a o q => Heap.get?_push_of_some _ (Heap.get?_push_of_some _ q), rfl, Nat.le_refl _⟩) ⟨_, rfl, Heap.get?_push_size _ rfl⟩)
end
end Mine
end
section
open Sem (wp)
namespace Mine
theorem Tb.kp {s₀ s s' : Shared} {L : Addr} {vr vp vk : Value} (x : Tb s₀ L vr vp vk s) (k : Kp s s') : Tb s₀ L vr vp vk s' :=
  ⟨Le.trans x.le k.keep, cell_up x.run fun o => k.keep _ o, cell_up x.pairs fun o => k.keep _ o, cell_up x.k fun o => k.keep _ o, k.os.trans x.os, Nat.le_trans x.tok k.tok⟩
/-- the function's heap once its two lists are there -/
structure Tc (s₀ : Shared) (L : Addr) (vr vp vk : Value) (Ds : Addr) (is : Array Value) (ns : Nat) (sn : List Int) (Do : Addr) (io : Array Value) (no : Nat) (ons : List Int) (m : Str → Option Value) (s : Shared) : Prop where
  b : Tb s₀ L vr vp vk s
  sent : Lc (L + 4) Ds is ns sn s.heap
  on : Lc (L + 5) Do io no ons s.heap
  n : s.heap.Ns L m
section
variable {s₀ s s' : Shared} {L : Addr} {vr vp vk : Value} {Ds : Addr} {is : Array Value} {ns : Nat} {sn : List Int} {Do : Addr} {io : Array Value} {no : Nat} {on : List Int} {m m' : Str → Option Value}
theorem Tc.kp (x : Tc s₀ L vr vp vk Ds is ns sn Do io no on m s) (k : Kp s s') : Tc s₀ L vr vp vk Ds is ns sn Do io no on m s' := ⟨x.b.kp k, x.sent.up k.keep, x.on.up k.keep, x.n.keeps k.keep⟩
theorem Tc.asg (x : Tc s₀ L vr vp vk Ds is ns sn Do io no on m s) (h0 : s₀.heap.get? L = none) (b : But L s.heap s'.heap) (n : s'.heap.Ns L m') (os : s'.os = s₀.os) (tk : s₀.toks ≤ s'.toks) : Tc s₀ L vr vp vk Ds is ns sn Do io no on m' s' :=
  ⟨x.b.but b os tk h0 (Nat.ne_of_gt (Nat.lt_add_of_pos_right (by decide))) (Nat.ne_of_gt (Nat.lt_add_of_pos_right (by decide))) (Nat.ne_of_gt (Nat.lt_add_of_pos_right (by decide))),
   x.sent.but b (Nat.ne_of_gt (Nat.lt_add_of_pos_right (by decide))) (ns_data x.n), x.on.but b (Nat.ne_of_gt (Nat.lt_add_of_pos_right (by decide))) (ns_data x.n), n⟩
theorem Tc.asg2 {s₁ : Shared} (x : Tc s₀ L vr vp vk Ds is ns sn Do io no on m s) (h0 : s₀.heap.get? L = none) (k : Kp s s₁) (b : But L s₁.heap s'.heap) (n : s'.heap.Ns L m') (os : s'.os = s.os) (tk : s.toks ≤ s'.toks) : Tc s₀ L vr vp vk Ds is ns sn Do io no on m' s' :=
  (x.kp k).asg h0 b n (os.trans x.b.os) (Nat.le_trans x.b.tok tk)
end
/-- a list that a local name's change leaves -/
theorem list_but {L D : Addr} {items : Array Value} {m : Str → Option Value} {h h' : Heap} (x : h.IsList D items) (n : h.Ns L m) (b : But L h h') : h'.IsList D items := by
  obtain ⟨o, q, hc, nn, hd⟩ := x
  exact ⟨o, b _ _ (fun e => ns_data n o (by rw [← e]; exact q) hd) q, hc, nn, hd⟩
theorem map_getD {α β : Type} (d : α) (g : α → β) (l : List α) : (List.range l.length).map (fun i => g (l.getD i d)) = l.map g := by
  have := filter_getD d (fun _ => true) g l
  rw [List.filter_eq_self.mpr fun _ _ => rfl, List.filter_eq_self.mpr fun _ _ => rfl] at this
  exact this
/-- how many dots a row gets -/
def manyL (sent : List Int) (i : Nat) : Nat := if i = 0 then sent.count (-1) else sent.length
theorem many_at (sent : List Int) (n i : Nat) (h : i < n) : ([((sent.count (-1) : Nat) : Int)] ++ List.replicate (n - 1) ((sent.length : Nat) : Int)).getD i 0 = ((manyL sent i : Nat) : Int) := by
  unfold manyL
  cases i with
  | zero => simp
  | succ i =>
    rw [if_neg (Nat.succ_ne_zero _), List.getD_eq_getElem?_getD, List.getElem?_append_right (by simp)]
    simp only [List.length_singleton, Nat.add_sub_cancel]
    rw [List.getElem?_replicate, if_pos (by omega)]; rfl
theorem rows_dots (sent : List Int) : ∀ rows : List (List Nat), rows ≠ [] → (List.range rows.length).map (fun i => dotsRow (manyL sent i) (rows.getD i [])) = (match rows with | [] => [] | r :: rs => dotsRow (sent.count (-1)) r :: rs.map (dotsRow sent.length))
  | [], h => absurd rfl h
  | r :: rs, _ => by
    rw [List.length_cons, List.range_succ_eq_map, List.map_cons, List.map_map]
    show dotsRow (manyL sent 0) r :: _ = dotsRow (sent.count (-1)) r :: rs.map (dotsRow sent.length)
    rw [← map_getD [] (dotsRow sent.length) rs]; rfl
theorem dots_is (k : Nat) (row : List Nat) : (List.replicate (if row.take 1 = [46] then 1 else 0) (List.replicate k [46]).flatten).flatten ++ row = dotsRow k row := by
  unfold dotsRow
  have : (List.replicate k [46]).flatten = List.replicate k 46 := by simp
  rw [this]
  split <;> simp
theorem flat1 (k c : Nat) : (List.replicate k [c]).flatten = List.replicate k c := by simp
section
variable {prog : Program} {w : World} {A : Around} {env : Env} {b : Heap}
theorem Ex.list0 {p : Pos} : Ex prog w A env b (.List [] p) (LV []) := fun s Q E hb h =>
  List_ (args_nil (wpAny_newList (h _ _ ⟨fun a o q => Heap.get?_push_of_some _ q, rfl, Nat.le_refl _⟩ ⟨_, _, _, rfl, Heap.get?_push_size _ rfl, .nil⟩) (Nat.zero_le _)))
/-- as Ex, where a token was drawn before -/
def ExT (prog : Program) (w : World) (A : Around) (env : Env) (b : Heap) (e : Expr) (P : Value → Heap → Prop) : Prop :=
  ∀ (s : Shared) (Q : Value → Shared → Prop) (E : Value → Shared → Prop), Le b s.heap → 0 < s.toks → (∀ v s', Kp s s' → P v s'.heap → Q v s') → wpAny (model prog w) A (eval e env) Q E s
theorem Ex.t {e : Expr} {P : Value → Heap → Prop} (x : Ex prog w A env b e P) : ExT prog w A env b e P := fun s Q E hb _ h => x s Q E hb h
theorem ExT.replace {o : Expr} {pos apos p1 p2 : Pos} {k1 k2 : Nat} {x y : Str} {l l' a c : List Nat} {pl : Sem Bool} (ho : ExT prog w A env b o (sV l)) (ex : x = S a) (ey : y = S c) (hne : (x == y) = false) (hl : l.length ≤ 1000) (hc0 : c.length ≤ 10) (he : Txt.replace (S l) (S a) (S c) = S l')
    (hs : starEach [.Constant (.str x) k1 p1, .Constant (.str y) k2 p2] env = (false, eval (.Constant (.str x) k1 p1) env) :: starEach [.Constant (.str y) k2 p2] env := by rfl)
    (hs2 : starEach [.Constant (.str y) k2 p2] env = (false, eval (.Constant (.str y) k2 p2) env) :: starEach [] env := by rfl)
    (hc : eval (.Call (.Attribute o (Str.ofString "replace") apos) [.Constant (.str x) k1 p1, .Constant (.str y) k2 p2] [] pos) env = (do
      let ov ← eval o env
      standAt apos.atName
      let (f, first) ← holding [ov] (getMethod ov (Str.ofString "replace") pl)
      callWith pos f first (backTo pos (starEach [.Constant (.str x) k1 p1, .Constant (.str y) k2 p2] env)) []) := by rfl)
    (hpl : (backTo pos (starEach [.Constant (.str y) k2 p2] env)).any (·.1) = false := by rfl) :
    ExT prog w A env b (.Call (.Attribute o (Str.ofString "replace") apos) [.Constant (.str x) k1 p1, .Constant (.str y) k2 p2] [] pos) (sV l') := fun s Q E hb ht h => by
  refine MethodCall_ (ho s _ _ hb ht fun u s₁ k₁ e₁ => ?_) hc
  obtain ⟨t, rfl⟩ := e₁
  refine GM.replace ?_
  refine callWith_method1 (args_cons (Constant_str (args_cons (Constant_str (args_nil ?_)) hs2)) hs) hs hpl
  have := k₁.tok
  subst ex ey
  refine wpAny_tok (SC.replace ?_ ?_ ?_ hne ?_ fun t' k' hk' => ?_)
  · exact Nat.ne_of_gt (Nat.lt_of_lt_of_le ht this)
  · exact Nat.succ_ne_zero _
  · exact Nat.ne_of_lt (Nat.lt_succ_self _)
  · rw [S_len, S_len]
    have : (l.length + 1) * c.length ≤ (l.length + 1) * 10 := Nat.mul_le_mul_left _ hc0
    omega
  · rw [he]
    exact h _ _ (k₁.trans (Kp.tk (Nat.le_trans (Nat.le_succ_of_le (Nat.le_succ _)) hk'))) ⟨_, rfl⟩
theorem ExT.split {o : Expr} {pos apos p1 : Pos} {k1 : Nat} {x : Str} {l : List Nat} {pl : Sem Bool} (ho : ExT prog w A env b o (sV l)) (ex : x = S [10]) (hl : l.length ≤ 1000)
    (hs : starEach [.Constant (.str x) k1 p1] env = (false, eval (.Constant (.str x) k1 p1) env) :: starEach [] env := by rfl)
    (hc : eval (.Call (.Attribute o (Str.ofString "split") apos) [.Constant (.str x) k1 p1] [] pos) env = (do
      let ov ← eval o env
      standAt apos.atName
      let (f, first) ← holding [ov] (getMethod ov (Str.ofString "split") pl)
      callWith pos f first (backTo pos (starEach [.Constant (.str x) k1 p1] env)) []) := by rfl) :
    ExT prog w A env b (.Call (.Attribute o (Str.ofString "split") apos) [.Constant (.str x) k1 p1] [] pos) (TV (split10 l)) := fun s Q E hb ht h => by
  refine MethodCall_ (ho s _ _ hb ht fun u s₁ k₁ e₁ => ?_) hc
  obtain ⟨t, rfl⟩ := e₁
  refine GM.split ?_
  refine callWith_method1 (args_cons (Constant_str (args_nil ?_)) hs) hs
  subst ex
  have hz : (Builtin.Str.partsBetween (S l) (Builtin.Str.occurrences (S l) (S [10]) 0 (S l).length ((S l).length + 1)) (S [10]).length).length ≤ 1002 := by
    have hp : ∀ (x : Str) (w : Nat) (cuts : List Nat) (a : Nat), (StrLaws.partsFrom x w a cuts).length = cuts.length + 1 := by
      intro x w cuts
      induction cuts with
      | nil => intro a; rfl
      | cons c r ih => intro a; show (StrLaws.partsFrom x w (c + w) r).length + 1 = _; rw [ih]; rfl
    have := StrLaws.occ_length_le (S l) (S [10]) 0 (S l).length ((S l).length + 1)
    rw [StrLaws.partsBetween_eq, hp]
    rw [S_len] at this ⊢
    omega
  refine wpAny_tok (SCH.split1 (P := Le s₁.heap) (fun h ob a => a.push ob) Le.rfl' (by rw [S_len]; rfl) (fun D ls h' k' e a q => ?_) (by rw [S_len, sizeLine_eq]; omega) (Nat.le_trans hz (by rw [sizeLine_eq]; omega)))
  intro htk
  refine h _ _ (k₁.trans (Kp.heap a (Nat.le_trans (Nat.le_succ _) htk))) ⟨D, _, rfl, q, ?_⟩
  rw [← split_S, ← e]
  exact strsAre_of_values ls
end
section
variable {prog : Program} {w : World} {A : Around} {E : Value → Shared → Prop} {s : Shared} {env : Env}
theorem asg_locT {x : Str} {px pos : Pos} {e : Expr} {m : Str → Option Value} {P : Value → Heap → Prop} {Q : Flow → Shared → Prop} (ht : 0 < s.toks) (hk : env.scope.kind = .function) (hl : env.kindOf x = some .local) (hn : s.heap.Ns env.locals m)
    (he : ExT prog w A env s.heap e P) (h : ∀ v s₁ s₂, Kp s s₁ → P v s₁.heap → But env.locals s₁.heap s₂.heap → s₂.heap.Ns env.locals (fun y => if y = x then some v else m y) → s₂.os = s.os → s.toks ≤ s₂.toks → Q .next s₂)
    (hs : swapsWith e (some (.Name x px)) pos.line env = pure false := by rfl) : wpAny (model prog w) A (exec (.Assign [.Name x px] e pos) env) Q E s := by
  refine wpAny_Assign_Name (he s _ _ Le.rfl' ht fun v s₁ k₁ hv => ?_) hs
  refine wpAny_tok (wpAny_storeName_local hl (hn.keeps k₁.keep) (fun h₂ hn₂ hs₂ => ?_) (notClass hk))
  intro htk
  replace hs₂ : Heap.SameBut env.locals s₁.heap h₂ := hs₂
  exact h v s₁ _ k₁ hv (fun a o n q => (hs₂.2 a n).trans q) hn₂ k₁.os (Nat.le_trans k₁.tok htk)
end
end Mine
namespace Mine
theorem split10_short : ∀ (l : List Nat), ∀ x ∈ split10 l, x.length ≤ l.length
  | [], x, h => by rw [split10, List.mem_singleton] at h; subst h; exact Nat.le_refl _
  | c :: r, x, h => by
    rw [split10] at h
    split at h
    · rcases List.mem_cons.mp h with rfl | h
      · exact Nat.zero_le _
      · exact Nat.le_succ_of_le (split10_short r x h)
    · split at h
      · rw [List.mem_singleton] at h; subst h; simp
      · rename_i y ys q
        rcases List.mem_cons.mp h with rfl | h
        · exact Nat.succ_le_succ (split10_short r y (by rw [q]; exact List.mem_cons_self ..))
        · exact Nat.le_succ_of_le (split10_short r x (by rw [q]; exact List.mem_cons_of_mem _ h))
theorem rows_short (txt : List Nat) : ∀ x ∈ rowsL txt, x.length ≤ txt.length := fun x h => by
  have h1 := split10_short _ x h
  have h2 := repL_len 13 [10] (crlf1 txt) (by decide)
  have h3 := crlf1_len txt
  simp only [List.length_singleton] at h2
  omega
theorem sent_len (run : List Nat) (pr : List (Nat × Nat)) (k : Nat) : (sentL run pr k).length ≤ k := by
  unfold sentL
  rw [List.length_map]
  exact Nat.le_trans (List.length_filter_le _ _) (by rw [List.length_range]; exact Nat.le_refl _)
theorem many_le (sent : List Int) (i : Nat) : manyL sent i ≤ sent.length := by
  unfold manyL
  split
  · exact List.count_le_length
  · exact Nat.le_refl _
theorem getD_short {rows : List (List Nat)} {n i : Nat} (h : ∀ x ∈ rows, x.length ≤ n) : (rows.getD i []).length ≤ n := by
  rw [List.getD_eq_getElem?_getD]
  cases q : rows[i]? with
  | none => exact Nat.zero_le _
  | some x => exact h x (List.mem_of_getElem? q)
theorem rows_sum (txt : List Nat) (sent : List Int) (hs : sent.length ≤ 20) (ht : txt.length ≤ 20) : (((List.range (rowsL txt).length).map fun i => dotsRow (manyL sent i) ((rowsL txt).getD i [])).map List.length).sum + ((List.range (rowsL txt).length).map fun i => dotsRow (manyL sent i) ((rowsL txt).getD i [])).length * ([13, 10] : List Nat).length ≤ 16777216 := by
  have h1 := rows_len txt
  have h2 := sum_len_le ((List.range (rowsL txt).length).map fun i => dotsRow (manyL sent i) ((rowsL txt).getD i [])) (B := 40) fun x hx => by
    obtain ⟨i, _, rfl⟩ := List.mem_map.mp hx
    have h3 := dots_len (manyL sent i) ((rowsL txt).getD i [])
    have h4 := many_le sent i
    have h5 := getD_short (i := i) (rows_short txt)
    omega
  rw [List.length_map, List.length_range] at h2 ⊢
  simp only [List.length_cons, List.length_nil]
  omega
end Mine
end
section
open Sem (wp)
namespace Mine
theorem pow_sub (n : Nat) : (2 : Int) ^ (((n : Nat) : Int)).toNat - 1 = ((2 ^ n - 1 : Nat) : Int) := by
  rw [Int.toNat_natCast]
  have h : 1 ≤ 2 ^ n := Nat.one_le_two_pow
  rw [Int.natCast_sub h]
  simp
theorem pow_le5 {n : Nat} (h : n ≤ 5) : 2 ^ n - 1 ≤ 31 := by
  have : 2 ^ n ≤ 2 ^ 5 := Nat.pow_le_pow_right (by decide) h
  omega
/-- a sign within n envelopes -/
def signL (n c : Nat) : List Nat := (if c = 34 ∨ c = 92 then List.replicate (2 ^ n - 1) 92 else []) ++ [c]
theorem sign_is (n c : Nat) : (List.replicate (if c ∈ [34, 92] then 1 else 0) (List.replicate (2 ^ n - 1) [92]).flatten).flatten ++ [c] = signL n c := by
  unfold signL
  rw [flat1]
  by_cases h : c = 34 ∨ c = 92
  · rw [if_pos h, if_pos (by simpa using h)]; simp
  · rw [if_neg h, if_neg (by simpa using h)]; simp
theorem inner_is (n : Nat) (l : List Nat) : joinL [] (l.map (signL n)) = innerL n l := by
  rw [joinL_nil, ← List.flatMap_def]; rfl
theorem sign_len (n c : Nat) (h : n ≤ 5) : (signL n c).length ≤ 32 := by
  have := pow_le5 h
  unfold signL
  split <;> simp <;> omega
theorem inner_len (n : Nat) (l : List Nat) (h : n ≤ 5) : (innerL n l).length ≤ 32 * l.length := len_flatMap_le _ 32 (fun c => sign_len n c h) l
theorem plain_short {txt : List Nat} {sent : List Int} (h : txt.length ≤ 20) (hs : sent.length ≤ 20) : (plainL txt sent).length ≤ 460 := by
  have h1 := plain_len txt sent
  have h2 : (txt.length + 1) * sent.length ≤ 21 * 20 := Nat.mul_le_mul (by omega) hs
  omega
theorem inner_sum (n : Nat) (l : List Nat) (h : n ≤ 5) (hl : l.length ≤ 460) : ((l.map (signL n)).map List.length).sum + (l.map (signL n)).length * ([] : List Nat).length ≤ 16777216 := by
  have h2 := sum_len_le (l.map (signL n)) (B := 32) fun x hx => by
    obtain ⟨c, _, rfl⟩ := List.mem_map.mp hx
    exact sign_len n c h
  rw [List.length_map] at h2
  simp only [List.length_nil]
  omega
theorem mk_is (n : Nat) : (List.replicate (2 ^ n - 1) [92]).flatten ++ [34] = mkL n := by rw [flat1]; rfl
theorem mk_len {n : Nat} (h : n ≤ 5) : (mkL n).length ≤ 32 := by
  have := pow_le5 h
  unfold mkL
  simp; omega
/-- a head -/
def headL (sent : List Int) (i : Int) : List Nat := List.replicate (1 + sent.count i) 46 ++ [61]
theorem head_is (sent : List Int) (i : Int) : (List.replicate (1 + sent.count i) [46]).flatten ++ [61] = headL sent i := by rw [flat1]; rfl
theorem head_len {sent : List Int} (i : Int) (h : sent.length ≤ 20) : (headL sent i).length ≤ 22 := by
  have : sent.count i ≤ sent.length := List.count_le_length
  unfold headL
  simp; omega
theorem zip_getD {hs ms : List (List Nat)} (h : hs.length = ms.length) : (List.range hs.length).map (fun i => hs.getD i [] ++ ms.getD i []) = List.zipWith (fun a c => a ++ c) hs ms := by
  apply List.ext_getElem
  · simp [h]
  · intro i h1 h2
    simp at h1
    simp [List.getD_eq_getElem?_getD, List.getElem?_eq_getElem (show i < hs.length from h1), List.getElem?_eq_getElem (show i < ms.length by omega)]
theorem zip_len {hs ms : List (List Nat)} {B C : Nat} (h1 : ∀ x ∈ hs, x.length ≤ B) (h2 : ∀ x ∈ ms, x.length ≤ C) : ∀ x ∈ List.zipWith (fun a c => a ++ c) hs ms, x.length ≤ B + C := by
  induction hs generalizing ms with
  | nil => intro x hx; simp at hx
  | cons a r ih =>
    cases ms with
    | nil => intro x hx; simp at hx
    | cons c t =>
      intro x hx
      rw [List.zipWith_cons_cons] at hx
      rcases List.mem_cons.mp hx with rfl | hx
      · rw [List.length_append]
        exact Nat.add_le_add (h1 a (List.mem_cons_self ..)) (h2 c (List.mem_cons_self ..))
      · exact ih (fun y hy => h1 y (List.mem_cons_of_mem _ hy)) (fun y hy => h2 y (List.mem_cons_of_mem _ hy)) x hx
theorem strs_reverse : ∀ {vs : List Value} {ss : List Str}, StrsAre vs ss → StrsAre vs.reverse ss.reverse
  | _, _, .nil => .nil
  | _, _, .cons y t r => by
    rw [List.reverse_cons, List.reverse_cons]
    exact strs_snoc (strs_reverse r) y t
theorem told_is (txt : List Nat) (on : List Nat) (sent : List Int) : (joinL [] (List.zipWith (fun a c => a ++ c) ((on.map fun (i : Nat) => (i : Int)).reverse.map (headL sent)) ((List.range on.length).map mkL)) ++ innerL on.length (plainL txt sent)) ++ joinL [] ((List.range on.length).map mkL).reverse = toldF txt on sent := by
  rw [joinL_nil, joinL_nil, ← List.map_reverse, List.map_map]; rfl
theorem Ex.mono {prog : Program} {w : World} {A : Around} {env : Env} {b : Heap} {e : Expr} {P P' : Value → Heap → Prop} (x : Ex prog w A env b e P) (h : ∀ v h, P v h → P' v h) : Ex prog w A env b e P' := fun s Q E hb hq => x s Q E hb fun v s' k hp => hq v s' k (h v _ hp)
theorem Ex.run {prog : Program} {w : World} {A : Around} {env : Env} {s : Shared} {e : Expr} {P : Value → Heap → Prop} {Q : Value → Shared → Prop} {E : Value → Shared → Prop} (x : Ex prog w A env s.heap e P) (h : ∀ v s', Kp s s' → P v s'.heap → Q v s') : wpAny (model prog w) A (eval e env) Q E s := x s Q E Le.rfl' h
end Mine
end
namespace Mine
theorem fillO : (PySem.Challenge.rw_tl0001_01.prog = PySem.Challenge.rw_tl0001_01.prog) ∧ (hd.heap_39 = hd.heap_39) := by k_fill; exact ⟨rfl, rfl⟩
theorem ne_add {L i j : Nat} (h : i ≠ j) : L + i ≠ L + j := fun e => h (Nat.add_left_cancel e)
theorem told_spec {w : World} {A : Around} {s : Shared} {R : Result → Shared → Prop} {run txt : List Nat} {t1 t2 t3 : Tok} {pp : Addr} {pr : List (Nat × Nat)} {k : Nat} (S₀ : Std w s.heap) (H : Rm A 7) (ht : 0 < s.toks)
   (hp : PairList s.heap pp pr) (hpr : pr.length ≤ 100) (hrun : run.length ≤ 20) (hk : k ≤ run.length) (htxt : txt.length ≤ 20) (hon : (onL pr k).length ≤ 5)
   (h : ∀ t s', Kp s s' → R (.ok (.ret (.str (S (toldL run txt pr k)) t))) s') :
   codeAny (model PySem.Challenge.rw_tl0001_01.row.prog w) A (.call (.ref 106) ⟨[.str (S run) t1, .str (S txt) t2, .ref pp, .int (k : Nat) t3], []⟩) R s := by
  obtain ⟨mean, mg, mb, T⟩ := S₀.t
  have X := S₀.x
  refine' enter_fnC (binds := [(Str.ofString "run", .str (S run) t1), (Str.ofString "text", .str (S txt) t2), (Str.ofString "pairs", .ref pp), (Str.ofString "k", .int (k : Nat) t3)]) X T ?k1 ?k2 ?k3 ?k4 ?k5 ?k6 ?_ ?k7 ?k8 ?k9
  case k1 => k_is
  case k2 => k_is
  case k3 => exact H.room
  case k4 => exact BindsTo.of_eq rfl
  case k5 => rfl
  case k6 => decide
  case k7 => rfl
  case k8 => rfl
  case k9 => rfl
  intro h₁ tk cells F N Y htk
  obtain ⟨o1, o2, o3, o4, o5, rfl, d1, d2, d3, d4, d5⟩ := cells5 (by exact Y)
  clear Y
  generalize hL : s.heap.objs.size = L at *
  have mn1 : ∀ x v, bootBuiltins x = some v → nsIn (hd.heap_39 w.params) mainGlobals x = some none → x ≠ "__name__" → mg x = none ∧ mb x = some v := fun x v h1 h2 h3 => ⟨mg_none_of X T.g h2, (T.builtins x h3).trans h1⟩
  have B0 : Tb s L (.str (S run) t1) (.ref pp) (.int (k : Nat) t3) ⟨h₁, s.gens, s.drawn, tk, s.os⟩ := by
    refine ⟨F.keep, ?_, ?_, ?_, rfl, htk⟩
    · exact ⟨o5, (N (L + 1, o5) (by repeat (first | exact List.mem_cons_self .. | refine List.mem_cons_of_mem _ ?_))).1, d5⟩
    · exact ⟨o4, (N (L + 2, o4) (by repeat (first | exact List.mem_cons_self .. | refine List.mem_cons_of_mem _ ?_))).1, d4⟩
    · exact ⟨o3, (N (L + 3, o3) (by repeat (first | exact List.mem_cons_self .. | refine List.mem_cons_of_mem _ ?_))).1, d3⟩
  have cs0 : h₁.IsCell (L + 4) none := ⟨o2, (N (L + 4, o2) (by repeat (first | exact List.mem_cons_self .. | refine List.mem_cons_of_mem _ ?_))).1, d2⟩
  have co0 : h₁.IsCell (L + 5) none := ⟨o1, (N (L + 5, o1) (by repeat (first | exact List.mem_cons_self .. | refine List.mem_cons_of_mem _ ?_))).1, d1⟩
  have n0 := F.ns
  have f0 : ∀ j, s.heap.get? (L + j) = none := fun j => Heap.get?_none_of_le (by rw [hL]; exact Nat.le_add_right _ _)
  clear N d1 d2 d3 d4 d5
  refine wpAny_execs_cons ?_
  refine asg_cell rfl rfl rfl cs0 (Ex.compL (cl := _) (ns := sentL run pr k) rfl rfl (by decide) ?_) ?_
  · refine Body.rangeP (n := k) H.hd (Ex.range1 (mkGlo X T (by k_is) boot_range (by decide) B0.le) (Ex.cell rfl rfl rfl B0.k (P := iV (k : Nat)) fun _ _ => ⟨_, rfl⟩) rfl) (by omega) (fun _ => rfl) (fun _ => rfl) rfl (fun _ => rfl) (fun p => run.getD p 0 == 111)
      (fun p v => ∃ t, v = .int (maxL ((pr.filter fun q => decide (q.1 < p) && decide (p < q.2)).map (·.1))) t) (fun vs hv => paired_ints hv) ?_ ?_
    · intro i C s' t hlt hc le
      refine wpAny_tests_one (Ex.true_eq (Ex.item_s (Ex.cell rfl rfl rfl (cell_up B0.run fun o => le _ o) (P := sV run) fun _ _ => ⟨_, rfl⟩) (Ex.cell rfl rfl rfl hc (P := iV (i : Nat)) fun _ _ => ⟨_, rfl⟩) (by omega) (by omega)) (Ex.str li_o) (hb := Le.rfl') (h := fun s'' k' => ⟨?_, k'⟩))
      rw [Bool.eq_iff_iff]; simp
    · intro i C hh t hlt hp' hc le
      have le' : Le s.heap hh := Le.trans B0.le le
      refine Ex.max_l (ns := (-1) :: ((pr.filter fun q => decide (q.1 < i) && decide (i < q.2)).map (·.1)).map fun (i : Nat) => (i : Int)) H.hd (mkGlo X T (by k_is) boot_max (by decide) le') ?_ (Nat.succ_pos _) fun m h1 h2 => max_is h1 h2
      refine Ex.add_l (x := [-1]) (Ex.list1 (Ex.neg Ex.int)) ?_ ?_
      · refine Ex.compL (cl := _) rfl rfl (by decide) ?_
        refine' Body.pairs ?h (hp.keeps le') ?a (fun q => decide (q.1 < i) && decide (i < q.2)) ?b ?c ?d ?e ?f ?g
        case h => exact H.hd
        case a => omega
        case b => decide
        case c => rfl
        case d => exact fun _ => rfl
        case e => exact fun _ => rfl
        case f => exact Ex.cell rfl rfl rfl (cell_up B0.pairs fun o => le _ o) fun _ _ => rfl
        intro q C s' m t u n1 m1 m2 le2
        refine lt_lt (fun Q E h => name_loc rfl rfl (by decide) n1 m1 h) (fun Q E h => name_cell rfl rfl (by decide) rfl (cell_up hc fun o => le2 _ o) h) (fun Q E h => name_loc rfl rfl (by decide) n1 m2 h) rfl ⟨?_, Kp.refl⟩
        simp
      · have := List.length_filter_le (fun q : Nat × Nat => decide (q.1 < i) && decide (i < q.2)) pr
        simp only [List.length_map, List.length_cons, List.length_nil]
        omega
  rintro v s₁ s₂ k₁ ⟨Ds, is, ns, ev, q₁, i₁⟩ b₂ c₂ os₂ tk₂
  subst ev
  replace b₂ : But (L + 4) s₁.heap s₂.heap := b₂
  replace c₂ : s₂.heap.IsCell (L + 4) _ := c₂
  have B1 : Tb s L (.str (S run) t1) (.ref pp) (.int (k : Nat) t3) s₂ := (B0.kp k₁).but b₂ os₂ (Nat.le_trans htk tk₂) (f0 4) (ne_add (by decide)) (ne_add (by decide)) (ne_add (by decide))
  have neS : Ds ≠ L + 4 := fun e => cell_data (cell_up cs0 fun o => k₁.keep _ o) _ (by rw [← e]; exact q₁) rfl
  have LS : Lc (L + 4) Ds is ns (sentL run pr k) s₂.heap := ⟨c₂, b₂ _ _ neS q₁, i₁⟩
  have co1 : s₂.heap.IsCell (L + 5) none := cell_up co0 fun o q => b₂ _ o (ne_add (by decide)) (k₁.keep _ o q)
  have n1 := n0.at' (h' := s₂.heap) fun o q => b₂ _ o (Nat.ne_of_lt (Nat.lt_add_of_pos_right (by decide))) (k₁.keep _ o q)
  have tk0 : s.toks ≤ s₂.toks := Nat.le_trans htk tk₂
  clear B0 cs0 co0 n0 k₁ b₂ c₂ q₁ i₁ os₂ tk₂ F
  refine wpAny_execs_cons ?_
  refine asg_cell rfl rfl rfl co1 (Ex.compL (cl := _) (ns := (onL pr k).map fun (i : Nat) => (i : Int)) rfl rfl (by decide) ?_) ?_
  · refine' Body.pairs ?h2 (hp.keeps B1.le) ?a2 (fun q => decide (q.1 < k) && decide (k ≤ q.2)) ?b2 ?c2 ?d2 ?e2 ?f2 ?g2
    case h2 => exact H.hd
    case a2 => omega
    case b2 => decide
    case c2 => rfl
    case d2 => exact fun _ => rfl
    case e2 => exact fun _ => rfl
    case f2 => exact Ex.cell rfl rfl rfl B1.pairs fun _ _ => rfl
    case g2 =>
    intro q C s' m t u n1 m1 m2 le2
    refine lt_le (fun Q E h => name_loc rfl rfl (by decide) n1 m1 h) (fun Q E h => name_cell rfl rfl (by decide) rfl (cell_up B1.k fun o => le2 _ o) h) (fun Q E h => name_loc rfl rfl (by decide) n1 m2 h) rfl ⟨?_, Kp.refl⟩
    simp
  rintro v s₃ s₄ k₃ ⟨Do, io, no, ev, q₃, i₃⟩ b₄ c₄ os₄ tk₄
  subst ev
  replace b₄ : But (L + 5) s₃.heap s₄.heap := b₄
  replace c₄ : s₄.heap.IsCell (L + 5) _ := c₄
  have B2 : Tb s L (.str (S run) t1) (.ref pp) (.int (k : Nat) t3) s₄ := (B1.kp k₃).but b₄ (os₄.trans B1.os) (Nat.le_trans tk0 tk₄) (f0 5) (ne_add (by decide)) (ne_add (by decide)) (ne_add (by decide))
  have neO : Do ≠ L + 5 := fun e => cell_data (cell_up co1 fun o => k₃.keep _ o) _ (by rw [← e]; exact q₃) rfl
  have Z : Tc s L (.str (S run) t1) (.ref pp) (.int (k : Nat) t3) Ds is ns (sentL run pr k) Do io no ((onL pr k).map fun (i : Nat) => (i : Int)) _ s₄ :=
    ⟨B2, (LS.up k₃.keep).but b₄ (ne_add (by decide)) (cell_data (cell_up co1 fun o => k₃.keep _ o)), ⟨c₄, b₄ _ _ neO q₃, i₃⟩, n1.at' fun o q => b₄ _ o (Nat.ne_of_lt (Nat.lt_add_of_pos_right (by decide))) (k₃.keep _ o q)⟩
  have tk0' : s.toks ≤ s₄.toks := Nat.le_trans tk0 tk₄
  clear B1 B2 LS co1 n1 k₃ b₄ c₄ q₃ i₃ os₄ tk0 tk₄ neS neO s₂ s₃
  refine wpAny_execs_cons ?_
  refine asg_loc rfl rfl Z.n (Ex.loc rfl rfl Z.n rfl (P := sV txt) fun _ _ => ⟨_, rfl⟩) ?_
  rintro v s₅ s₆ k₅ ⟨tt, rfl⟩ b₆ n₆ os₆ tk₆
  replace Z := Z.asg2 (f0 0) k₅ b₆ n₆ os₆ tk₆
  have tk1 : s.toks ≤ s₆.toks := Nat.le_trans tk0' tk₆
  clear k₅ b₆ n₆ os₆ tk₆ tk0' s₅
  refine wpAny_execs_cons ?_
  refine wpAny_mono (Q := fun fl s' => fl = .next ∧ ∃ m' tp, Tc s L (.str (S run) t1) (.ref pp) (.int (k : Nat) t3) Ds is ns (sentL run pr k) Do io no ((onL pr k).map fun (i : Nat) => (i : Int)) m' s' ∧ m' (Str.ofString "plain") = some (.str (S (plainL txt (sentL run pr k))) tp) ∧ s.toks ≤ s'.toks) ?_ ?_ (fun _ _ e => e)
  · refine wpAny_If (Ex.isTrue (c := !decide (sentL run pr k = [])) (Ex.cell rfl rfl rfl Z.sent.c (P := fun v _ => v = .ref Ds) fun _ _ => rfl) Ex.list0 (fun _ _ _ _ q => q) ?_ (hb := Le.rfl') (h := fun s₇ k₇ => ?_))
    · rintro u v s' Q E le rfl ⟨D', items', nn', rfl, q', i'⟩ h'
      refine ne_intsK (vs := is.toList) (us := items'.toList) ⟨_, le _ _ Z.sent.l, rfl, ns, rfl⟩ Z.sent.i ⟨_, q', rfl, nn', rfl⟩ i' ?_ h'
      have := H.un
      show A.units + 3 + 64 < 9900
      omega
    replace Z := Z.kp k₇
    replace tk1 : s.toks ≤ s₇.toks := Nat.le_trans tk1 k₇.tok
    clear k₇ s₆
    by_cases hsn : sentL run pr k = []
    · rw [decide_eq_true hsn]
      refine wpAny_execs_nil ⟨rfl, _, tt, Z, ?_, tk1⟩
      show some _ = _
      unfold plainL; rw [if_pos hsn]
    · rw [decide_eq_false hsn]
      show wpAny _ _ (execs _ _) _ _ _
      refine wpAny_execs_cons ?_
      have hcl : (crlf1 txt).length ≤ txt.length := crlf1_len txt
      refine asg_locT (Nat.lt_of_lt_of_le ht tk1) rfl rfl Z.n (ExT.split (l := repL 13 [10] (crlf1 txt)) (ExT.replace (a := [13]) (c := [10]) (ExT.replace (a := [13, 10]) (c := [10]) (Ex.t (Ex.loc rfl rfl Z.n rfl (P := sV txt) fun _ _ => ⟨_, rfl⟩)) li_crlf li_lf (by decide +kernel) (by omega) (by decide) (replace_crlf txt)) li_cr li_lf (by decide +kernel) (by omega) (by decide) (replace_sign _ _ _)) li_lf ?_) ?_
      · have := repL_len 13 [10] (crlf1 txt) (by decide)
        simp only [List.length_singleton] at this
        omega
      rintro v s₈ s₉ k₈ ⟨Dr, ir, rfl, q₈, i₈⟩ b₉ n₉ os₉ tk₉
      replace i₈ : StrsAre ir.toList ((rowsL txt).map S) := i₈
      have lr : s₉.heap.IsList Dr ir := list_but q₈ (Z.n.keeps k₈.keep) b₉
      replace Z := Z.asg2 (f0 0) k₈ b₉ n₉ os₉ tk₉
      replace tk1 : s.toks ≤ s₉.toks := Nat.le_trans tk1 tk₉
      clear k₈ q₈ b₉ n₉ os₉ tk₉ s₇ s₈
      have hrn : ir.size = (rowsL txt).length := by
        have := strs_length i₈
        rw [Array.length_toList, List.length_map] at this
        exact this
      have hr1 := rows_len txt
      have hr0 : (rowsL txt).length ≠ 0 := fun e => rows_ne txt (List.eq_nil_of_length_eq_zero e)
      have hsl := sent_len run pr k
      have hss : is.size = (sentL run pr k).length := by
        have := Z.sent.i.length
        rw [Array.length_toList] at this
        exact this
      refine wpAny_execs_cons ?_
      refine asg_loc rfl rfl Z.n (Ex.add_l (x := [(((sentL run pr k).count (-1) : Nat) : Int)]) (y := List.replicate ((rowsL txt).length - 1) (((sentL run pr k).length : Nat) : Int))
        (Ex.list1 (Ex.count (Ex.cell rfl rfl rfl Z.sent.c fun _ _ => rfl) (Ex.neg Ex.int) Z.sent.l Z.sent.i))
        (Ex.rep_l (Ex.list1 (Ex.len_is (mkGlo X T (by k_is) boot_len (by decide) Z.b.le) (Ex.cell rfl rfl rfl Z.sent.c fun h le => ⟨Ds, is, rfl, ⟨_, le _ _ Z.sent.l, rfl, ns, rfl⟩, hss⟩) (by omega)))
          (Ex.sub_i (Ex.len_is (mkGlo X T (by k_is) boot_len (by decide) Z.b.le) (Ex.loc rfl rfl Z.n rfl fun h le => ⟨Dr, ir, rfl, lr.at fun o q => le _ o q, hrn⟩) (by omega)) Ex.int) (by omega) (by omega)) (by simp only [List.length_singleton, List.length_replicate]; omega)) ?_
      rintro v t₁ t₂ k₁ ⟨Dm, im, nm, rfl, q₁, i₁⟩ b₂ n₂ os₂ tk₂
      have lm : t₂.heap.IsList Dm im := list_but ⟨_, q₁, rfl, nm, rfl⟩ (Z.n.keeps k₁.keep) b₂
      replace lr : t₂.heap.IsList Dr ir := list_but (lr.at fun o q => k₁.keep _ o q) (Z.n.keeps k₁.keep) b₂
      replace Z := Z.asg2 (f0 0) k₁ b₂ n₂ os₂ tk₂
      replace tk1 : s.toks ≤ t₂.toks := Nat.le_trans tk1 tk₂
      clear k₁ q₁ b₂ n₂ os₂ tk₂ t₁ s₉
      have hmn : im.size = (rowsL txt).length := by
        have := i₁.length
        rw [Array.length_toList, List.length_append, List.length_singleton, List.length_replicate] at this
        omega
      refine wpAny_execs_cons ?_
      refine asg_loc rfl rfl Z.n (Ex.join (ls := (List.range (rowsL txt).length).map fun i => dotsRow (manyL (sentL run pr k) i) ((rowsL txt).getD i [])) li_crlf (Ex.compT (cl := _) rfl rfl (by decide) ?_) (rows_sum txt _ (by omega) htxt)) ?_
      · refine' Body.zip ?h3 (mkGlo X T (by k_is) boot_zip (by decide) Z.b.le) (Ex.loc rfl rfl Z.n rfl fun _ _ => rfl) (Ex.loc rfl rfl Z.n rfl fun _ _ => rfl) lm lr ?a3 ?b3 ?c3 ?d3 ?e3 ?f3 ?g3 (fun i v => ∃ t, v = .str (S (dotsRow (manyL (sentL run pr k) i) ((rowsL txt).getD i []))) t) ?i3 ?j3
        case h3 => exact H.hd
        case a3 => omega
        case b3 => omega
        case c3 => decide
        case d3 => rfl
        case e3 => decide
        case f3 => exact fun _ => rfl
        case g3 => exact fun _ => rfl
        case i3 => rw [hmn]; exact fun vs hv => paired_strs hv
        case j3 =>
        intro i u v C h m hlt e1 e2 hns m1 m2 le
        obtain ⟨tu, rfl⟩ := i₁.int_at i u (by rw [Array.getElem?_toList]; exact e1)
        rw [many_at _ _ _ (by omega)] at m1
        obtain ⟨y, tv, rfl, hy⟩ := i₈.item i v (by rw [Array.getElem?_toList]; exact e2)
        rw [List.getElem?_map, show (rowsL txt)[i]? = some ((rowsL txt).getD i []) by rw [List.getD_eq_getElem?_getD, List.getElem?_eq_getElem (by omega)]; rfl] at hy
        cases hy
        have hm1 := many_le (sentL run pr k) i
        have hm2 := getD_short (i := i) (rows_short txt)
        show Ex _ _ _ _ _ _ (sV (dotsRow (manyL (sentL run pr k) i) ((rowsL txt).getD i [])))
        rw [← dots_is]
        refine Ex.add_s (Ex.mul_s (Ex.mul_s (Ex.str li_dot) (Ex.loc rfl rfl hns m1 (P := iV _) fun _ _ => ⟨_, rfl⟩) rfl (by decide) (by omega))
          (Ex.int_b (mkGlo X T (by k_is) boot_int (by decide) (Le.trans Z.b.le le)) (Ex.eq_s (Ex.slice_to (Ex.loc rfl rfl hns m2 (P := sV _) fun _ _ => ⟨_, rfl⟩) (k := 1) Ex.int (by omega)) (Ex.str li_dot))) ?_ ?_ ?_) (Ex.loc rfl rfl hns m2 (P := sV _) fun _ _ => ⟨_, rfl⟩) ?_
        · by_cases hc : ((rowsL txt).getD i []).take 1 = [46]
          · rw [decide_eq_true hc, if_pos rfl, if_pos hc]; rfl
          · rw [decide_eq_false hc, if_neg Bool.false_ne_true, if_neg hc]; rfl
        · rw [flat1, List.length_replicate]; omega
        · split <;> omega
        · rw [flat1]
          split <;> simp only [List.replicate_succ, List.replicate_zero, List.flatten_cons, List.flatten_nil, List.length_append, List.length_replicate, List.length_nil, List.append_nil] <;> omega
      rintro v t₃ t₄ k₃ ⟨tp, rfl⟩ b₄ n₄ os₄ tk₄
      refine wpAny_execs_nil ⟨rfl, _, tp, Z.asg2 (f0 0) k₃ b₄ n₄ os₄ tk₄, ?_, Nat.le_trans tk1 tk₄⟩
      show some _ = _
      unfold plainL
      rw [if_neg hsn, rows_dots _ _ (rows_ne txt)]
      (try rfl)
  rintro fl s₈ ⟨rfl, m₈, tp, Z', hpl, tk8⟩
  clear Z tk1
  have Z := Z'
  clear Z'
  have hsl := sent_len run pr k
  have hps := plain_short (sent := sentL run pr k) htxt (by omega)
  have hos : io.size = (onL pr k).length := by
    have := Z.on.i.length
    rw [Array.length_toList, List.length_map] at this
    exact this
  generalize hn : (onL pr k).length = n at hon hos
  refine wpAny_execs_cons ?_
  refine asg_loc rfl rfl Z.n (Ex.join (sep := []) (ls := (plainL txt (sentL run pr k)).map (signL n)) li_no (Ex.compT (cl := _) rfl rfl (by decide) ?_) (inner_sum n _ hon hps)) ?_
  · refine' Body.str ?h4 (Ex.loc rfl rfl Z.n hpl (P := sV _) fun _ _ => ⟨_, rfl⟩) ?a4 ?c4 ?d4 ?f4 (fun i v => ∃ t, v = .str (S (signL n ((plainL txt (sentL run pr k)).getD i 0))) t) ?i4 ?j4
    case h4 => exact H.hd
    case a4 => omega
    case c4 => decide
    case d4 => rfl
    case f4 => exact fun _ => rfl
    case i4 =>
      intro vs hv
      have := paired_strs hv
      rw [map_getD 0 (signL n)] at this
      exact this
    case j4 =>
    intro i c C h m t hc hns m1 le
    rw [List.getD_eq_getElem?_getD, hc]
    show Ex _ _ _ _ _ _ (sV (signL n c))
    rw [← sign_is]
    have hp5 := pow_le5 hon
    refine Ex.add_s (Ex.mul_s (Ex.mul_s (Ex.str li_bs) (Ex.sub_i (Ex.pow_i Ex.int (Ex.len_is (mkGlo X T (by k_is) boot_len (by decide) (Le.trans Z.b.le le)) (Ex.cell rfl rfl rfl (cell_up Z.on.c fun o => le _ o) fun h' le' => ⟨Do, io, rfl, ⟨_, le' _ _ (le _ _ Z.on.l), rfl, no, rfl⟩, hos⟩) (by omega)) (by omega) (by omega) (by decide)) Ex.int) (pow_sub n) (by decide) (by omega))
      (Ex.int_b (mkGlo X T (by k_is) boot_int (by decide) (Le.trans Z.b.le le)) (Ex.in_s (Ex.loc rfl rfl hns m1 (P := sV _) fun _ _ => ⟨_, rfl⟩) (Ex.str li_marks))) ?_ ?_ ?_) (Ex.loc rfl rfl hns m1 (P := sV _) fun _ _ => ⟨_, rfl⟩) ?_
    · by_cases hc : c ∈ [34, 92]
      · rw [decide_eq_true hc, if_pos rfl, if_pos hc]; rfl
      · rw [decide_eq_false hc, if_neg Bool.false_ne_true, if_neg hc]; rfl
    · rw [flat1, List.length_replicate]; omega
    · split <;> omega
    · rw [flat1]
      split <;> simp only [List.replicate_succ, List.replicate_zero, List.flatten_cons, List.flatten_nil, List.length_append, List.length_replicate, List.length_nil, List.append_nil, List.length_singleton] <;> omega
  rintro v t₁ t₂ k₁ ⟨ti, rfl⟩ b₂ n₂ os₂ tk₂
  rw [inner_is] at n₂
  replace Z := Z.asg2 (f0 0) k₁ b₂ n₂ os₂ tk₂
  replace tk8 : s.toks ≤ t₂.toks := Nat.le_trans tk8 tk₂
  clear k₁ b₂ n₂ os₂ tk₂ t₁ s₈ hpl
  refine wpAny_execs_cons ?_
  refine asg_comp (cl := []) (F := fun vs => StrsAre vs (((List.range n).map mkL).map S)) rfl rfl Z.n rfl rfl rfl (by decide) ?_ ?_
  · refine' Body.range ?h5 (Ex.range1 (mkGlo X T (by k_is) boot_range (by decide) Z.b.le) (Ex.len_is (mkGlo X T (by k_is) boot_len (by decide) Z.b.le) (Ex.cell rfl rfl rfl Z.on.c fun h' le' => ⟨Do, io, rfl, ⟨_, le' _ _ Z.on.l, rfl, no, rfl⟩, hos⟩) ?z5) rfl) ?a5 ?c5 ?d5 ?f5 (fun _ => true) (fun i v => ∃ t, v = .str (S (mkL i)) t) ?i5 ?j5 ?k5
    case h5 => exact H.hd
    case z5 => omega
    case a5 => omega
    case c5 => decide
    case d5 => rfl
    case f5 => exact fun _ => rfl
    case i5 =>
      intro vs hv
      rw [List.filter_eq_self.mpr fun _ _ => rfl] at hv
      exact paired_strs hv
    case j5 => exact fun i C s' m t hlt h1 h2 le => wpAny_tests_nil ⟨rfl, .refl⟩
    case k5 =>
    intro i C h m t hlt _ hns m1 le
    show Ex _ _ _ _ _ _ (sV (mkL i))
    rw [← mk_is]
    have hp5 := pow_le5 (n := i) (by omega)
    refine Ex.add_s (Ex.mul_s (Ex.str li_bs) (Ex.sub_i (Ex.pow_i Ex.int (Ex.loc rfl rfl hns m1 (P := iV (i : Nat)) fun _ _ => ⟨_, rfl⟩) (by omega) (by omega) (by decide)) Ex.int) (pow_sub i) (by decide) (by omega)) (Ex.str li_q) ?_
    rw [flat1, List.length_replicate, List.length_singleton]; omega
  intro Dm im nm t₃ b₃ nd lm im' n₃ os₃ tk₃
  replace Z := Z.asg (f0 0) b₃ n₃ (os₃.trans Z.b.os) (Nat.le_trans tk8 tk₃)
  replace tk8 : s.toks ≤ t₃.toks := Nat.le_trans tk8 tk₃
  replace lm : t₃.heap.IsList Dm im := ⟨_, lm, rfl, nm, rfl⟩
  clear nd b₃ n₃ os₃ tk₃ t₂
  refine wpAny_execs_cons ?_
  refine asg_comp (cl := [(Str.ofString "sent", L + 4)]) (F := fun vs => StrsAre vs ((((onL pr k).map fun (i : Nat) => (i : Int)).reverse.map (headL (sentL run pr k))).map S)) rfl rfl Z.n rfl rfl rfl (by decide) ?_ ?_
  · refine' Body.ints (ns := ((onL pr k).map fun (i : Nat) => (i : Int)).reverse) ?h6 ?r6 ?a6 ?c6 ?d6 ?f6 (fun i v => ∃ t, v = .str (S (headL (sentL run pr k) (((onL pr k).map fun (i : Nat) => (i : Int)).reverse.getD i 0))) t) ?i6 ?k6
    case h6 => exact H.hd
    case r6 => exact Ex.mono (Ex.rev (items := io) (Ex.cell rfl rfl rfl Z.on.c fun _ _ => rfl) ⟨_, Z.on.l, rfl, no, rfl⟩ (by omega)) (fun v h' ⟨D', e', q'⟩ => ⟨D', _, 0, e', q', IntsAre.reverse Z.on.i⟩)
    case a6 => rw [List.length_reverse, List.length_map]; omega
    case c6 => decide
    case d6 => rfl
    case f6 => exact fun _ => rfl
    case i6 =>
      intro vs hv
      have := paired_strs hv
      rw [map_getD 0 (headL (sentL run pr k))] at this
      exact this
    case k6 =>
    intro i C h m t hlt hns m1 le
    show Ex _ _ _ _ _ _ (sV (headL (sentL run pr k) (((onL pr k).map fun (i : Nat) => (i : Int)).reverse.getD i 0)))
    rw [← head_is]
    have hcl : (sentL run pr k).count (((onL pr k).map fun (i : Nat) => (i : Int)).reverse.getD i 0) ≤ (sentL run pr k).length := List.count_le_length
    refine Ex.add_s (Ex.mul_s (Ex.str li_dot) (Ex.add_i Ex.int (Ex.count (Ex.cell rfl rfl rfl (cell_up Z.sent.c fun o => le _ o) fun _ _ => rfl) (Ex.loc rfl rfl hns m1 (P := iV _) fun _ _ => ⟨_, rfl⟩) (le _ _ Z.sent.l) Z.sent.i)) (by omega) (by decide) (by omega)) (Ex.str li_eq) ?_
    rw [flat1, List.length_replicate, List.length_singleton]; omega
  intro Dh ih nh t₄ b₄ nd lh ih' n₄ os₄ tk₄
  replace lm : t₄.heap.IsList Dm im := list_but lm Z.n b₄
  replace Z := Z.asg (f0 0) b₄ n₄ (os₄.trans Z.b.os) (Nat.le_trans tk8 tk₄)
  replace tk8 : s.toks ≤ t₄.toks := Nat.le_trans tk8 tk₄
  replace lh : t₄.heap.IsList Dh ih := ⟨_, lh, rfl, nh, rfl⟩
  clear nd b₄ n₄ os₄ tk₄ t₃
  have hms : im.size = n := by
    have := strs_length im'
    rw [Array.length_toList, List.length_map, List.length_map, List.length_range] at this
    exact this
  have hhs : ih.size = n := by
    have := strs_length ih'
    rw [Array.length_toList, List.length_map, List.length_map, List.length_reverse, List.length_map] at this
    omega
  generalize hHS : ((onL pr k).map fun (i : Nat) => (i : Int)).reverse.map (headL (sentL run pr k)) = hs at ih'
  have hhl : hs.length = n := by rw [← hHS, List.length_map, List.length_reverse, List.length_map]; exact hn
  have hml : ((List.range n).map mkL).length = n := by rw [List.length_map, List.length_range]
  have hb1 : ∀ x ∈ hs, x.length ≤ 22 := by
    rw [← hHS]
    intro x hx
    obtain ⟨i, _, rfl⟩ := List.mem_map.mp hx
    exact head_len i (by omega)
  have hb2 : ∀ x ∈ (List.range n).map mkL, x.length ≤ 32 := by
    intro x hx
    obtain ⟨i, hi, rfl⟩ := List.mem_map.mp hx
    exact mk_len (by have := List.mem_range.mp hi; omega)
  have hb3 := sum_len_le _ (zip_len hb1 hb2)
  have hb4 := sum_len_le ((List.range n).map mkL).reverse (B := 32) fun x hx => hb2 x (List.mem_reverse.mp hx)
  have hzl : (List.zipWith (fun a c => a ++ c) hs ((List.range n).map mkL)).length = n := by rw [List.length_zipWith, hhl, hml, Nat.min_self]
  refine wpAny_execs_cons (wpAny_Return_some ?_)
  refine Ex.run (P := sV ((joinL [] (List.zipWith (fun a c => a ++ c) hs ((List.range n).map mkL)) ++ innerL n (plainL txt (sentL run pr k))) ++ joinL [] ((List.range n).map mkL).reverse)) ?_ (fun v s' kk ⟨tv, ev⟩ => ?_)
  · refine Ex.add_s (Ex.add_s (Ex.join li_no (Ex.compT (cl := []) rfl rfl (by decide) ?_) ?_) (Ex.loc rfl rfl Z.n rfl (P := sV _) fun _ _ => ⟨_, rfl⟩) ?_) (Ex.join li_no ?_ ?_) ?_
    · refine' Body.zip ?h7 (mkGlo X T (by k_is) boot_zip (by decide) Z.b.le) (Ex.loc rfl rfl Z.n rfl fun _ _ => rfl) (Ex.loc rfl rfl Z.n rfl fun _ _ => rfl) lh lm ?a7 ?b7 ?c7 ?d7 ?e7 ?f7 ?g7 (fun i v => ∃ t, v = .str (S (hs.getD i [] ++ ((List.range n).map mkL).getD i [])) t) ?i7 ?j7
      case h7 => exact H.hd
      case a7 => omega
      case b7 => omega
      case c7 => decide
      case d7 => rfl
      case e7 => decide
      case f7 => exact fun _ => rfl
      case g7 => exact fun _ => rfl
      case i7 =>
        intro vs hv
        rw [hhs] at hv
        have e := zip_getD (hs := hs) (ms := (List.range n).map mkL) (by omega)
        rw [hhl] at e
        have := paired_strs hv
        rw [e] at this
        exact this
      case j7 =>
      intro i u v C h' m hlt e1 e2 hns m1 m2 le
      obtain ⟨y, tv, rfl, hy⟩ := ih'.item i u (by rw [Array.getElem?_toList]; exact e1)
      obtain ⟨y', tv', rfl, hy'⟩ := im'.item i v (by rw [Array.getElem?_toList]; exact e2)
      rw [List.getElem?_map, List.getElem?_eq_getElem (by omega)] at hy hy'
      cases hy
      cases hy'
      have g1 : hs.getD i [] = hs[i]'(by omega) := by rw [List.getD_eq_getElem?_getD, List.getElem?_eq_getElem (by omega)]; rfl
      have g2 : ((List.range n).map mkL).getD i [] = ((List.range n).map mkL)[i]'(by omega) := by rw [List.getD_eq_getElem?_getD, List.getElem?_eq_getElem (by omega)]; rfl
      rw [g1, g2]
      have z1 := hb1 _ (List.getElem_mem (show i < hs.length by omega))
      have z2 := hb2 _ (List.getElem_mem (show i < ((List.range n).map mkL).length by omega))
      exact Ex.add_s (Ex.loc rfl rfl hns m1 (P := sV _) fun _ _ => ⟨_, rfl⟩) (Ex.loc rfl rfl hns m2 (P := sV _) fun _ _ => ⟨_, rfl⟩) (by omega)
    · rw [hzl] at hb3 ⊢
      simp only [List.length_nil]; omega
    · rw [joinL_nil, List.length_flatten]
      have := inner_len n (plainL txt (sentL run pr k)) hon
      rw [hzl] at hb3
      omega
    · exact Ex.mono (Ex.rev (items := im) (Ex.loc rfl rfl Z.n rfl fun _ _ => rfl) lm (by omega)) (fun v h' ⟨D', e', q'⟩ => ⟨D', _, e', ⟨_, q', rfl, 0, rfl⟩, by rw [List.map_reverse]; exact strs_reverse im'⟩)
    · rw [List.length_reverse, hml] at hb4 ⊢
      simp only [List.length_nil]; omega
    · rw [List.length_append, joinL_nil, joinL_nil, List.length_flatten, List.length_flatten]
      have := inner_len n (plainL txt (sentL run pr k)) hon
      rw [List.length_reverse, hml] at hb4
      rw [hzl] at hb3
      omega
  subst ev
  rw [← hHS, ← hn, told_is]
  exact h tv s' (Kp.trans ⟨Z.b.le, Z.b.os, Z.b.tok⟩ kk)
end Mine
section
open Sem (wp)
namespace Mine
/-- the frame of a function with cells and one local name that is bound: a token is drawn -/
theorem newEnv_one {M : Model} {A : Around} {E : Value → Shared → Prop} {s : Shared} {scope : Scope} {globals : Addr} {x : Str} {v : Value} {qual : Str} {func : Option Addr} {code : Value} {builtins : Addr} {Q : Env → Shared → Prop}
    (hk : scope.kind = .function) (hl : scope.names.lookup x = some .local)
    (hQ : ∀ env, env = newEnv scope s.heap.objs.size globals (cellsFrom (s.heap.objs.size + 1) scope.names []) qual func code none builtins →
      ∀ s', InCallC s env.locals (fun y => if y = x then some v else none) env.cells (fun _ => none) s' → s.toks < s'.toks → Q env s') :
    wpAny M A (newFunctionEnv scope globals [] [(x, v)] qual func code none builtins) Q E s := by
  simp only [newFunctionEnv, Option.isSome_none, Bool.false_eq_true, if_false]
  refine wpAny_bind (wpAny_alloc ?_)
  refine wpAny_bind (wpAny_layCells _ (fun name kind cells => by cases hkc : kind == NameKind.cell <;> simp [hkc]) _ _ _ _ ?_)
  have ok := cellsFrom_ok scope.names (s.heap.push { cls := .type "frame", data := .dict #[] }) (s.heap.objs.size + 1) [] ⟨fun _ _ hm => (nomatch hm), List.Pairwise.nil⟩ (by rw [Heap.size_push]; exact Nat.le_refl _)
  rw [Heap.size_push] at ok
  rw [show ({ s with heap := s.heap.push { cls := .type "frame", data := .dict #[] } } : Shared).heap.objs.size = s.heap.objs.size + 1 from Heap.size_push ..]
  have x0 : InCallC s s.heap.objs.size (fun _ => none) (cellsFrom (s.heap.objs.size + 1) scope.names []) (fun _ => none) { s with heap := pushCells (s.heap.push { cls := .type "frame", data := .dict #[] }) scope.names } :=
    ⟨⟨⟨_, _, rfl⟩, (Heap.Ns.new s.heap (.type "frame")).keeps (pushCells_keeps _ _), fun b o e => pushCells_keeps _ _ b o (Heap.get?_push_of_some _ e), Nat.le_refl _⟩,
      fun n c hc => (ok.empty n c (mem_of_lookup hc)).1, ok.apart, fun n c hm => (ok.empty n c hm).2⟩
  refine wpAny_bind ?_
  rw [List.forIn_cons]
  refine wpAny_bind (wpAny_bind (wpAny_storeName_local (env := newEnv scope s.heap.objs.size globals (cellsFrom (s.heap.objs.size + 1) scope.names []) qual func code none builtins) hl x0.toInCall.ns (fun h' hn' hs' => ?_) (notClass hk)))
  refine wpAny_pure ?_
  show wpAny _ _ (forIn ([] : List (Str × Value)) _ _) _ _ _
  rw [List.forIn_nil]
  refine wpAny_pure (wpAny_pure (hQ _ rfl _ ⟨⟨⟨h', _, rfl⟩, hn', fun b o e => ?_, x0.toInCall.fresh⟩, fun k c hc => ?_, x0.apart, x0.above⟩ (Nat.lt_succ_self _)))
  · exact hs'.extBut b o (Nat.ne_of_lt (Nat.lt_of_lt_of_le (Heap.lt_size e) x0.toInCall.fresh)) (x0.toInCall.keep b o e)
  · exact (x0.cell k c hc).sameBut hs' (Nat.ne_of_gt (x0.above k c (mem_of_lookup hc)))
section
variable {prog : Program} {w : World} {A : Around} {s : Shared} {K : Frag}
/-- entering a function that has cells and one local parameter -/
theorem enter_fn1 {p : Program} {loose : List Str} {mean : ExcName → Option Value} {mg mb : Str → Option Value}
    {R : Result → Shared → Prop} {name qual : Str} {params : Arguments} {body : List Stmt} {scope : Scope} {dV kV doc pm cdv ct oc : Value} {an od : Option Addr} {osl : Array (Option Value)} {f : Addr} {args : Args} {x : Str} {v : Value}
    (X : K.In s.heap) (T : Top p loose mean mg mb s.heap)
    (ho : K.lookup f = some ⟨oc, od, .func (fnOf name qual params body scope dV kV doc pm an cdv ct), osl⟩) (hcd : codeIn K cdv qual = true) (hroom : A.depth < recursionLimit)
    (hbind : BindsTo s (fnOf name qual params body scope dV kV doc pm an cdv ct) args [(x, v)]) (hkind : scope.names.lookup x = some .local)
    (hnd : ((cellsFrom 0 scope.names []).map (·.1)).Nodup)
    (h : ∀ h₁ tk cells, Fr s.heap s.heap.objs.size h₁ (fun y => if y = x then some v else none) → News s.heap s.heap.objs.size h₁ cells →
      CellsAre (fun _ => none) (cellsFrom (s.heap.objs.size + 1) scope.names []) cells → s.toks < tk →
      wpAny (model prog w) (A.deeper (envOfC qual scope s.heap.objs.size f cdv)) (execs body (envOfC qual scope s.heap.objs.size f cdv))
        (fun fl s' => R (.ok (.ret (match fl with | .ret v => v | _ => .none))) s')
        (fun _ _ => False)
        { s with heap := h₁, toks := tk })
    (hco : scope.isCoroutine = false) (hgen : scope.isGenerator = false) (hk : scope.kind = .function) : codeAny (model prog w) A (.call (.ref f) args) R s := by
  refine codeAny_call_function (fd := fnOf name qual params body scope dV kV doc pm an cdv ct) hroom (X _ _ ho) rfl hco hgen rfl (codeRec_of X hcd) (hbind _ _ _ _ ?_)
  refine newEnv_one hk hkind fun env' he s' x htk => ?_
  subst he
  refine ⟨T.nolimit.keeps x.toInCall.keep, codeAny_func ?_⟩
  obtain ⟨h₁, tk, rfl, _⟩ := x.done
  have hk₁ := x.toInCall.keep
  obtain ⟨cells, NC, Y⟩ := Cl.news (h₀ := s.heap) (Nat.le_refl _) fun n c hm => ⟨x.cell n c (lookup_of_mem_nodup (cellsFrom_names scope.names 0 (s.heap.objs.size + 1) [] [] rfl ▸ hnd) hm), x.above n c hm⟩
  exact wpAny_mono (h h₁ tk cells ⟨x.toInCall.ns, fun b o e => hk₁ b o e, Nat.le_refl _⟩ NC Y htk) (fun fl s' hl => hl) fun _ _ y => y.elim
end
theorem cells3 {cm : Str → Option Value} {n1 n2 n3 : Str} {c1 c2 c3 : Addr} {cells : XS} (x : CellsAre cm [(n1, c1), (n2, c2), (n3, c3)] cells) :
    ∃ o1 o2 o3, cells = [(c1, o1), (c2, o2), (c3, o3)] ∧ o1.data = .cell (cm n1) ∧ o2.data = .cell (cm n2) ∧ o3.data = .cell (cm n3) := by
  obtain ⟨o1, _, rfl, d1, x⟩ := cells_cons x
  obtain ⟨o2, _, rfl, d2, x⟩ := cells_cons x
  obtain ⟨o3, _, rfl, d3, x⟩ := cells_cons x
  obtain rfl := cells_nil x
  exact ⟨o1, o2, o3, rfl, d1, d2, d3⟩
end Mine
end
section
open PyProof.V PySem.Spec PySem.SeqAt
open Sem (wp)
namespace Mine
theorem eq_strs {prog : Program} {w : World} {A : Around} {E : Value → Shared → Prop} {s : Shared} {a b : Addr} {its its' : Array Value} {ss : List Str} {Q : Value → Shared → Prop} (hl : s.heap.IsList a its) (hi : StrsAre its.toList ss) (hl' : s.heap.IsList b its') (hi' : StrsAre its'.toList ss) (hu : A.units < cLine)
    (h : Q (.bool true) s) : wpAny (model prog w) A (compareOp .Eq (.ref a) (.ref b)) Q E s := by
  have e1 := strs_length hi
  have e2 := strs_length hi'
  rw [Array.length_toList] at e1 e2
  have key := RcAt.lists (A := A) (e := fun _ => true) hl hl' (e1.trans e2.symm) hu fun j h1 h2 => by
    obtain ⟨y, t, e3, q1⟩ := hi.item j its[j] (by rw [Array.getElem?_toList, Array.getElem?_eq_getElem h1])
    obtain ⟨z, u, e4, q2⟩ := hi'.item j its'[j] (by rw [Array.getElem?_toList, Array.getElem?_eq_getElem h2])
    rw [q1] at q2
    cases q2
    rw [e3, e4]
    have := EqAt.str_str (A := A.in1) (s := s) y t y u
    rw [beq_self_eq_true] at this
    exact this
  refine key prog w E Q ?_
  have : (List.range its.size).all (fun _ => true) = true := by simp
  rw [this]
  exact h
section
variable {prog : Program} {w : World} {A : Around} {E : Value → Shared → Prop} {s : Shared} {env : Env}
/-- a comprehension whose elements are new objects -/
theorem comp_objs {elt target iter : Expr} {ifs : List Expr} {scope : Scope} {cl : List (Str × Addr)} {pos : Pos} {it : Addr} {fp wr : List Addr} {n : Nat} {St : Nat → Heap → Prop} {Kd : Env → Prop} {Bd : Nat → (Str → Option Value) → Prop} {RR : Value → Addr → Result → Shared → Prop}
    (W : Src prog w A it fp wr n St target Kd Bd) (p : Nat → Bool) (G : Nat → Obj → Prop) (hn : n ≤ 100000)
    (hcell : ∀ y ∈ scope.names, y.2 ≠ .cell) (hkind : scope.kind = .function) (hK : ∀ C, Kd (compEnvC scope cl C env))
    (hst : St 0 s.heap) (hfp : ∀ b ∈ fp, b < s.heap.objs.size) (hlive : ∀ i h, St i h → ∀ b ∈ wr, ∃ o, h.get? b = some o)
    (tests : ∀ i C (s' : Shared) m, i < n → s'.heap.Ns C m → Bd i m → (∀ b o, b ∉ wr → s.heap.get? b = some o → s'.heap.get? b = some o) → s'.os = s.os → s.toks ≤ s'.toks →
      wpAny (model prog w) A (forIn ifs true fun c r => if r = true then do let ok ← isTrue c (compEnvC scope cl C env) (eval c (compEnvC scope cl C env)); pure (ForInStep.yield ok) else pure (ForInStep.yield r)) (fun ok s'' => ok = p i ∧ Kp s' s'') (fun _ _ => False) s')
    (elts : ∀ i C (s' : Shared) m, i < n → p i = true → s'.heap.Ns C m → Bd i m → (∀ b o, b ∉ wr → s.heap.get? b = some o → s'.heap.get? b = some o) → s'.os = s.os → s.toks ≤ s'.toks →
      wpAny (model prog w) A (eval elt (compEnvC scope cl C env)) (fun y s'' => (∃ T o, y = .ref T ∧ s'.heap.get? T = none ∧ s''.heap.get? T = some o ∧ G i o) ∧ Kp s' s'') (fun _ _ => False) s')
    (h : ∀ D C items nn s' mC, (∀ b o, b ∉ wr → s.heap.get? b = some o → s'.heap.get? b = some o) → s.heap.get? D = none → s.heap.get? C = none → C ≠ D → s'.heap.Ns C mC → s'.heap.get? D = some (listOf items nn) → Paired (fun i v => ∃ T o, v = .ref T ∧ s'.heap.get? T = some o ∧ G i o) ((List.range n).filter p) items.toList → s'.os = s.os → s.toks ≤ s'.toks → RR (.ref D) C (.ok .next) s') :
    wpAny (model prog w) A (newList []) (fun acc s₃ => wpAny (model prog w) A (newFunctionEnv scope env.globals cl [] env.qual none .none (some env)) (fun cenv s₄ =>
      codeAny (model prog w) A (.compStart (.ListComp elt [⟨target, iter, ifs, 0⟩] scope pos) 0 (.ref it) acc { cenv with scope := relabel scope env }) (RR acc cenv.locals) s₄) E s₃) E s := by
  have mono : ∀ {P P' : Nat → Value → Prop} {l : List Nat} {vs : List Value}, (∀ i v, P i v → P' i v) → Paired P l vs → Paired P' l vs := by
    intro P P' l vs hpp hP
    induction hP with
    | nil => exact .nil
    | cons h1 _ ih => exact .cons (hpp _ _ h1) ih
  refine wpAny_newList ?_ (by show 0 ≤ sizeLine; exact Nat.zero_le _)
  refine wpAny_newFunctionEnv hcell (by intro y hy; cases hy) (fun h₁ hns₁ hsb₁ => ?_) hkind
  obtain ⟨hp', g', d', k', o'⟩ := s
  dsimp only at hns₁ hsb₁ hst hfp tests elts h ⊢
  have hsz : (hp'.push { cls := .type "list", data := .seq ([] : List Value).toArray }).objs.size = hp'.objs.size + 1 := Heap.size_push ..
  generalize hH2 : hp'.push { cls := .type "list", data := .seq ([] : List Value).toArray } = H2 at hns₁ hsb₁ hsz ⊢
  generalize hCC : H2.objs.size = C at hns₁ hsb₁ ⊢
  generalize hDD : hp'.objs.size = D at hsz hfp ⊢
  have hCD : C = D + 1 := hCC.symm.trans hsz
  have CD : C ≠ D := by rw [hCD]; exact Nat.succ_ne_self _
  have lt' : ∀ b o, hp'.get? b = some o → b < D := fun b o q => by rw [← hDD]; exact Heap.lt_size q
  have nC : ∀ b o, hp'.get? b = some o → b ≠ C := fun b o q => by rw [hCD]; exact Nat.ne_of_lt (Nat.lt_succ_of_lt (lt' b o q))
  have nD : ∀ b o, hp'.get? b = some o → b ≠ D := fun b o q => Nat.ne_of_lt (lt' b o q)
  have Cf : C ∉ fp := fun q => by have := hfp _ q; rw [hCD] at this; exact Nat.lt_irrefl _ (Nat.lt_of_succ_lt this)
  have Df : D ∉ fp := fun q => Nat.lt_irrefl _ (hfp _ q)
  have old₁ : ∀ b o, hp'.get? b = some o → h₁.get? b = some o := fun b o q => (hsb₁.2 b (nC b o q)).trans (Heap.get?_push_of_some _ (by rw [← hH2]; exact Heap.get?_push_of_some _ q))
  have hD₁ : h₁.get? D = some (listOf #[] 0) := (hsb₁.2 D (Ne.symm CD)).trans (Heap.get?_push_of_some _ (by rw [← hH2, ← hDD]; exact Heap.get?_push_size _ rfl))
  let Fh : Heap → Nat → Value → Prop := fun hh i v => ∃ T o, v = .ref T ∧ hh.get? T = some o ∧ G i o ∧ T ∉ wr ∧ T ≠ C ∧ T ≠ D
  let J : Nat → Shared → Prop := fun k s₁ => ∃ (i : Nat) (items : Array Value) (nn : Nat) (mC : Str → Option Value), k = n - i ∧ i ≤ n ∧ St i s₁.heap ∧ s₁.heap.Ns C mC ∧ s₁.heap.get? D = some (listOf items nn) ∧
    Paired (Fh s₁.heap) ((List.range i).filter p) items.toList ∧ (∀ b o, b ∉ wr → hp'.get? b = some o → s₁.heap.get? b = some o) ∧ s₁.os = o' ∧ k' ≤ s₁.toks
  have loop : ∀ s₄, J (n - 0) s₄ → codeAny (model prog w) A (.compLoop (.ListComp elt [⟨target, iter, ifs, 0⟩] scope pos) 0 (.ref it) (.ref D) (compEnvC scope cl C env)) (RR (.ref D) C) s₄ := by
    intro s₄ hJ
    refine comp_loop J ?_ _ hJ
    rintro k s₁ ⟨i, items, nn, mC, rfl, hi, hS, hC, hD, hP, kp, os₁, tk₁⟩
    by_cases hlt : i < n
    · refine' wpAny_mono (W.bind i (compEnvC scope cl C env) s₁ mC ?QQ hlt hS hC Cf (hK C) ?hQ) ?h2 ?h3
      case h3 => exact fun _ _ x => x
      case h2 =>
        intro r s₂ h₂
        cases r with
        | none => exact h₂.elim
        | some v => exact h₂
      case hQ =>
        intro s₂ m₂ hS₂ hC₂ hB₂ kp₂ os₂ tk₂
        have up₂ : ∀ b o, b ∉ wr → hp'.get? b = some o → s₂.heap.get? b = some o := fun b o hb q => kp₂ b o hb (nC b o q) (kp b o hb q)
        have hD₂ : s₂.heap.get? D = some (listOf items nn) := kp₂ D _ (fun q => Df (W.sub _ q)) (Ne.symm CD) hD
        have hP₂ : Paired (Fh s₂.heap) ((List.range i).filter p) items.toList := mono (fun i v ⟨T, o, e, q, g, w1, w2, w3⟩ => ⟨T, o, e, kp₂ T o w1 w2 q, g, w1, w2, w3⟩) hP
        refine wpAny_mono (tests i C s₂ m₂ hlt hC₂ hB₂ up₂ (os₂.trans os₁) (Nat.le_trans tk₁ tk₂)) (fun ok s₃ h₃ => ?_) fun _ _ x => x
        obtain ⟨rfl, k₃⟩ := h₃
        cases hp : p i with
        | false =>
          rw [if_neg Bool.false_ne_true]
          refine ⟨n - (i + 1), by omega, i + 1, items, nn, m₂, rfl, hlt, W.frame _ _ _ hS₂ fun b _ o q => k₃.keep b o q, hC₂.keeps k₃.keep, k₃.keep _ _ hD₂, ?_, fun b o hb q => k₃.keep b o (up₂ b o hb q), k₃.os.trans (os₂.trans os₁), Nat.le_trans (Nat.le_trans tk₁ tk₂) k₃.tok⟩
          rw [filter_range_succ, hp, if_neg Bool.false_ne_true, List.append_nil]
          exact mono (fun i v ⟨T, o, e, q, r⟩ => ⟨T, o, e, k₃.keep T o q, r⟩) hP₂
        | true =>
          rw [if_pos rfl]
          have hS₃ : St (i + 1) s₃.heap := W.frame _ _ _ hS₂ fun b _ o q => k₃.keep b o q
          refine wpAny_mono (elts i C s₃ m₂ hlt hp (hC₂.keeps k₃.keep) hB₂ (fun b o hb q => k₃.keep b o (up₂ b o hb q)) (k₃.os.trans (os₂.trans os₁)) (Nat.le_trans (Nat.le_trans tk₁ tk₂) k₃.tok)) (fun y s₄ h₄ => ?_) fun _ _ x => x
          obtain ⟨⟨T, o, rfl, T0, T1, hG⟩, k₄⟩ := h₄
          have k₃₄ := k₃.trans k₄
          have hD₃ := k₃.keep _ _ hD₂
          obtain ⟨oC, hCo⟩ : ∃ o, s₃.heap.get? C = some o := ns_get (hC₂.keeps k₃.keep)
          have TC : T ≠ C := fun e => by rw [e, hCo] at T0; cases T0
          have TD' : T ≠ D := fun e => by rw [e, hD₃] at T0; cases T0
          have Tw : T ∉ wr := fun q => by obtain ⟨o2, q2⟩ := hlive _ _ hS₃ T q; rw [q2] at T0; cases T0
          have hP₄ : Paired (Fh s₄.heap) ((List.range i).filter p) items.toList := mono (fun i v ⟨T, o, e, q, r⟩ => ⟨T, o, e, k₃₄.keep T o q, r⟩) hP₂
          have hisz : items.size ≤ 100000 := by
            have e1 := hP.length
            have e2 := List.length_filter_le p (List.range i)
            rw [List.length_range] at e2
            have e3 : items.toList.length = items.size := Array.length_toList
            have e1' : ((List.range i).filter p).length = items.toList.length := e1
            have e2' : ((List.range i).filter p).length ≤ i := e2
            omega
          refine append_at (its := items) (n := nn) (hsz := by rw [sizeLine_eq]; omega) (k₃₄.keep _ _ hD₂) fun h₅ hs₅ hD₅ => ?_
          replace hs₅ : Heap.SameBut D s₄.heap h₅ := hs₅
          refine ⟨n - (i + 1), by omega, i + 1, _, _, m₂, rfl, hlt, W.frame _ _ _ hS₂ fun b hb o q => (hs₅.2 b fun e => Df (e ▸ hb)).trans (k₃₄.keep b o q), (hC₂.keeps k₃₄.keep).at' fun o q => (hs₅.2 C CD).trans q, hD₅, ?_, fun b o hb q => (hs₅.2 b (nD b o q)).trans (k₃₄.keep b o (up₂ b o hb q)), k₃₄.os.trans (os₂.trans os₁), Nat.le_trans (Nat.le_trans tk₁ tk₂) k₃₄.tok⟩
          rw [filter_range_succ, hp, if_pos rfl, Array.toList_push]
          exact (mono (fun i v ⟨T, o, e, q, g, w1, w2, w3⟩ => ⟨T, o, e, (hs₅.2 T w3).trans q, g, w1, w2, w3⟩) hP₄).snoc ⟨T, o, rfl, (hs₅.2 T TD').trans T1, hG, Tw, TC, TD'⟩
    · have hin : i = n := by omega
      subst hin
      refine wpAny_mono (W.done s₁ (fun s' => RR (.ref D) C (.ok .next) s') hS fun s₂ kp₂ os₂ tk₂ => ?_) (fun r s₂ h₂ => ?_) fun _ _ x => x
      · refine h D C items nn _ mC (fun b o hb q => kp₂ b o hb (kp b o hb q)) ?_ ?_ CD (hC.at' fun o q => kp₂ C o (fun q' => Cf (W.sub _ q')) q) (kp₂ D _ (fun q => Df (W.sub _ q)) hD) (mono (fun i v ⟨T, o, e, q, g, w1, _⟩ => ⟨T, o, e, kp₂ T o w1 q, g⟩) hP) (os₂.trans os₁) (Nat.le_trans tk₁ tk₂)
        · rw [← hDD]; exact Heap.get?_none_of_le (Nat.le_refl _)
        · rw [hCD, ← hDD]; exact Heap.get?_none_of_le (Nat.le_succ _)
      · cases r with
        | none => exact h₂
        | some v => exact h₂.elim
  have hJ : J (n - 0) ⟨h₁, g', d', k' + 0, o'⟩ := ⟨0, #[], 0, _, rfl, Nat.zero_le _, W.frame _ _ _ hst fun b hb o q => old₁ b o q, hns₁, hD₁, .nil, fun b o _ q => old₁ b o q, rfl, Nat.le_refl _⟩
  exact codeAny_compStart_list (loop _ hJ) (W.self _ _ _ (W.frame _ _ _ hst fun b hb o q => old₁ b o q) (loop _ hJ))
end
end Mine
end
section
open Sem (wp)
namespace Mine
theorem fn_obj {K : Frag} {h : Heap} {f : Addr} {oc : Value} {od : Option Addr} {fd : FuncData} {osl : Array (Option Value)} (X : K.In h) (e : K.lookup f = some ⟨oc, od, .func fd, osl⟩) : ∃ o fd, h.get? f = some o ∧ o.data = .func fd := ⟨_, _, X _ _ e, rfl⟩
theorem fn_name {M : Model} {A : Around} {E : Value → Shared → Prop} {s : Shared} {env : Env} {K : Frag} {h₀ : Heap} {p : Program} {loose : List Str} {mean : ExcName → Option Value} {mg mb : Str → Option Value} {x : Str} {pos : Pos} {v : Value} {Q : Value → Shared → Prop} (X : K.In h₀) (T : Top p loose mean mg mb h₀) (e : nsIn K mainGlobals x = some (some v)) (le : Le h₀ s.heap)
    (h : Q v s) (hg : env.globals = mainGlobals := by rfl) (hk : env.scope.kind = .function := by rfl) (hl : env.kindOf x = some .globalImplicit := by rfl) (hd : (x == ("__debug__" : Str)) = false := by decide) : wpAny M A (eval (.Name x pos) env) Q E s :=
  Name_function_global hk hl (loadGlobal_global (mg := mg) (by rw [hg]; exact T.g.keeps le) (mg_of X T.g e) h) hd
theorem Ex.len_s {prog : Program} {w : World} {A : Around} {env : Env} {b : Heap} {x : Str} {p q : Pos} {e : Expr} {l : List Nat} (G : Glo env b x (.builtin "len")) (he : Ex prog w A env b e (sV l)) (hz : l.length ≤ 1000000) (hs : starEach [e] env = [(false, eval e env)] := by rfl) :
    Ex prog w A env b (.Call (.Name x p) [e] [] q) (iV (l.length : Nat)) :=
  Ex.built1 G he (fun u s Q E hb ⟨t, e1⟩ h => by
    subst e1
    exact len_S (by omega) (h _ _ (Kp.tk (Nat.le_succ_of_le (Nat.le_succ _))) ⟨_, rfl⟩)) hs
theorem paired_get {F : Nat → Value → Prop} : ∀ {l : List Nat} {vs : List Value}, Paired F l vs → ∀ j, j < l.length → ∃ v, vs[j]? = some v ∧ F (l.getD j 0) v
  | _, _, .nil, j, h => absurd h (Nat.not_lt_zero _)
  | _, _, .cons h1 _, 0, _ => ⟨_, rfl, h1⟩
  | _, _, .cons _ r, j + 1, h => by
    obtain ⟨v, q, f⟩ := paired_get r j (Nat.lt_of_succ_lt_succ h)
    exact ⟨v, q, f⟩
def TwoObj (f : Nat → Nat) (i : Nat) (o : Obj) : Prop := o.cls = .type "tuple" ∧ ∃ n t u, o.data = .seq #[.int (i : Nat) t, .int (f i : Nat) u] n
theorem pair_list {h : Heap} {D : Addr} {items : Array Value} {nn : Nat} {l : List Nat} {f : Nat → Nat} (hD : h.get? D = some (listOf items nn)) (hP : Paired (fun i v => ∃ T o, v = .ref T ∧ h.get? T = some o ∧ TwoObj f i o) l items.toList) : PairList h D (l.map fun i => (i, f i)) := by
  have hl : l.length = items.size := by
    have e1 := hP.length
    have e1' : l.length = items.toList.length := e1
    have e3 : items.toList.length = items.size := Array.length_toList
    exact e1'.trans e3
  refine ⟨items, ⟨_, hD, rfl, nn, rfl⟩, by rw [List.length_map]; exact hl.symm, fun j hj => ?_⟩
  obtain ⟨v, q, T, o, rfl, ho, hc, n, t, u, hd⟩ := paired_get hP j (by omega)
  rw [Array.getElem?_toList] at q
  have e : (l.map fun i => (i, f i)).getD j (0, 0) = (l.getD j 0, f (l.getD j 0)) := by
    rw [List.getD_eq_getElem?_getD, List.getElem?_map, List.getD_eq_getElem?_getD, List.getElem?_eq_getElem (by omega)]; rfl
  rw [e]
  exact ⟨T, t, u, q, o, ho, hc, n, hd⟩
theorem PairList.but {c : Addr} {h h' : Heap} {D : Addr} {pr : List (Nat × Nat)} (x : PairList h D pr) (b : But c h h') (hc : ∀ o its n, h.get? c = some o → o.data ≠ .seq its n) : PairList h' D pr := by
  obtain ⟨items, ⟨o, q, r1, nn, r2⟩, h2, h3⟩ := x
  refine ⟨items, ⟨o, b _ _ (fun e => hc o _ _ (by rw [← e]; exact q) r2) q, r1, nn, r2⟩, h2, fun j hj => ?_⟩
  obtain ⟨T, t, u, e, o, q, r1, nn, r2⟩ := h3 j hj
  exact ⟨T, t, u, e, o, b _ _ (fun e => hc o _ _ (by rw [← e]; exact q) r2) q, r1, nn, r2⟩
theorem strs_but {c : Addr} {h h' : Heap} {D : Addr} {items : Array Value} (x : h.IsList D items) (b : But c h h') (hc : ∀ o its n, h.get? c = some o → o.data ≠ .seq its n) : h'.IsList D items := by
  obtain ⟨o, q, r1, nn, r2⟩ := x
  exact ⟨o, b _ _ (fun e => hc o _ _ (by rw [← e]; exact q) r2) q, r1, nn, r2⟩
theorem on_low {run : List Nat} (hv : valid 0 run) (hl : low 0 run) {k : Nat} (hk : k ≤ run.length) : (onL (pairsL run) k).length ≤ 3 := by
  rw [on_pairs (valid_letters run 0 hv) hk]
  have e := statesT_eq run run.length 0 (by omega) (Nat.zero_le _)
  rw [List.drop_zero] at e
  have h := states_low run 0 ([], []) hl (Nat.zero_le _)
  have e' : statesT 0 run ([], []) = (List.range' 0 (run.length + 1)).map (stA run) := e
  rw [e'] at h
  exact (h (stA run k) (List.mem_map.mpr ⟨k, by rw [List.mem_range']; exact ⟨k, by omega, by omega⟩, rfl⟩)).1
theorem pairs_len (run : List Nat) : (pairsL run).length ≤ run.length := by
  unfold pairsL
  rw [List.length_map]
  exact Nat.le_trans (List.length_filter_le _ _) (by rw [List.length_range]; exact Nat.le_refl _)
theorem fillW : (PySem.Challenge.rw_tl0001_01.prog = PySem.Challenge.rw_tl0001_01.prog) ∧ (hd.heap_39 = hd.heap_39) := by k_fill; exact ⟨rfl, rfl⟩
theorem law_spec {w : World} {A : Around} {s : Shared} {R : Result → Shared → Prop} {sp : Addr} {vs : List Value} {xs : List Int} (S₀ : Std w s.heap) (H : Rm A 9)
   (hL : s.heap.IsList sp vs.toArray) (hI : IntsAre vs xs) (hx : xs.length ≤ 63)
   (h : ∀ s', Kp s s' → R (.ok (.ret (.bool true))) s') :
   codeAny (model PySem.Challenge.rw_tl0001_01.row.prog w) A (.call (.ref 111) ⟨[.ref sp], []⟩) R s := by
  obtain ⟨mean, mg, mb, T⟩ := S₀.t
  have X := S₀.x
  refine' enter_fn1 (x := Str.ofString "script") (v := .ref sp) X T ?k1 ?k2 ?k3 ?k4 ?k5 ?k6 ?_ ?k7 ?k8 ?k9
  case k1 => k_is
  case k2 => k_is
  case k3 => exact H.room
  case k4 => exact BindsTo.of_eq rfl
  case k5 => rfl
  case k6 => decide
  case k7 => rfl
  case k8 => rfl
  case k9 => rfl
  intro h₁ tk cells F N Y htk
  obtain ⟨o1, o2, o3, rfl, d1, d2, d3⟩ := cells3 (by exact Y)
  clear Y
  generalize hL' : s.heap.objs.size = L at *
  have Z0 : Le s.heap h₁ := F.keep
  have ca : h₁.IsCell (L + 1) none := ⟨o3, (N (L + 1, o3) (by repeat (first | exact List.mem_cons_self .. | refine List.mem_cons_of_mem _ ?_))).1, d3⟩
  have cb : h₁.IsCell (L + 2) none := ⟨o2, (N (L + 2, o2) (by repeat (first | exact List.mem_cons_self .. | refine List.mem_cons_of_mem _ ?_))).1, d2⟩
  have cc : h₁.IsCell (L + 3) none := ⟨o1, (N (L + 3, o1) (by repeat (first | exact List.mem_cons_self .. | refine List.mem_cons_of_mem _ ?_))).1, d1⟩
  have n0 := F.ns
  have f0 : ∀ j, s.heap.get? (L + j) = none := fun j => Heap.get?_none_of_le (by rw [hL']; exact Nat.le_add_right _ _)
  clear N d1 d2 d3 F
  obtain ⟨q1, q2, q3, q4⟩ : (∃ o fd, s.heap.get? 89 = some o ∧ o.data = .func fd) ∧ (∃ o fd, s.heap.get? 94 = some o ∧ o.data = .func fd) ∧ (∃ o fd, s.heap.get? 101 = some o ∧ o.data = .func fd) ∧ (∃ o fd, s.heap.get? 106 = some o ∧ o.data = .func fd) := by
    refine' ⟨fn_obj X ?a, fn_obj X ?b, fn_obj X ?c, fn_obj X ?d⟩
    case a => k_is
    case b => k_is
    case c => k_is
    case d => k_is
  obtain ⟨p1, fd1, q1, r1⟩ := q1
  refine wpAny_execs_cons (Assign_Tuple ?_)
  refine PyProof.Rows.Call_Name1 (fn_name X T (by k_is) Z0 ?_)
  refine callWith_function (o := p1) (fd := fd1) (evalArgs_plain (spliced_cons (name_loc rfl rfl (by decide) n0 rfl (spliced_nil ⟨⟨Z0 _ _ q1, r1⟩, wpAny_call (drawn_spec (S₀.keeps Z0) ((H.less (by decide : 8 ≤ 9)).deeper _) (Nat.lt_of_le_of_lt (Nat.zero_le _) htk) (hL.at fun o q => Z0 _ o q) hI hx ?_)⟩))))
  intro T' deeds txt on tr tt s₁ k₁ hd7 ht7 hdep hT
  show wpAny _ _ (assign (.Tuple [.Name _ _, .Name _ _] _ _) _ (.ref T')) _ _ s₁
  refine wpAny_assign_Tuple H.hd hT rfl rfl fun h₃ hx₃ => ?_
  have Z3 : Le s₁.heap h₃ := fun b o q => hx₃ b o (Nat.ne_of_lt (Heap.lt_size q)) q
  show wpAny _ _ (do holding [Value.str (S txt) tt] (assign (.Name (Str.ofString "run") _) _ (Value.str (S (deeds ++ List.replicate on 41)) tr)); do holding [] (assign (.Name (Str.ofString "text") _) _ (Value.str (S txt) tt)); pure ()) _ _ _
  have hon : on ≤ 3 := dep_le _ _ _ (by decide) hdep
  have hv := valid_run _ _ _ hdep
  have hlow := low_run _ _ _ (by decide) hdep
  have hrl : (deeds ++ List.replicate on 41).length ≤ 10 := by rw [List.length_append, List.length_replicate]; omega
  generalize deeds ++ List.replicate on 41 = run at hv hlow hrl
  refine wpAny_bind (wpAny_holding (wpAny_assign_Name (wpAny_storeName_cell rfl rfl (c := L + 1) rfl (cell_up ca fun o q => Z3 _ o (k₁.keep _ o q)) fun h₄ c₄ hs₄ => ?_)))
  refine wpAny_bind (wpAny_holding (wpAny_assign_Name (wpAny_storeName_cell rfl rfl (c := L + 2) rfl (cell_up cb fun o q => (hs₄.2 _ (ne_add (by decide))).trans (Z3 _ o (k₁.keep _ o q))) fun h₅ c₅ hs₅ => wpAny_pure ?_)))
  replace hs₄ : Heap.SameBut (L + 1) h₃ h₄ := hs₄
  replace hs₅ : Heap.SameBut (L + 2) h₄ h₅ := hs₅
  have le3 : Le s.heap h₃ := Le.trans (Le.trans Z0 k₁.keep) Z3
  have le4 : Le s.heap h₄ := fun a o q => (hs₄.2 a (fun e => by rw [e, f0] at q; cases q)).trans (le3 a o q)
  have le5 : Le s.heap h₅ := fun a o q => (hs₅.2 a (fun e => by rw [e, f0] at q; cases q)).trans (le4 a o q)
  obtain ⟨s₂, e2⟩ : ∃ s₂ : Shared, s₂ = ⟨h₅, s₁.gens, s₁.drawn, s₁.toks, s₁.os⟩ := ⟨_, rfl⟩
  have le2 : Le s.heap s₂.heap := by rw [e2]; exact le5
  have cr : s₂.heap.IsCell (L + 1) (some (.str (S run) tr)) := by rw [e2]; exact cell_up c₄ fun o q => (hs₅.2 _ (ne_add (by decide))).trans q
  have ct : s₂.heap.IsCell (L + 2) (some (.str (S txt) tt)) := by rw [e2]; exact c₅
  have cp : s₂.heap.IsCell (L + 3) none := by rw [e2]; exact cell_up cc fun o q => (hs₅.2 _ (ne_add (by decide))).trans ((hs₄.2 _ (ne_add (by decide))).trans (Z3 _ o (k₁.keep _ o q)))
  have os2 : s₂.os = s.os := by rw [e2]; exact k₁.os
  have tk2 : s.toks < s₂.toks := by rw [e2]; exact Nat.lt_of_lt_of_le htk k₁.tok
  show wpAny _ _ (execs _ _) _ _ (⟨h₅, s₁.gens, s₁.drawn, s₁.toks, s₁.os⟩ : Shared)
  rw [← e2]
  clear e2 le3 le4 le5 hs₄ hs₅ c₄ c₅ Z3 hx₃ hT k₁ ca cb cc n0 Z0 hd7 hdep hon
  clear h₅ h₄ h₃ s₁ q1 r1 htk
  obtain ⟨p2, fd2, q2, r2⟩ := q2
  obtain ⟨p3, fd3, q3, r3⟩ := q3
  obtain ⟨p4, fd4, q4, r4⟩ := q4
  refine wpAny_execs_cons (wpAny_Assign_Name ?_)
  rw [eval_ListComp]
  refine wpAny_comprehension_free (use := none) (cl := [(Str.ofString "run", L + 1)]) rfl (by intro _; rfl) rfl rfl (by decide) ?_
  refine Ex.run (P := RngV run.length) (Ex.range1 (n := run.length) (mkGlo X T (by k_is) boot_range (by decide) le2) (Ex.len_s (mkGlo X T (by k_is) boot_len (by decide) le2) (Ex.cell rfl rfl rfl cr (P := sV run) fun _ _ => ⟨_, rfl⟩) (by omega)) rfl) (fun v s₃ k₃ ⟨r, t, u, z, ev, hr⟩ => ?_)
  subst ev
  refine range_iter hr (by omega) fun s₄ k₄ sz hIt => ?_
  have k₂₄ := k₃.trans k₄
  have nI : s₂.heap.get? s₃.heap.objs.size = none := by
    cases q : s₂.heap.get? s₃.heap.objs.size with
    | none => rfl
    | some o => have := k₃.keep _ o q; rw [fresh_get] at this; cases this
  have low2 : ∀ {h' : Heap}, (∀ b o, b ∉ [s₃.heap.objs.size] → s₄.heap.get? b = some o → h'.get? b = some o) → Le s₂.heap h' := fun k a o q => k a o (fun e => by rw [List.mem_singleton.mp e, nI] at q; cases q) (k₂₄.keep a o q)
  have ei : ∀ i : Nat, (0 : Int) + (i : Nat) * 1 = ((i : Nat) : Int) := fun i => by omega
  refine' comp_objs (n := run.length) (fp := [s₃.heap.objs.size]) (wr := [s₃.heap.objs.size]) (Src.ofWalks (Walks.range ?hh s₃.heap.objs.size 0 1 run.length) _ _) (fun i => run.getD i 0 == 40) (TwoObj (mateL run)) ?hn ?hc ?hk ?hK hIt ?hf ?hl ?ht ?he ?ho
  case hh => exact H.hd
  case hn => omega
  case hc => decide
  case hk => rfl
  case hK => exact fun C => ⟨rfl, rfl⟩
  case hf => exact fun a ha => by rw [List.mem_singleton.mp ha, sz]; exact Nat.lt_succ_self _
  case hl =>
    intro i h q a ha
    rw [List.mem_singleton.mp ha]
    exact ⟨_, q⟩
  case ht =>
    rintro i C s' m hlt hns ⟨v, ⟨t', rfl⟩, hm⟩ kp os' tk'
    rw [ei] at hm
    have le := low2 kp
    refine wpAny_tests_one (Ex.true_eq (Ex.item_s (Ex.cell rfl rfl rfl (cell_up cr fun o => le _ o) (P := sV run) fun _ _ => ⟨_, rfl⟩) (Ex.loc rfl rfl hns hm (P := iV (i : Nat)) fun _ _ => ⟨_, rfl⟩) hlt (by omega)) (Ex.str li_op) (hb := Le.rfl') (h := fun s'' k' => ⟨?_, k'⟩))
    rw [Bool.eq_iff_iff]; simp
  case he =>
    rintro i C s' m hlt hp hns ⟨v, ⟨t', rfl⟩, hm⟩ kp os' tk'
    rw [ei] at hm
    have le := low2 kp
    have leS : Le s.heap s'.heap := Le.trans le2 le
    refine Tuple_ (args_cons (name_loc rfl rfl (by decide) hns hm (args_cons ?_)))
    refine PyProof.Rows.Call_Name2 (fn_name X T (by k_is) leS ?_)
    refine callWith_function (o := p3) (fd := fd3) (evalArgs_plain (spliced_cons (name_cell rfl rfl (by decide) rfl (cell_up cr fun o => le _ o) (spliced_cons (name_loc rfl rfl (by decide) hns hm (spliced_nil ⟨⟨leS _ _ q3, r3⟩, wpAny_call (mate_spec (S₀.keeps leS) ((H.less (by decide : 8 ≤ 9)).deeper _) (by omega) hlt ?_)⟩))))))
    intro tm s'' k''
    refine args_nil ?_
    refine wpAny_newObj_type ?_ (by show 2 ≤ sizeLine; decide)
    refine ⟨⟨_, _, rfl, ?_, Heap.get?_push_size _ rfl, rfl, 0, t', tm, rfl⟩, k''.trans ⟨fun a o q => Heap.get?_push_of_some _ q, rfl, Nat.le_refl _⟩⟩
    cases q : s'.heap.get? s''.heap.objs.size with
    | none => rfl
    | some o => have := k''.keep _ o q; rw [fresh_get] at this; cases this
  case ho =>
  intro D C items nn s₅ mC kp nD nC CD hns hD hP os5 tk5
  have le5 := low2 kp
  have hpl : PairList s₅.heap D (pairsL run) := pair_list hD hP
  refine ⟨mC, hns, fun h' hs' => ?_⟩
  replace hs' : Heap.SameBut C s₅.heap h' := hs'
  have nC2 : s₂.heap.get? C = none := by
    cases q : s₂.heap.get? C with
    | none => rfl
    | some o => have := k₂₄.keep _ o q; rw [nC] at this; cases this
  have le6 : Le s₂.heap h' := fun a o q => (hs'.2 a (fun e => by rw [e, nC2] at q; cases q)).trans (le5 a o q)
  replace hpl : PairList h' D (pairsL run) := hpl.but (fun a o n q => (hs'.2 a n).trans q) fun o its n q => ns_data hns o q
  have os5' : s₅.os = s.os := os5.trans (k₂₄.os.trans os2)
  have tk5' : s.toks < s₅.toks := Nat.lt_of_lt_of_le tk2 (Nat.le_trans k₂₄.tok tk5)
  refine wpAny_storeName_cell rfl rfl (c := L + 3) rfl (cell_up cp fun o => le6 _ o) fun h₆ c₆ hs₆ => ?_
  replace hs₆ : Heap.SameBut (L + 3) h' h₆ := hs₆
  replace hpl : PairList h₆ D (pairsL run) := hpl.but (fun a o n q => (hs₆.2 a n).trans q) fun o its n q => cell_data (cell_up cp fun o => le6 _ o) o q
  obtain ⟨s₇, e7⟩ : ∃ s₇ : Shared, s₇ = ⟨h₆, s₅.gens, s₅.drawn, s₅.toks, s₅.os⟩ := ⟨_, rfl⟩
  have le7 : Le s.heap s₇.heap := by rw [e7]; exact fun a o q => (hs₆.2 a (fun e => by rw [e, f0] at q; cases q)).trans (le6 a o (le2 a o q))
  have cr7 : s₇.heap.IsCell (L + 1) (some (.str (S run) tr)) := by rw [e7]; exact cell_up cr fun o q => (hs₆.2 _ (ne_add (by decide))).trans (le6 _ o q)
  have ct7 : s₇.heap.IsCell (L + 2) (some (.str (S txt) tt)) := by rw [e7]; exact cell_up ct fun o q => (hs₆.2 _ (ne_add (by decide))).trans (le6 _ o q)
  have cp7 : s₇.heap.IsCell (L + 3) (some (.ref D)) := by rw [e7]; exact c₆
  replace hpl : PairList s₇.heap D (pairsL run) := by rw [e7]; exact hpl
  have os7 : s₇.os = s.os := by rw [e7]; exact os5'
  have tk7 : s.toks < s₇.toks := by rw [e7]; exact tk5'
  show wpAny _ _ (execs _ _) _ _ (⟨h₆, s₅.gens, s₅.drawn, s₅.toks, s₅.os⟩ : Shared)
  rw [← e7]
  clear e7 hs₆ c₆ os5' tk5' le6 nC2 hs' hns hD hP le5 kp low2 nI k₂₄ hIt sz k₄ k₃ hr cp ct cr le2 os2 tk2
  refine wpAny_execs_cons (wpAny_Return_some (wpAny_Compare1 ?_))
  refine PyProof.Rows.Call_Name2 (fn_name X T (by k_is) le7 ?_)
  refine callWith_function (o := p2) (fd := fd2) (evalArgs_plain (spliced_cons (name_cell rfl rfl (by decide) rfl cr7 (spliced_cons (name_cell rfl rfl (by decide) rfl ct7 (spliced_nil ⟨⟨le7 _ _ q2, r2⟩, wpAny_call (carried_spec (S₀.keeps le7) ((H.less (by decide : 8 ≤ 9)).deeper _) (Nat.lt_of_le_of_lt (Nat.zero_le _) tk7) (by omega) (carried_small hv hlow hrl ht7) ?_)⟩))))))
  intro D₁ it₁ n₁ s₈ k₈ _ hD₁ hi₁
  have le8 : Le s.heap s₈.heap := Le.trans le7 k₈.keep
  have cr8 := cell_up cr7 fun o => k₈.keep _ o
  have ct8 := cell_up ct7 fun o => k₈.keep _ o
  have cp8 := cell_up cp7 fun o => k₈.keep _ o
  have hpl8 := hpl.keeps k₈.keep
  have os8 : s₈.os = s.os := k₈.os.trans os7
  have tk8 : s.toks < s₈.toks := Nat.lt_of_lt_of_le tk7 k₈.tok
  show wpAny _ _ (eval _ _) _ _ s₈
  rw [eval_ListComp]
  refine wpAny_comprehension_free (use := none) (cl := _) rfl (by intro _; rfl) rfl rfl (by decide) ?_
  refine Ex.run (P := RngV (run.length + 1)) (Ex.range1 (n := run.length + 1) (mkGlo X T (by k_is) boot_range (by decide) le8) (Ex.add_i (Ex.len_s (mkGlo X T (by k_is) boot_len (by decide) le8) (Ex.cell rfl rfl rfl cr8 (P := sV run) fun _ _ => ⟨_, rfl⟩) (by omega)) Ex.int) (by omega)) (fun v s₃ k₃ ⟨r, t, u, z, ev, hr⟩ => ?_)
  subst ev
  refine range_iter hr (by omega) fun s₄ k₄ sz hIt => ?_
  have k₈₄ := k₃.trans k₄
  have nI : s₈.heap.get? s₃.heap.objs.size = none := by
    cases q : s₈.heap.get? s₃.heap.objs.size with
    | none => rfl
    | some o => have := k₃.keep _ o q; rw [fresh_get] at this; cases this
  have low8 : ∀ {h' : Heap}, (∀ b o, b ∉ [s₃.heap.objs.size] → s₄.heap.get? b = some o → h'.get? b = some o) → Le s₈.heap h' := fun k a o q => k a o (fun e => by rw [List.mem_singleton.mp e, nI] at q; cases q) (k₈₄.keep a o q)
  refine' comp_list (n := run.length + 1) (fp := [s₃.heap.objs.size]) (wr := [s₃.heap.objs.size]) (Src.ofWalks (Walks.range ?hh2 s₃.heap.objs.size 0 1 (run.length + 1)) _ _) (fun _ => true) (fun i v => ∃ t, v = .str (S (toldL run txt (pairsL run) i)) t) ?hn2 ?hc2 ?hk2 ?hK2 hIt ?hf2 ?ht2 ?he2 ?ho2
  case hh2 => exact H.hd
  case hn2 => omega
  case hc2 => decide
  case hk2 => rfl
  case hK2 => exact fun C => ⟨rfl, rfl⟩
  case hf2 => exact fun a ha => by rw [List.mem_singleton.mp ha, sz]; exact Nat.lt_succ_self _
  case ht2 => exact fun i C s' m hlt hns hB kp os' tk' => wpAny_tests_nil ⟨rfl, .refl⟩
  case he2 =>
    rintro i C s' m hlt _ hns ⟨v, ⟨t', rfl⟩, hm⟩ kp os' tk'
    rw [ei] at hm
    have le := low8 kp
    have leS : Le s.heap s'.heap := Le.trans le8 le
    refine PyProof.Rows.Call_Name rfl (fn_name X T (by k_is) leS ?_)
    refine callWith_function (o := p4) (fd := fd4) (evalArgs_plain (spliced_cons (name_cell rfl rfl (by decide) rfl (cell_up cr8 fun o => le _ o) (spliced_cons (name_cell rfl rfl (by decide) rfl (cell_up ct8 fun o => le _ o) (spliced_cons (name_cell rfl rfl (by decide) rfl (cell_up cp8 fun o => le _ o) (spliced_cons (name_loc rfl rfl (by decide) hns hm
      (spliced_nil ⟨⟨leS _ _ q4, r4⟩, wpAny_call (told_spec (S₀.keeps leS) ((H.less (by decide : 8 ≤ 9)).deeper _) ?_ (hpl8.keeps le) ?_ ?_ ?_ ?_ ?_ ?_)⟩))))))))))
    · exact Nat.lt_of_lt_of_le (Nat.lt_of_le_of_lt (Nat.zero_le _) tk8) (Nat.le_trans k₈₄.tok tk')
    · have := pairs_len run; omega
    · omega
    · omega
    · omega
    · have := on_low hv hlow (k := i) (by omega); omega
    · exact fun t s'' k'' => ⟨⟨t, rfl⟩, k''⟩
  case ho2 =>
  intro D₂ C it₂ n₂ s₅ mC kp nD nC CD hns hD hP os5 tk5
  refine ⟨mC, hns, fun h' hs' => ?_⟩
  replace hs' : Heap.SameBut C s₅.heap h' := hs'
  have nC2 : s₈.heap.get? C = none := by
    cases q : s₈.heap.get? C with
    | none => rfl
    | some o => have := k₈₄.keep _ o q; rw [nC] at this; cases this
  have le9 : Le s₈.heap h' := fun a o q => (hs'.2 a (fun e => by rw [e, nC2] at q; cases q)).trans (low8 kp a o q)
  have hsame : StrsAre it₂.toList ((carriedL run txt).map S) := by
    have := paired_strs hP
    rw [List.filter_eq_self.mpr fun _ _ => rfl, ← plain_law txt hv] at this
    exact this
  refine eq_strs (its := it₁) (its' := it₂) ⟨_, le9 _ _ hD₁, rfl, n₁, rfl⟩ hi₁ ⟨_, (hs'.2 _ (Ne.symm CD)).trans hD, rfl, n₂, rfl⟩ hsame ?_ ?_
  · have := H.un
    show A.units + 3 < 9900
    omega
  · refine h _ ⟨Le.trans le8 le9, os5.trans (k₈₄.os.trans os8), Nat.le_of_lt (Nat.lt_of_lt_of_le tk8 (Nat.le_trans k₈₄.tok tk5))⟩
end Mine
end
theorem PySem.Challenge.cw_tl0001_01_holds : PySem.Challenge.rw_tl0001_01.Holds := by
  refine Mine.hd ?_
  k_fill
  intro w s₀ s₁ mg mb G Y fa o pm cd doc dV kV ho hd hcd hD hmg hg args vals as hpre hlay hrd hwl hlo
  have KX := kIn_of Y
  refine Ground.open G ?_
  intro T B D TE TW
  try (refine guard_noD D (by decide +kernel) ?_; clear D)
  have hmg2 := hmg
  wrow_args hpre hlay hrd hwl hlo
  all_goals (refine enter_call ?_)
  have e : fa = 111 := by
    have e1 := mg_of (n := Str.ofString "law") (v := .ref 111) KX T.g (by k_is)
    have e2 := hmg2.symm.trans e1
    injection e2 with e2
    injection e2
  subst e
  rename_i _ _ _ _ _ _ _
  refine Mine.codeAny_inv (Mine.law_spec ⟨KX, _, _, _, T⟩ ⟨rfl, by decide, by decide⟩ (by assumption) (by assumption) (by omega) fun s' k i => ?_)
  unfold GoodWG
  refine ⟨.inl ⟨_, .bool true, [], rfl, fun _ => rfl, .bool true, ?_, fun _ => ⟨List.nodup_nil, fun _ hm => nomatch hm⟩⟩, .of_keep k.keep, k.os, i.bare (.of_eq hg)⟩
  first | rfl | (with_unfolding_all rfl) | decide
