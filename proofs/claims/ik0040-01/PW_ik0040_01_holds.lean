import PyProof.Rows.All
import Wide.All
import OpenK.AllK
import Wide.FinOn
import PySem.Challenge.RW_ik0040_01
set_option Elab.async false
section
open PySem PySem.W PyProof.Rows
namespace Mine
set_option maxRecDepth 100000 in
set_option maxHeartbeats 8000000 in
open_top hd for PySem.Challenge.rw_ik0040_01
end Mine
end
section
open PySem PySem.W PyProof.Rows PySem.Calls
namespace Mine

abbrev PP : Program := PySem.Challenge.pw_ik0040_01
abbrev LL : List Str := [Str.ofString "_twin_re_1", Str.ofString "_twin_re_2", Str.ofString "_twin_re_3"]
abbrev TopM (mean : ExcName → Option Value) (mg mb : Str → Option Value) (h : Heap) : Prop := Top hd.view_39 (looseW hd.view_39 LL) mean mg mb h

def Keeps (h h' : Heap) : Prop := ∀ b o, h.get? b = some o → h'.get? b = some o
theorem Keeps.refl (h : Heap) : Keeps h h := fun _ _ e => e
theorem Keeps.trans {h h' h'' : Heap} (a : Keeps h h') (b : Keeps h' h'') : Keeps h h'' := fun x o e => b x o (a x o e)

structure Room (A : Around) (d u : Nat) : Prop where
  hh : A.handled = none
  dep : A.depth + d < recursionLimit
  un : A.units + u < cLine

theorem Room.less {A : Around} {d u d' u' : Nat} (R : Room A d u) (h1 : d' ≤ d) (h2 : u' ≤ u) : Room A d' u' :=
  ⟨R.hh, by have := R.dep; omega, by have := R.un; omega⟩
theorem Room.deeper {A : Around} {d u : Nat} {env : Env} (R : Room A (d + 1) (u + 3)) : Room (A.deeper env) d u :=
  ⟨R.hh, by have := R.dep; show A.depth + 1 + d < _; omega, by have := R.un; show A.units + 3 + u < _; omega⟩
theorem Room.in1 {A : Around} {d u : Nat} (R : Room A d (u + 1)) : Room A.in1 d u :=
  ⟨R.hh, R.dep, by have := R.un; show A.units + 1 + u < _; omega⟩

def Spec (w : World) (mean : ExcName → Option Value) (mg mb : Str → Option Value) (f : Addr) (vs : List Value) (d u : Nat) (Pre : Heap → Prop) (Out : Heap → Heap → Value → Prop) : Prop :=
  ∀ (A : Around) (s : Shared) (R : Result → Shared → Prop), Room A d u → (hd.heap_39 w.params).In s.heap → TopM mean mg mb s.heap → Pre s.heap →
    (∀ v h' tk', Keeps s.heap h' → Out s.heap h' v → R (.ok (.ret v)) { s with heap := h', toks := tk' }) →
    codeAny (model PP w) A (.call (.ref f) ⟨vs, []⟩) R s

theorem kf : PySem.Challenge.rw_ik0040_01 = PySem.Challenge.rw_ik0040_01 ∧ hd.heap_39 = hd.heap_39 := by
  k_fill
  exact ⟨rfl, rfl⟩

section
variable {prog : Program} {w : World} {A : Around} {s : Shared} {K : Frag} {R : Result → Shared → Prop} {name qual : Str} {params : Arguments} {body : List Stmt} {scope : Scope} {dV kV doc pm cdv ct oc : Value} {an od : Option Addr} {osl : Array (Option Value)} {f : Addr} {args : Args} {binds : List (Str × Value)}
theorem enter (X : K.In s.heap) (ho : K.lookup f = some ⟨oc, od, .func (fnOf name qual params body scope dV kV doc pm an cdv ct), osl⟩) (hlim : s.heap.NoLimit) (hcd : codeIn K cdv qual = true) (hroom : A.depth < recursionLimit)
    (hbind : BindsTo s (fnOf name qual params body scope dV kV doc pm an cdv ct) args binds) (hloc : ∀ y ∈ binds, scope.names.lookup y.1 = some .local)
    (h : ∀ h₁, Fr s.heap s.heap.objs.size h₁ (fun y => binds.reverse.lookup y) → News s.heap s.heap.objs.size h₁ [] →
      wpAny (model prog w) (A.deeper (envOf qual scope s.heap.objs.size f cdv)) (execs body (envOf qual scope s.heap.objs.size f cdv))
        (fun fl s' => R (.ok (.ret (match fl with | .ret v => v | _ => .none))) s') (fun _ _ => False)
        { s with heap := h₁, toks := s.toks + binds.length })
    (hcell : ∀ x ∈ scope.names, x.2 ≠ .cell) (hco : scope.isCoroutine = false) (hgen : scope.isGenerator = false) (hk : scope.kind = .function) :
    codeAny (model prog w) A (.call (.ref f) args) R s := by
  refine codeAny_call_def (fd := fnOf name qual params body scope dV kV doc pm an cdv ct) (body := body) (binds := binds) hroom (X _ _ ho) rfl hlim (codeRec_of X hcd) rfl hbind hcell hloc (fun h₁ hns hk₁ => ?_) hco hgen hk
  exact wpAny_mono (h h₁ ⟨hns, hk₁, Nat.le_refl _⟩ News.nil) (fun _ _ x => x) fun _ _ x => x.elim
end


section
variable {w : World} {mean : ExcName → Option Value} {mg mb : Str → Option Value} {name qual : Str} {params : Arguments} {body : List Stmt} {scope : Scope} {dV kV doc pm cdv ct oc : Value} {an od : Option Addr} {osl : Array (Option Value)} {f : Addr} {vs : List Value} {d u : Nat} {Pre : Heap → Prop} {Out : Heap → Heap → Value → Prop}
/-- where a body hands back: the value and the heap behind it -/
def Back (Out : Heap → Heap → Value → Prop) (h₀ : Heap) (s₀ : Shared) (fl : Flow) (s' : Shared) : Prop :=
  ∃ h' tk', s' = { s₀ with heap := h', toks := tk' } ∧ Keeps h₀ h' ∧ Out h₀ h' (match fl with | .ret v => v | _ => .none)
theorem spec_of (binds : List (Str × Value)) (ho : (hd.heap_39 w.params).lookup f = some ⟨oc, od, .func (fnOf name qual params body scope dV kV doc pm an cdv ct), osl⟩) (hcd : codeIn (hd.heap_39 w.params) cdv qual = true)
    (hbind : bindArgs (fnOf name qual params body scope dV kV doc pm an cdv ct) ⟨vs, []⟩ = pure binds) (hloc : (binds.all fun x => decide (scope.names.lookup x.1 = some .local)) = true)
    (hcell : ∀ x ∈ scope.names, x.2 ≠ .cell) (hco : scope.isCoroutine = false) (hgen : scope.isGenerator = false) (hk : scope.kind = .function)
    (h : ∀ (A : Around) (h₀ : Heap) (L : Addr) (s : Shared), Room (A.deeper (envOf qual scope L f cdv)) d u → (hd.heap_39 w.params).In h₀ → TopM mean mg mb h₀ → Pre h₀ → Fr h₀ L s.heap (fun y => binds.reverse.lookup y) → News h₀ L s.heap [] →
      wpAny (model PP w) (A.deeper (envOf qual scope L f cdv)) (execs body (envOf qual scope L f cdv)) (Back Out h₀ s) (fun _ _ => False) s) :
    Spec w mean mg mb f vs (d + 1) (u + 3) Pre Out := by
  intro A s R hR KX T hp hret
  refine enter KX ho T.nolimit hcd (by have := hR.dep; omega) (BindsTo.of_eq hbind) (locs hloc) (fun h₁ F N => ?_) hcell hco hgen hk
  refine wpAny_mono (h A s.heap _ { s with heap := h₁, toks := s.toks + binds.length } hR.deeper KX T hp F N) (fun fl s' b => ?_) fun _ _ x => x
  obtain ⟨h', tk', rfl, k, o⟩ := b
  exact hret _ h' tk' k o
theorem Back.ret {h₀ : Heap} {s₀ : Shared} {L : Addr} {m : Str → Option Value} {v : Value} {h' : Heap} {tk' : Nat} (F : Fr h₀ L h' m) (o : Out h₀ h' v) : Back Out h₀ s₀ (.ret v) { s₀ with heap := h', toks := tk' } :=
  ⟨h', tk', rfl, F.keep, o⟩
end

theorem Fr.on {h₀ h h' : Heap} {L : Addr} {m : Str → Option Value} (F : Fr h₀ L h m) (k : Keeps h h') : Fr h₀ L h' m :=
  ⟨F.ns.keeps k, fun b o e => k b o (F.keep b o e), F.above⟩
theorem News.on {h₀ h h' : Heap} {L : Addr} {news : List (Addr × Obj)} (N : News h₀ L h news) (k : Keeps h h') : News h₀ L h' news :=
  fun p hp => ⟨k _ _ (N p hp).1, (N p hp).2⟩

section
variable {w : World} {mean : ExcName → Option Value} {mg mb : Str → Option Value} {A : Around} {s : Shared} {h₀ : Heap} {L f : Addr} {m : Str → Option Value} {news : List (Addr × Obj)} {vs : List Value} {d u : Nat} {Pre : Heap → Prop} {Out : Heap → Heap → Value → Prop}
  {Q E : Value → Shared → Prop}
theorem call_spec (F : Fr h₀ L s.heap m) (X₀ : (hd.heap_39 w.params).In h₀) (N : News h₀ L s.heap news) (T : TopM mean mg mb h₀) (S : Spec w mean mg mb f vs d u Pre Out) (hr : Room A d u) (pre : Pre s.heap)
    (h : ∀ v h' tk', Fr h₀ L h' m → News h₀ L h' news → Keeps s.heap h' → Out s.heap h' v → Q v { s with heap := h', toks := tk' }) :
    wpAny (model PP w) A (call (.ref f) vs) Q E s :=
  wpAny_call (S A s _ hr (X₀.keeps F.keep) (T.keeps F.keep) pre fun v h' tk' k o => h v h' tk' (Mine.Fr.on F k) (Mine.News.on N k) k o)
end
end Mine
end
section
open PySem PySem.Sre
namespace Mine

/-- the machine comes to its end within n steps -/
def Reach (n : Nat) (m r : M) : Prop := M.runFor n m = r ∧ r.outcome.isSome = true

theorem runFor_done {m : M} (h : m.outcome.isSome = true) : ∀ n, M.runFor n m = m
  | 0 => rfl
  | n + 1 => by show (if m.outcome.isSome = true then m else M.runFor n m.step) = m; rw [if_pos h]
theorem Reach.step {n : Nat} {m r : M} (h0 : m.outcome = none) (h : Reach n m.step r) : Reach (n + 1) m r :=
  ⟨by show (if m.outcome.isSome = true then m else M.runFor n m.step) = r; rw [if_neg (by rw [h0]; simp)]; exact h.1, h.2⟩
theorem Reach.now {m : M} (h : m.outcome.isSome = true) : Reach 0 m m := ⟨rfl, h⟩
theorem runFor_add : ∀ (a b : Nat) (m : M), M.runFor (a + b) m = M.runFor b (M.runFor a m)
  | 0, b, m => by rw [Nat.zero_add]; rfl
  | a + 1, b, m => by
    rw [Nat.succ_add]
    show (if m.outcome.isSome = true then m else M.runFor (a + b) m.step) = M.runFor b (if m.outcome.isSome = true then m else M.runFor a m.step)
    split
    · rename_i h; rw [runFor_done h]
    · exact runFor_add a b _
theorem Reach.more {n k : Nat} {m r : M} (h : Reach n m r) : Reach (n + k) m r := ⟨by rw [runFor_add, h.1, runFor_done h.2], h.2⟩
theorem Reach.le {n k : Nat} {m r : M} (h : Reach n m r) (hk : n ≤ k) : Reach k m r := by
  obtain ⟨d, rfl⟩ := Nat.exists_eq_add_of_le hk
  exact h.more
theorem Reach.part {n a : Nat} {m r : M} (h : Reach n m r) (ha : (M.runFor a m).outcome.isSome = true) : M.runFor a m = r := by
  have h1 : M.runFor (a + n) m = M.runFor a m := by rw [runFor_add, runFor_done ha]
  have h2 : M.runFor (a + n) m = r := by rw [Nat.add_comm, runFor_add, h.1, runFor_done h.2]
  exact h1.symm.trans h2
theorem Reach.rest {n a : Nat} {m r : M} (h : Reach (a + n) m r) : Reach n (M.runFor a m) r := ⟨by rw [← runFor_add]; exact h.1, h.2⟩

abbrev codeQ : Array Nat := #[14, 4, 0, 1, 1, 6, 1, 16, 46, 1]
abbrev codeE : Array Nat := #[14, 9, 4, 1, 2, 16, 10, 16, 13, 0, 7, 7, 16, 13, 16, 10, 15, 18, 5, 16, 10, 15, 13, 11, 16, 13, 5, 5, 0, 16, 10, 1, 15, 2, 0, 1]

/-- the machine of a pattern as it stands in an attempt -/
abbrev mk (code text : Array Nat) (lim start pc pos handed : Nat) (outermost : Bool) (frames : List Sre.Frame) (weight : Nat) (answer : Option Bool) (seen : Seen) (outcome : Option Sre.Outcome) : M :=
  { code, text, lim, start, lastStart := lim, wholeText := false, mustAdvance := false, pc, pos, handed, outermost, marks := #[], lastmark := -1, lastindex := -1, loops := #[], inner := none, frames, weight, answer, seen, outcome }

abbrev nxt (pc s : Nat) (o : Bool) : Sre.Frame := { wait := .nextStart, pc, pos := s, outermost := o }

theorem qAt {text : Array Nat} {lim s : Nat} {o : Bool} {seen : Seen} :
    (mk codeQ text lim s 5 s s o [nxt 5 s o] 1 none seen none).step = if (s == 0 || text.getD (s - 1) 0 == 10) = true then mk codeQ text lim s 7 s s o [nxt 5 s o] 1 none ((seen.add 6).add 44) none
      else mk codeQ text lim s 5 s s o [nxt 5 s o] 1 (some false) ((seen.add 6).add 44) none := rfl
theorem qLit {text : Array Nat} {lim s : Nat} {o : Bool} {seen : Seen} :
    (mk codeQ text lim s 7 s s o [nxt 5 s o] 1 none seen none).step = if s ≥ lim then mk codeQ text lim s 7 s s o [nxt 5 s o] 1 (some false) (seen.add 16) none
      else if (text.getD s 0 == 46) = true then mk codeQ text lim s 9 (s + 1) s o [nxt 5 s o] 1 none (seen.add 16) none
      else mk codeQ text lim s 7 s s o [nxt 5 s o] 1 (some false) (seen.add 16) none := by
  by_cases h : s ≥ lim
  · rw [if_pos h]
    show (if s ≥ lim then _ else _) = _
    rw [if_pos h]
    rfl
  · rw [if_neg h]
    show (if s ≥ lim then _ else _) = _
    rw [if_neg h]
    have e : accepts codeQ 7 (text.getD s 0) (seen.add 16) = .ok (text.getD s 0 == 46, seen.add 16) := rfl
    cases hc : text.getD s 0 == 46
    · rw [hc] at e
      show (match accepts codeQ 7 (text.getD s 0) (seen.add 16) with | .error why => _ | .ok (false, seen) => _ | .ok (true, seen) => _) = _
      rw [e]
      rfl
    · rw [hc] at e
      show (match accepts codeQ 7 (text.getD s 0) (seen.add 16) with | .error why => _ | .ok (false, seen) => _ | .ok (true, seen) => _) = _
      rw [e]
      rfl
theorem qYes {text : Array Nat} {lim s : Nat} {o : Bool} {seen : Seen} :
    (mk codeQ text lim s 9 (s + 1) s o [nxt 5 s o] 1 none seen none).step = mk codeQ text lim s 9 (s + 1) (s + 1) o [nxt 5 s o] 1 (some true) (seen.add 1) none := by
  cases o <;> rfl
theorem qNo {text : Array Nat} {lim s pc pos handed : Nat} {o o' : Bool} {seen : Seen} :
    (mk codeQ text lim s pc pos handed o' [nxt 5 s o] 1 (some false) seen none).step = if s < lim then mk codeQ text lim (s + 1) 5 (s + 1) (s + 1) false [nxt 5 (s + 1) false] 1 none seen none else mk codeQ text lim s 5 s handed o [] 0 (some false) seen none := rfl
theorem qUp {text : Array Nat} {lim s pc pos handed : Nat} {o o' : Bool} {seen : Seen} :
    (mk codeQ text lim s pc pos handed o' [nxt 5 s o] 1 (some true) seen none).step = mk codeQ text lim s 5 s handed o [] 0 (some true) seen none := rfl
theorem qEnd {text : Array Nat} {lim s pc pos handed : Nat} {o : Bool} {seen : Seen} {yes : Bool} :
    (mk codeQ text lim s pc pos handed o [] 0 (some yes) seen none).step = mk codeQ text lim s pc pos handed o [] 0 (some yes) seen (some (if yes then .matched else .failed)) := rfl

/-- the first place from s on where P holds, n places at most -/
def findP (P : Nat → Bool) : (n s : Nat) → Option Nat
  | 0, _ => none
  | n + 1, s => if P s then some s else findP P n (s + 1)

theorem findP_yes {P : Nat → Bool} {n s : Nat} (h : P s = true) : findP P (n + 1) s = some s := by rw [findP, if_pos h]
theorem findP_no {P : Nat → Bool} {n s : Nat} (h : P s = false) : findP P (n + 1) s = findP P n (s + 1) := by rw [findP, if_neg (by rw [h]; simp)]

def dotAt (text : Array Nat) (lim s : Nat) : Bool := (s == 0 || text.getD (s - 1) 0 == 10) && (decide (s < lim) && text.getD s 0 == 46)

/-- what a search has come to: the place and its width -/
def Came (o : Option (Nat × Nat)) (r : M) : Prop := match o with
  | some (p, q) => r.outcome = some .matched ∧ r.start = p ∧ r.handed = q
  | none => r.outcome = some .failed
def one (o : Option Nat) : Option (Nat × Nat) := o.map fun p => (p, p + 1)

theorem qRun {text : Array Nat} {lim : Nat} : ∀ (n s : Nat) (o : Bool) (seen : Seen), n = lim - s → s ≤ lim →
    ∃ r, Reach (4 * (n + 2)) (mk codeQ text lim s 5 s s o [nxt 5 s o] 1 none seen none) r ∧ Came (one (findP (dotAt text lim) n s)) r := by
  intro n
  induction n with
  | zero =>
    intro s o seen hn hs
    have hge : s ≥ lim := by omega
    have hlt : ¬ s < lim := by omega
    have dead : ∀ pc seen, Reach 2 (mk codeQ text lim s pc s s o [nxt 5 s o] 1 (some false) seen none) (mk codeQ text lim s 5 s s o [] 0 (some false) seen (some .failed)) := fun pc seen => by
      refine Reach.step rfl ?_
      rw [qNo, if_neg hlt]
      refine Reach.step rfl ?_
      rw [qEnd]
      exact Reach.now rfl
    by_cases h : (s == 0 || text.getD (s - 1) 0 == 10) = true
    · have q : Reach 4 (mk codeQ text lim s 5 s s o [nxt 5 s o] 1 none seen none) (mk codeQ text lim s 5 s s o [] 0 (some false) (((seen.add 6).add 44).add 16) (some .failed)) := by
        refine Reach.step rfl ?_
        rw [qAt, if_pos h]
        refine Reach.step rfl ?_
        rw [qLit, if_pos hge]
        exact dead 7 (((seen.add 6).add 44).add 16)
      exact ⟨_, q.le (by omega), rfl⟩
    · have q : Reach 3 (mk codeQ text lim s 5 s s o [nxt 5 s o] 1 none seen none) (mk codeQ text lim s 5 s s o [] 0 (some false) ((seen.add 6).add 44) (some .failed)) := by
        refine Reach.step rfl ?_
        rw [qAt, if_neg h]
        exact dead 5 ((seen.add 6).add 44)
      exact ⟨_, q.le (by omega), rfl⟩
  | succ n ih =>
    intro s o seen hn hs
    have hlt : s < lim := by omega
    have hge : ¬ s ≥ lim := by omega
    have on : ∀ pc seen, dotAt text lim s = false → ∃ r, Reach (4 * (n + 2) + 1) (mk codeQ text lim s pc s s o [nxt 5 s o] 1 (some false) seen none) r ∧ Came (one (findP (dotAt text lim) (n + 1) s)) r := fun pc seen hd => by
      obtain ⟨r, h1, h2⟩ := ih (s + 1) false seen (by omega) (by omega)
      refine ⟨r, Reach.step rfl ?_, ?_⟩
      · rw [qNo, if_pos hlt]; exact h1
      · rw [findP_no hd]; exact h2
    by_cases h : (s == 0 || text.getD (s - 1) 0 == 10) = true
    · by_cases hc : (text.getD s 0 == 46) = true
      · have hd : dotAt text lim s = true := by unfold dotAt; rw [h, hc]; simp [hlt]
        refine ⟨mk codeQ text lim s 5 s (s + 1) o [] 0 (some true) ((((seen.add 6).add 44).add 16).add 1) (some .matched), ?_, ?_⟩
        · refine Reach.le (n := 5) (Reach.step rfl ?_) (by omega)
          rw [qAt, if_pos h]
          refine Reach.step rfl ?_
          rw [qLit, if_neg hge, if_pos hc]
          refine Reach.step rfl ?_
          rw [qYes]
          refine Reach.step rfl ?_
          rw [qUp]
          refine Reach.step rfl ?_
          rw [qEnd]
          exact Reach.now rfl
        · rw [findP_yes hd]
          exact ⟨rfl, rfl, rfl⟩
      · obtain ⟨r, h1, h2⟩ := on 7 (((seen.add 6).add 44).add 16) (by unfold dotAt; simp only [Bool.not_eq_true] at hc; rw [hc]; simp)
        refine ⟨r, ?_, h2⟩
        refine Reach.le (n := 4 * (n + 2) + 3) (Reach.step rfl ?_) (by omega)
        rw [qAt, if_pos h]
        refine Reach.step rfl ?_
        rw [qLit, if_neg hge, if_neg hc]
        exact h1
    · obtain ⟨r, h1, h2⟩ := on 5 ((seen.add 6).add 44) (by unfold dotAt; simp only [Bool.not_eq_true] at h; rw [h]; simp)
      refine ⟨r, ?_, h2⟩
      refine Reach.le (n := 4 * (n + 2) + 2) (Reach.step rfl ?_) (by omega)
      rw [qAt, if_neg h]
      exact h1

/-- a search with the dots' pattern -/
theorem qSearch {text : Array Nat} {lim s : Nat} (hs : s ≤ lim) :
    ∃ r, Reach (4 * (lim + 2)) (forSearch codeQ text 0 s lim false) r ∧ Came (one (findP (dotAt text lim) (lim - s) s)) r := by
  by_cases h0 : lim - s < 1
  · have hz : lim - s = 0 := by omega
    rw [hz]
    have hc : (decide (s > lim) || decide (lim - s < 1)) = true := by simp [h0]
    obtain ⟨m0, e, e1, e2⟩ : ∃ m0 : M, forSearch codeQ text 0 s lim false = m0 ∧ m0.outcome = none ∧ m0.step.outcome = some .failed := by
      refine ⟨_, (if_pos hc : (if (decide (s > lim) || decide (lim - s < 1)) = true then _ else _) = _), rfl, rfl⟩
    rw [e]
    exact ⟨m0.step, (Reach.step e1 (Reach.now (by rw [e2]; rfl))).le (n := 1) (by omega), e2⟩
  · obtain ⟨r, h1, h2⟩ := qRun (text := text) (lim := lim) (lim - s) s true (({} : Seen).add 14) rfl hs
    refine ⟨r, ?_, h2⟩
    show Reach _ (if (decide (s > lim) || decide (lim - s < 1)) = true then _ else _) _
    rw [if_neg (by simp; omega)]
    exact h1.le (by omega)

/-! the ends of lines -/
abbrev nb (pc s : Nat) (o : Bool) : Sre.Frame := { wait := .nextBranch, pc, pos := s, outermost := o, kept := { lastmark := -1, lastindex := -1, whole := false, marks := #[] } }
abbrev lkn (s : Nat) (o : Bool) : Sre.Frame := { wait := .lookNot, pc := 26, pos := s, outermost := o, kept := { lastmark := -1, lastindex := -1, whole := false, marks := #[] } }
def eolAt (text : Array Nat) (lim s : Nat) : Bool := decide (s < lim) && (text.getD s 0 == 10 || text.getD s 0 == 13)

section
variable {text : Array Nat} {lim s pos hd wt : Nat} {o o' : Bool} {seen : Seen} {fr : List Sre.Frame}
theorem eBr : (mk codeE text lim s 10 s s o [nxt 10 s o] 1 none seen none).step = mk codeE text lim s 12 s s o [nb 11 s o, nxt 10 s o] 2 none (seen.add 7) none := rfl
theorem eLit12 : (mk codeE text lim s 12 pos hd o fr wt none seen none).step = if pos ≥ lim then mk codeE text lim s 12 pos hd o fr wt (some false) (seen.add 16) none
      else if (text.getD pos 0 == 13) = true then mk codeE text lim s 14 (pos + 1) hd o fr wt none (seen.add 16) none
      else mk codeE text lim s 12 pos hd o fr wt (some false) (seen.add 16) none := by
  by_cases h : pos ≥ lim
  · rw [if_pos h]
    show (if pos ≥ lim then _ else _) = _
    rw [if_pos h]
    rfl
  · rw [if_neg h]
    show (if pos ≥ lim then _ else _) = _
    rw [if_neg h]
    have e : accepts codeE 12 (text.getD pos 0) (seen.add 16) = .ok (text.getD pos 0 == 13, seen.add 16) := rfl
    cases hc : text.getD pos 0 == 13
    · rw [hc] at e
      show (match accepts codeE 12 (text.getD pos 0) (seen.add 16) with | .error why => _ | .ok (false, seen) => _ | .ok (true, seen) => _) = _
      rw [e]
      rfl
    · rw [hc] at e
      show (match accepts codeE 12 (text.getD pos 0) (seen.add 16) with | .error why => _ | .ok (false, seen) => _ | .ok (true, seen) => _) = _
      rw [e]
      rfl
theorem eLit14 : (mk codeE text lim s 14 pos hd o fr wt none seen none).step = if pos ≥ lim then mk codeE text lim s 14 pos hd o fr wt (some false) (seen.add 16) none
      else if (text.getD pos 0 == 10) = true then mk codeE text lim s 16 (pos + 1) hd o fr wt none (seen.add 16) none
      else mk codeE text lim s 14 pos hd o fr wt (some false) (seen.add 16) none := by
  by_cases h : pos ≥ lim
  · rw [if_pos h]
    show (if pos ≥ lim then _ else _) = _
    rw [if_pos h]
    rfl
  · rw [if_neg h]
    show (if pos ≥ lim then _ else _) = _
    rw [if_neg h]
    have e : accepts codeE 14 (text.getD pos 0) (seen.add 16) = .ok (text.getD pos 0 == 10, seen.add 16) := rfl
    cases hc : text.getD pos 0 == 10
    · rw [hc] at e
      show (match accepts codeE 14 (text.getD pos 0) (seen.add 16) with | .error why => _ | .ok (false, seen) => _ | .ok (true, seen) => _) = _
      rw [e]
      rfl
    · rw [hc] at e
      show (match accepts codeE 14 (text.getD pos 0) (seen.add 16) with | .error why => _ | .ok (false, seen) => _ | .ok (true, seen) => _) = _
      rw [e]
      rfl
theorem eLit19 : (mk codeE text lim s 19 pos hd o fr wt none seen none).step = if pos ≥ lim then mk codeE text lim s 19 pos hd o fr wt (some false) (seen.add 16) none
      else if (text.getD pos 0 == 10) = true then mk codeE text lim s 21 (pos + 1) hd o fr wt none (seen.add 16) none
      else mk codeE text lim s 19 pos hd o fr wt (some false) (seen.add 16) none := by
  by_cases h : pos ≥ lim
  · rw [if_pos h]
    show (if pos ≥ lim then _ else _) = _
    rw [if_pos h]
    rfl
  · rw [if_neg h]
    show (if pos ≥ lim then _ else _) = _
    rw [if_neg h]
    have e : accepts codeE 19 (text.getD pos 0) (seen.add 16) = .ok (text.getD pos 0 == 10, seen.add 16) := rfl
    cases hc : text.getD pos 0 == 10
    · rw [hc] at e
      show (match accepts codeE 19 (text.getD pos 0) (seen.add 16) with | .error why => _ | .ok (false, seen) => _ | .ok (true, seen) => _) = _
      rw [e]
      rfl
    · rw [hc] at e
      show (match accepts codeE 19 (text.getD pos 0) (seen.add 16) with | .error why => _ | .ok (false, seen) => _ | .ok (true, seen) => _) = _
      rw [e]
      rfl
theorem eLit24 : (mk codeE text lim s 24 pos hd o fr wt none seen none).step = if pos ≥ lim then mk codeE text lim s 24 pos hd o fr wt (some false) (seen.add 16) none
      else if (text.getD pos 0 == 13) = true then mk codeE text lim s 26 (pos + 1) hd o fr wt none (seen.add 16) none
      else mk codeE text lim s 24 pos hd o fr wt (some false) (seen.add 16) none := by
  by_cases h : pos ≥ lim
  · rw [if_pos h]
    show (if pos ≥ lim then _ else _) = _
    rw [if_pos h]
    rfl
  · rw [if_neg h]
    show (if pos ≥ lim then _ else _) = _
    rw [if_neg h]
    have e : accepts codeE 24 (text.getD pos 0) (seen.add 16) = .ok (text.getD pos 0 == 13, seen.add 16) := rfl
    cases hc : text.getD pos 0 == 13
    · rw [hc] at e
      show (match accepts codeE 24 (text.getD pos 0) (seen.add 16) with | .error why => _ | .ok (false, seen) => _ | .ok (true, seen) => _) = _
      rw [e]
      rfl
    · rw [hc] at e
      show (match accepts codeE 24 (text.getD pos 0) (seen.add 16) with | .error why => _ | .ok (false, seen) => _ | .ok (true, seen) => _) = _
      rw [e]
      rfl
theorem eLit29 : (mk codeE text lim s 29 pos hd o fr wt none seen none).step = if pos ≥ lim then mk codeE text lim s 29 pos hd o fr wt (some false) (seen.add 16) none
      else if (text.getD pos 0 == 10) = true then mk codeE text lim s 31 (pos + 1) hd o fr wt none (seen.add 16) none
      else mk codeE text lim s 29 pos hd o fr wt (some false) (seen.add 16) none := by
  by_cases h : pos ≥ lim
  · rw [if_pos h]
    show (if pos ≥ lim then _ else _) = _
    rw [if_pos h]
    rfl
  · rw [if_neg h]
    show (if pos ≥ lim then _ else _) = _
    rw [if_neg h]
    have e : accepts codeE 29 (text.getD pos 0) (seen.add 16) = .ok (text.getD pos 0 == 10, seen.add 16) := rfl
    cases hc : text.getD pos 0 == 10
    · rw [hc] at e
      show (match accepts codeE 29 (text.getD pos 0) (seen.add 16) with | .error why => _ | .ok (false, seen) => _ | .ok (true, seen) => _) = _
      rw [e]
      rfl
    · rw [hc] at e
      show (match accepts codeE 29 (text.getD pos 0) (seen.add 16) with | .error why => _ | .ok (false, seen) => _ | .ok (true, seen) => _) = _
      rw [e]
      rfl
theorem eJmp16 : (mk codeE text lim s 16 pos hd o fr wt none seen none).step = mk codeE text lim s 35 pos hd o fr wt none (seen.add 15) none := rfl
theorem eJmp21 : (mk codeE text lim s 21 pos hd o fr wt none seen none).step = mk codeE text lim s 35 pos hd o fr wt none (seen.add 15) none := rfl
theorem eJmp32 : (mk codeE text lim s 32 pos hd o fr wt none seen none).step = mk codeE text lim s 35 pos hd o fr wt none (seen.add 15) none := rfl
theorem eYes : (mk codeE text lim s 35 pos hd o fr wt none seen none).step = mk codeE text lim s 35 pos pos o fr wt (some true) (seen.add 1) none := by
  cases o <;> rfl
theorem eAlt1 {pc : Nat} : (mk codeE text lim s pc pos hd o' [nb 11 s o, nxt 10 s o] 2 (some false) seen none).step = mk codeE text lim s 19 s s o [nb 18 s o, nxt 10 s o] 2 none seen none := rfl
theorem eAlt2 {pc : Nat} : (mk codeE text lim s pc pos hd o' [nb 18 s o, nxt 10 s o] 2 (some false) seen none).step = mk codeE text lim s 24 s s o [nb 23 s o, nxt 10 s o] 2 none seen none := rfl
theorem eNot : (mk codeE text lim s 26 pos hd o [nb 23 s o, nxt 10 s o] 2 none seen none).step = mk codeE text lim s 29 pos pos false [lkn pos o, nb 23 s o, nxt 10 s o] 3 none (seen.add 5) none := rfl
theorem eNotOk {pc q : Nat} : (mk codeE text lim s pc pos hd o' [lkn q o, nb 23 s o, nxt 10 s o] 3 (some false) seen none).step = mk codeE text lim s 32 q hd o [nb 23 s o, nxt 10 s o] 2 none seen none := rfl
theorem eUp1 {pc a : Nat} : (mk codeE text lim s pc pos hd o' [nb a s o, nxt 10 s o] 2 (some true) seen none).step = mk codeE text lim s a s hd o [nxt 10 s o] 1 (some true) seen none := rfl
theorem eUp2 {pc : Nat} : (mk codeE text lim s pc pos hd o' [nxt 10 s o] 1 (some true) seen none).step = mk codeE text lim s 10 s hd o [] 0 (some true) seen none := rfl
theorem eEnd {pc : Nat} {yes : Bool} : (mk codeE text lim s pc pos hd o [] 0 (some yes) seen none).step = mk codeE text lim s pc pos hd o [] 0 (some yes) seen (some (if yes then .matched else .failed)) := rfl

theorem eOut {pc a : Nat} : ∃ r, Reach 3 (mk codeE text lim s pc pos hd o' [nb a s o, nxt 10 s o] 2 (some true) seen none) r ∧ r.outcome = some .matched ∧ r.start = s ∧ r.handed = hd := by
  refine ⟨mk codeE text lim s 10 s hd o [] 0 (some true) seen (some .matched), ?_, rfl, rfl, rfl⟩
  refine Reach.step rfl ?_
  rw [eUp1]
  refine Reach.step rfl ?_
  rw [eUp2]
  refine Reach.step rfl ?_
  rw [eEnd]
  exact Reach.now rfl

/-- how wide the end of a line at s is -/
def eolLen (text : Array Nat) (lim s : Nat) : Nat := if (text.getD s 0 == 13) = true ∧ s + 1 < lim ∧ (text.getD (s + 1) 0 == 10) = true then 2 else 1

theorem eHit (h : eolAt text lim s = true) : ∃ r, Reach 20 (mk codeE text lim s 10 s s o [nxt 10 s o] 1 none seen none) r ∧ r.outcome = some .matched ∧ r.start = s ∧ r.handed = s + eolLen text lim s := by
  unfold eolAt at h
  simp only [Bool.and_eq_true, decide_eq_true_eq, Bool.or_eq_true] at h
  obtain ⟨hl, hc⟩ := h
  have hg : ¬ s ≥ lim := by omega
  by_cases h13 : (text.getD s 0 == 13) = true
  · have h10 : ¬ (text.getD s 0 == 10) = true := by
      intro e
      have e1 := eq_of_beq e
      have e2 := eq_of_beq h13
      omega
    by_cases h2 : s + 1 < lim ∧ (text.getD (s + 1) 0 == 10) = true
    · have hlen : eolLen text lim s = 2 := by unfold eolLen; rw [if_pos ⟨h13, h2⟩]
      obtain ⟨r, r1, r2⟩ := eOut (text := text) (lim := lim) (s := s) (pos := s + 1 + 1) (hd := s + 1 + 1) (o := o) (o' := o) (pc := 35) (a := 11) (seen := (((((seen.add 7).add 16).add 16).add 15).add 1))
      refine ⟨r, Reach.le (n := 8) (Reach.step rfl ?_) (by omega), by rw [hlen]; exact r2⟩
      rw [eBr]
      refine Reach.step rfl ?_
      rw [eLit12, if_neg hg, if_pos h13]
      refine Reach.step rfl ?_
      rw [eLit14, if_neg (by omega), if_pos h2.2]
      refine Reach.step rfl ?_
      rw [eJmp16]
      refine Reach.step rfl ?_
      rw [eYes]
      exact r1
    · have hlen : eolLen text lim s = 1 := by unfold eolLen; rw [if_neg (fun q => h2 q.2)]
      have l14 : ∀ seen, (mk codeE text lim s 14 (s + 1) s o [nb 11 s o, nxt 10 s o] 2 none seen none).step = mk codeE text lim s 14 (s + 1) s o [nb 11 s o, nxt 10 s o] 2 (some false) (seen.add 16) none := fun seen => by
        rw [eLit14]
        by_cases h3 : s + 1 ≥ lim
        · rw [if_pos h3]
        · rw [if_neg h3, if_neg (fun q => h2 ⟨by omega, q⟩)]
      have l29 : ∀ seen, (mk codeE text lim s 29 (s + 1) (s + 1) false [lkn (s + 1) o, nb 23 s o, nxt 10 s o] 3 none seen none).step = mk codeE text lim s 29 (s + 1) (s + 1) false [lkn (s + 1) o, nb 23 s o, nxt 10 s o] 3 (some false) (seen.add 16) none := fun seen => by
        rw [eLit29]
        by_cases h3 : s + 1 ≥ lim
        · rw [if_pos h3]
        · rw [if_neg h3, if_neg (fun q => h2 ⟨by omega, q⟩)]
      obtain ⟨r, r1, r2⟩ := eOut (text := text) (lim := lim) (s := s) (pos := s + 1) (hd := s + 1) (o := o) (o' := o) (pc := 35) (a := 23) (seen := (((((((((seen.add 7).add 16).add 16).add 16).add 16).add 5).add 16).add 15).add 1))
      refine ⟨r, Reach.le (n := 15) (Reach.step rfl ?_) (by omega), by rw [hlen]; exact r2⟩
      rw [eBr]
      refine Reach.step rfl ?_
      rw [eLit12, if_neg hg, if_pos h13]
      refine Reach.step rfl ?_
      rw [l14]
      refine Reach.step rfl ?_
      rw [eAlt1]
      refine Reach.step rfl ?_
      rw [eLit19, if_neg hg, if_neg h10]
      refine Reach.step rfl ?_
      rw [eAlt2]
      refine Reach.step rfl ?_
      rw [eLit24, if_neg hg, if_pos h13]
      refine Reach.step rfl ?_
      rw [eNot]
      refine Reach.step rfl ?_
      rw [l29]
      refine Reach.step rfl ?_
      rw [eNotOk]
      refine Reach.step rfl ?_
      rw [eJmp32]
      refine Reach.step rfl ?_
      rw [eYes]
      exact r1
  · have h10 : (text.getD s 0 == 10) = true := hc.resolve_right h13
    have hlen : eolLen text lim s = 1 := by unfold eolLen; rw [if_neg (fun q => h13 q.1)]
    obtain ⟨r, r1, r2⟩ := eOut (text := text) (lim := lim) (s := s) (pos := s + 1) (hd := s + 1) (o := o) (o' := o) (pc := 35) (a := 18) (seen := (((((seen.add 7).add 16).add 16).add 15).add 1))
    refine ⟨r, Reach.le (n := 9) (Reach.step rfl ?_) (by omega), by rw [hlen]; exact r2⟩
    rw [eBr]
    refine Reach.step rfl ?_
    rw [eLit12, if_neg hg, if_neg h13]
    refine Reach.step rfl ?_
    rw [eAlt1]
    refine Reach.step rfl ?_
    rw [eLit19, if_neg hg, if_pos h10]
    refine Reach.step rfl ?_
    rw [eJmp21]
    refine Reach.step rfl ?_
    rw [eYes]
    exact r1
end

def two (text : Array Nat) (lim : Nat) (o : Option Nat) : Option (Nat × Nat) := o.map fun p => (p, p + eolLen text lim p)

theorem eSet {c : Nat} {seen : Seen} : ∃ seen', inSet codeE c codeE.size 5 true seen = .ok (c == 10 || c == 13, seen') := by
  have e : inSet codeE c codeE.size 5 true seen = if (c == 10) = true then .ok (true, seen.add 16) else if (c == 13) = true then .ok (true, (seen.add 16).add 16) else .ok (false, ((seen.add 16).add 16).add 0) := rfl
  rw [e]
  by_cases h1 : (c == 10) = true
  · rw [if_pos h1, h1]; exact ⟨_, rfl⟩
  · rw [if_neg h1]
    by_cases h2 : (c == 13) = true
    · rw [if_pos h2, h2, Bool.or_true]; exact ⟨_, rfl⟩
    · rw [if_neg h2]
      simp only [Bool.not_eq_true] at h1 h2
      rw [h1, h2]
      exact ⟨_, rfl⟩
theorem eAdm {m : M} (hm : m.code = codeE) : ∀ (n s : Nat) (seen : Seen), ∃ seen', M.admitted m n s seen = .ok (findP (eolAt m.text m.lim) n s, seen')
  | 0, _, seen => ⟨seen, rfl⟩
  | n + 1, s, seen => by
    rw [M.admitted]
    by_cases h : s ≥ m.lim
    · rw [if_pos h]
      refine ⟨seen, ?_⟩
      have hz : ∀ (n s : Nat), s ≥ m.lim → findP (eolAt m.text m.lim) n s = none := by
        intro n
        induction n with
        | zero => intro _ _; rfl
        | succ n ih => intro s hs; rw [findP_no (by unfold eolAt; simp; omega)]; exact ih _ (by omega)
      rw [hz _ _ h]
    · rw [if_neg h, hm]
      obtain ⟨seen', e⟩ := eSet (c := m.text.getD s 0) (seen := seen)
      rw [e]
      cases hb : (m.text.getD s 0 == 10 || m.text.getD s 0 == 13)
      · obtain ⟨seen2, e2⟩ := eAdm hm n (s + 1) seen'
        refine ⟨seen2, ?_⟩
        rw [findP_no (by unfold eolAt; rw [hb]; simp)]
        exact e2
      · refine ⟨seen', ?_⟩
        rw [findP_yes (by unfold eolAt; rw [hb]; simp; omega)]

theorem findP_some {P : Nat → Bool} : ∀ {n s p : Nat}, findP P n s = some p → P p = true ∧ s ≤ p ∧ p < s + n ∧ ∀ q, s ≤ q → q < p → P q = false
  | 0, _, _, h => by cases h
  | n + 1, s, p, h => by
    cases hs : P s
    · rw [findP_no hs] at h
      obtain ⟨a, b, c, d⟩ := findP_some h
      refine ⟨a, by omega, by omega, fun q h1 h2 => ?_⟩
      by_cases e : q = s
      · rw [e]; exact hs
      · exact d q (by omega) h2
    · rw [findP_yes hs] at h
      cases h
      exact ⟨hs, Nat.le_refl _, by omega, fun q h1 h2 => by omega⟩
theorem findP_none {P : Nat → Bool} : ∀ {n s : Nat}, findP P n s = none → ∀ q, s ≤ q → q < s + n → P q = false
  | 0, _, _, q, h1, h2 => by omega
  | n + 1, s, h, q, h1, h2 => by
    cases hs : P s
    · rw [findP_no hs] at h
      by_cases e : q = s
      · rw [e]; exact hs
      · exact findP_none h q (by omega) (by omega)
    · rw [findP_yes hs] at h
      cases h

/-- a search with the pattern of the ends of lines -/
theorem eSearch {text : Array Nat} {lim s : Nat} (hs : s ≤ lim) :
    ∃ r, Reach 20 (forSearch codeE text 0 s lim false) r ∧ Came (two text lim (findP (eolAt text lim) (lim + 1 - s) s)) r := by
  by_cases h0 : lim - s < 1
  · have hc : (decide (s > lim) || decide (lim - s < 1)) = true := by simp [h0]
    obtain ⟨m0, e, e1, e2⟩ : ∃ m0 : M, forSearch codeE text 0 s lim false = m0 ∧ m0.outcome = none ∧ m0.step.outcome = some .failed := by
      refine ⟨_, (if_pos hc : (if (decide (s > lim) || decide (lim - s < 1)) = true then _ else _) = _), rfl, rfl⟩
    rw [e]
    refine ⟨m0.step, (Reach.step e1 (Reach.now (by rw [e2]; rfl))).le (n := 1) (by omega), ?_⟩
    have hz : findP (eolAt text lim) (lim + 1 - s) s = none := by
      cases hf : findP (eolAt text lim) (lim + 1 - s) s with
      | none => rfl
      | some p =>
        obtain ⟨a, b, c, d⟩ := findP_some hf
        unfold eolAt at a
        simp only [Bool.and_eq_true, decide_eq_true_eq] at a
        omega
    rw [hz]
    exact e2
  · have hc : ¬ (decide (s > lim) || decide (lim - s < 1)) = true := by simp; omega
    let m0 : M := mk codeE text lim s 10 s s true [] 0 none (({} : Seen).add 14) none
    obtain ⟨seen', ha⟩ := eAdm (m := m0) rfl (lim + 1 - s) s (({} : Seen).add 14)
    have e : forSearch codeE text 0 s lim false = (match M.admitted m0 (lim + 1 - s) s (({} : Seen).add 14) with
        | .ok (some s, seen) => { m0 with mustAdvance := false, seen }.attemptAt s true
        | .ok (none, seen) => { m0 with seen }.say false
        | .error why => m0.stick why) := (if_neg hc : (if (decide (s > lim) || decide (lim - s < 1)) = true then _ else _) = _)
    rw [e, ha]
    show ∃ r, Reach 20 (match (Except.ok (findP (eolAt text lim) (lim + 1 - s) s, seen') : Except String (Option Nat × Seen)) with
        | .ok (some s, seen) => { m0 with mustAdvance := false, seen }.attemptAt s true
        | .ok (none, seen) => { m0 with seen }.say false
        | .error why => m0.stick why) r ∧ _
    cases hf : findP (eolAt text lim) (lim + 1 - s) s with
    | none =>
      refine ⟨_, (Reach.step rfl (Reach.now ?_)).le (n := 1) (by omega), ?_⟩
      · rfl
      · rfl
    | some p =>
      obtain ⟨r, r1, r2⟩ := eHit (o := true) (seen := seen') (findP_some hf).1
      exact ⟨r, r1, r2⟩
end Mine
end
section
namespace Mine
section
variable {α : Type}
/-- the pieces, glued by s -/
def joinL (s : List α) : List (List α) → List α
  | [] => []
  | a :: ps => a ++ ps.flatMap (fun p => s ++ p)
theorem joinL_nil (ps : List (List α)) : joinL [] ps = ps.flatten := by
  cases ps with
  | nil => rfl
  | cons a ps => simp [joinL, List.flatMap]
theorem foldl_glue (g : List α) : ∀ (ps : List (List α)) (acc : List α), ps.foldl (fun acc p => acc ++ g ++ p) acc = acc ++ ps.flatMap (fun p => g ++ p)
  | [], acc => by simp
  | p :: ps, acc => by rw [List.foldl_cons, foldl_glue g ps]; simp
theorem joinL_cons (s a : List α) {ps : List (List α)} (h : ps ≠ []) : joinL s (a :: ps) = a ++ s ++ joinL s ps := by
  cases ps with
  | nil => exact absurd rfl h
  | cons b ps => simp [joinL]
theorem joinL_length (s : List α) (ps : List (List α)) : (joinL s ps).length ≤ (ps.map (·.length)).sum + ps.length * s.length := by
  cases ps with
  | nil => simp [joinL]
  | cons a ps =>
    have key : ∀ ps : List (List α), (ps.flatMap fun p => s ++ p).length = (ps.map (·.length)).sum + ps.length * s.length := by
      intro ps
      induction ps with
      | nil => simp
      | cons p ps ih => rw [List.flatMap_cons, List.length_append, ih]; simp [Nat.add_mul]; omega
    simp only [joinL, List.length_append, key, List.map_cons, List.sum_cons, List.length_cons, Nat.add_mul]
    omega
end

section
variable {α : Type} [DecidableEq α]
/-- cut at each sign c -/
def cutL (c : α) : List α → List (List α)
  | [] => [[]]
  | a :: r => if a = c then [] :: cutL c r else match cutL c r with
    | [] => [[a]]
    | p :: ps => (a :: p) :: ps
theorem cutL_ne (c : α) : ∀ l : List α, cutL c l ≠ []
  | [] => by simp [cutL]
  | a :: r => by
    unfold cutL
    split
    · simp
    · split <;> simp
theorem cutL_hit (c : α) (r : List α) : cutL c (c :: r) = [] :: cutL c r := by rw [cutL, if_pos rfl]
theorem cutL_miss {c a : α} (r : List α) (h : a ≠ c) : ∃ p ps, cutL c r = p :: ps ∧ cutL c (a :: r) = (a :: p) :: ps := by
  rw [cutL, if_neg h]
  cases e : cutL c r with
  | nil => exact absurd e (cutL_ne c r)
  | cons p ps => exact ⟨p, ps, rfl, rfl⟩
theorem joinL_cutL (c : α) : ∀ l : List α, joinL [c] (cutL c l) = l
  | [] => rfl
  | a :: r => by
    by_cases h : a = c
    · subst h
      rw [cutL_hit, joinL_cons _ _ (cutL_ne a r), joinL_cutL a r]
      rfl
    · obtain ⟨p, ps, e1, e2⟩ := cutL_miss r h
      have ih := joinL_cutL c r
      rw [e2]
      rw [e1] at ih
      show (a :: p) ++ _ = _
      rw [← ih]
      rfl
theorem cutL_free (c : α) : ∀ (l : List α), ∀ p ∈ cutL c l, c ∉ p
  | [], p, hp => by
    rw [cutL, List.mem_singleton] at hp
    subst hp
    simp
  | a :: r, p, hp => by
    by_cases h : a = c
    · subst h
      rw [cutL_hit] at hp
      rcases List.mem_cons.mp hp with rfl | hp
      · simp
      · exact cutL_free a r p hp
    · obtain ⟨q, qs, e1, e2⟩ := cutL_miss r h
      rw [e2] at hp
      have ih := cutL_free c r
      rw [e1] at ih
      rcases List.mem_cons.mp hp with rfl | hp
      · intro hm
        rcases List.mem_cons.mp hm with e | hm
        · exact h e.symm
        · exact ih q (.head _) hm
      · exact ih p (.tail _ hp)
theorem cutL_length_sum (c : α) : ∀ l : List α, ((cutL c l).map (·.length)).sum + (cutL c l).length = l.length + 1
  | [] => rfl
  | a :: r => by
    have ih := cutL_length_sum c r
    by_cases h : a = c
    · subst h
      rw [cutL_hit]
      simp only [List.map_cons, List.sum_cons, List.length_cons, List.length_nil]
      omega
    · obtain ⟨q, qs, e1, e2⟩ := cutL_miss r h
      rw [e1] at ih
      rw [e2]
      simp only [List.map_cons, List.sum_cons, List.length_cons] at ih ⊢
      omega

/-- the places of c in l, told from k on -/
def posL (c : α) : List α → Nat → List Nat
  | [], _ => []
  | a :: r, k => if a = c then k :: posL c r (k + 1) else posL c r (k + 1)
end
end Mine
end
section
open PySem PySem.W PyProof.Rows PySem.Calls PySem.Sre PySem.Builtin.Re
namespace Mine
set_option maxRecDepth 100000

section
variable {M : PySem.Model} {A : Around} {E : Value → Shared → Prop} {s : Shared}
theorem reDrive_wp {Q : Sre.M → Shared → Prop} : ∀ (turns n : Nat) (m r : Sre.M), Reach n m r → n ≤ 4 * turns → 0 < turns → Q r s → wpAny M A (reDrive turns m) Q E s
  | 0, _, _, _, _, _, h0, _ => absurd h0 (Nat.lt_irrefl _)
  | turns + 1, n, m, r, hr, hn, _, hq => by
    show wpAny M A (if (Sre.M.runFor reTurnSteps m).outcome.isSome = true then pure (Sre.M.runFor reTurnSteps m) else rule "sre.turn" >>= fun _ => reDrive turns (Sre.M.runFor reTurnSteps m)) Q E s
    by_cases h : (Sre.M.runFor reTurnSteps m).outcome.isSome = true
    · rw [if_pos h]
      rw [hr.part h]
      exact wpAny_pure hq
    · rw [if_neg h]
      refine wpAny_bind (wpAny_rule ?_)
      by_cases h4 : n ≤ 4
      · exfalso
        apply h
        have := (hr.le h4).1
        show (Sre.M.runFor 4 m).outcome.isSome = true
        rw [this]
        exact hr.2
      · have hr' : Reach (n - 4) (Sre.M.runFor 4 m) r := Reach.rest (a := 4) (by rw [show 4 + (n - 4) = n by omega]; exact hr)
        exact reDrive_wp turns (n - 4) _ r hr' (by omega) (by omega) hq

theorem wp_forIn_unit {α : Type} {Q : PUnit → Shared → Prop} (f : α → PUnit → Sem (ForInStep PUnit)) (hf : ∀ i (Q : ForInStep PUnit → Shared → Prop), Q (.yield ⟨⟩) s → wpAny M A (f i ⟨⟩) Q E s) :
    ∀ l : List α, Q ⟨⟩ s → wpAny M A (forIn l (⟨⟩ : PUnit) f) Q E s
  | [], hq => by rw [List.forIn_nil]; exact wpAny_pure hq
  | a :: l, hq => by
    rw [List.forIn_cons]
    refine wpAny_bind (hf a _ ?_)
    exact wp_forIn_unit f hf l hq

theorem reRunToEnd_wp {Q : Option Sre.M → Shared → Prop} {n : Nat} {m r : Sre.M} (hr : Reach n m r) (hn : n ≤ 2 ^ 60)
    (hq : (r.outcome = some .matched → Q (some r) s) ∧ (r.outcome = some .failed → Q none s)) (hm : r.outcome = some .matched ∨ r.outcome = some .failed) : wpAny M A (reRunToEnd m) Q E s := by
  unfold reRunToEnd
  refine wpAny_bind (reDrive_wp (2 ^ 64) n m r hr (Nat.le_trans hn (by decide)) (by decide) ?_)
  refine wpAny_bind (wp_forIn_unit _ (fun i Q hQ => ?_) _ ?_)
  · split
    · exact wpAny_bind (wpAny_rule (wpAny_pure hQ))
    · exact wpAny_bind (wpAny_pure (wpAny_pure hQ))
  · rcases hm with h | h
    · rw [h]; exact wpAny_pure (hq.1 h)
    · rw [h]; exact wpAny_pure (hq.2 h)
end

namespace PF
theorem slot_sub : Slot "re.Pattern" "sub" "re.Pattern.sub" :=
  .of (owner := "re.Pattern") (n := "sub") (by rw [typeLookup_type, builtinLookup_eq_fast]; kernel_rfl) (by decide +kernel) (by decide +kernel) (by decide +kernel)
    (by first | exact .inl (by decide +kernel) | exact .inr (by decide +kernel)) (by rw [isSubtype_type]; kernel_rfl)
theorem type_sub : typeOf (.builtin "re.Pattern.sub") = pure (.type "method_descriptor") := by show builtinType _ = _; rw [builtinType_eq_fast]; kernel_rfl
theorem entry_sub : entryFor table "re.Pattern.sub" = some Builtin.«re.Pattern.sub» := entryFor_of_tree (by kernel_rfl)
theorem entry_loop : entryFor table "re.Pattern.sub.loop" = some Builtin.«re.Pattern.sub.loop» := entryFor_of_tree (by kernel_rfl)
theorem plain_loop : plainId "re.Pattern.sub.loop" = true := by decide +kernel
theorem args_sub (a b c : Value) : argsOk "re.Pattern.sub" ⟨[a, b, c], []⟩ := by unfold argsOk; kernel_rfl
theorem attrs : PlainAttrs "re.Pattern" := ⟨⟨"object.__getattribute__", by rw [typeLookup_type, builtinLookup_eq_fast]; kernel_rfl, by decide +kernel⟩, by rw [typeLookup_type, builtinLookup_eq_fast]; kernel_rfl⟩
theorem noCall_str : typeLookup (.type "str") "__call__" = pure none := by rw [typeLookup_type, builtinLookup_eq_fast]; kernel_rfl
theorem noCall_bytes : typeLookup (.type "bytes") "__call__" = pure none := by rw [typeLookup_type, builtinLookup_eq_fast]; kernel_rfl
end PF

/-- a compiled pattern on the heap -/
def IsPat (h : Heap) (P : Addr) (code : Array Nat) (kind : Nat) : Prop :=
  ∃ (o : Obj) (vs : Array Value) (C : Addr) (oc : Obj) (items : Array Value) (n : Nat), h.get? P = some o ∧ o.cls = .type "re.Pattern" ∧ o.dict = none ∧ o.data = .fields vs ∧ vs.getD 5 .none = .ref C ∧ reRawNat (vs.getD 2 .none) = 0 ∧ reRawNat (vs.getD 6 .none) = kind ∧
    h.get? C = some oc ∧ oc.data = .seq items n ∧ (items.map reRawOf).map (·.toNat) = code
theorem IsPat.on {h h' : Heap} {P : Addr} {code : Array Nat} {kind : Nat} (I : IsPat h P code kind) (k : Keeps h h') : IsPat h' P code kind := by
  obtain ⟨o, vs, C, oc, items, n, a, b, c, d, e, f, g, i, j, l⟩ := I
  exact ⟨o, vs, C, oc, items, n, k _ _ a, b, c, d, e, f, g, k _ _ i, j, l⟩

section
variable {M : PySem.Model} {A : Around} {E : Value → Shared → Prop} {s : Shared}
theorem whole_str {P : Addr} {code : Array Nat} {x : PySem.Str} {t : Tok} {Q : ReTarget → Shared → Prop} (I : IsPat s.heap P code 0)
    (h : Q { pattern := .ref P, string := .str x t, code, text := x.cps, kind := 0, groups := 0, pos := 0, lim := x.cps.size } s) : wpAny M A (reWholeTarget (.ref P) (.str x t)) Q E s := by
  obtain ⟨o, vs, C, oc, items, n, hP, _, _, hd, h5, h2, h6, hC, hdc, hcode⟩ := I
  unfold reWholeTarget
  refine wpAny_bind (wpAny_fieldsOf hP hd ?_)
  refine wpAny_bind (wpAny_of_eq (a := (x.cps, 0)) rfl ?_)
  show wpAny M A (if (reRawNat (vs.getD 6 .none) == 0 && false) = true then _ else _) Q E s
  rw [if_neg (by simp)]
  show wpAny M A (if (reRawNat (vs.getD 6 .none) == 1 && true) = true then _ else _) Q E s
  rw [if_neg (by rw [h6]; simp)]
  refine wpAny_bind (wpAny_of_eq (a := ⟨⟩) rfl ?_)
  rw [h5]
  refine wpAny_bind ?_
  unfold reRawItems
  refine wpAny_bind (wpAny_seqItems hC hdc (wpAny_pure (wpAny_pure ?_)))
  rw [h2]
  show Q { pattern := .ref P, string := .str x t, code := (items.map reRawOf).map (·.toNat), text := x.cps, kind := 0, groups := 0, pos := 0, lim := x.cps.size } s
  rw [hcode]
  exact h
theorem whole_bytes {P : Addr} {code : Array Nat} {x : Array UInt8} {t : Tok} {Q : ReTarget → Shared → Prop} (I : IsPat s.heap P code 1)
    (h : Q { pattern := .ref P, string := .bytes x t, code, text := x.map (·.toNat), kind := 1, groups := 0, pos := 0, lim := (x.map (·.toNat)).size } s) : wpAny M A (reWholeTarget (.ref P) (.bytes x t)) Q E s := by
  obtain ⟨o, vs, C, oc, items, n, hP, _, _, hd, h5, h2, h6, hC, hdc, hcode⟩ := I
  unfold reWholeTarget
  refine wpAny_bind (wpAny_fieldsOf hP hd ?_)
  refine wpAny_bind (m := reTextOf (.bytes x t)) ?_
  unfold reTextOf
  refine wpAny_bind (wpAny_of_eq (a := none) rfl ?_)
  refine wpAny_bind (wpAny_of_eq KBy.quiet_eq (wpAny_pure ?_))
  show wpAny M A (if (reRawNat (vs.getD 6 .none) == 0 && true) = true then _ else _) Q E s
  rw [if_neg (by rw [h6]; simp)]
  show wpAny M A (if (reRawNat (vs.getD 6 .none) == 1 && false) = true then _ else _) Q E s
  rw [if_neg (by simp)]
  refine wpAny_bind (m := reNoCollectionInside (.bytes x t) 1) ?_
  unfold reNoCollectionInside
  rw [if_pos (by rfl)]
  refine wpAny_bind (wpAny_of_eq KBy.isInstance_eq ?_)
  rw [if_neg (by simp)]
  refine wpAny_pure ?_
  rw [h5]
  refine wpAny_bind ?_
  unfold reRawItems
  refine wpAny_bind (wpAny_seqItems hC hdc (wpAny_pure (wpAny_pure ?_)))
  rw [h2]
  show Q { pattern := .ref P, string := .bytes x t, code := (items.map reRawOf).map (·.toNat), text := x.map (·.toNat), kind := 1, groups := 0, pos := 0, lim := (x.map (·.toNat)).size } s
  rw [hcode]
  exact h
end

inductive All2 {α β : Type} (R : α → β → Prop) : List α → List β → Prop
  | nil : All2 R [] []
  | cons {a b l r} : R a b → All2 R l r → All2 R (a :: l) (b :: r)
theorem All2.snoc {α β : Type} {R : α → β → Prop} {a : α} {b : β} : ∀ {l : List α} {r : List β}, All2 R l r → R a b → All2 R (l ++ [a]) (r ++ [b])
  | _, _, .nil, h => .cons h .nil
  | _, _, .cons x y, h => .cons x (y.snoc h)
theorem All2.length {α β : Type} {R : α → β → Prop} : ∀ {l : List α} {r : List β}, All2 R l r → l.length = r.length
  | _, _, .nil => rfl
  | _, _, .cons _ y => by simp [y.length]

/-- the text behind place k when each found stretch gives way to repl -/
inductive Sub {α : Type} (S : Nat → Option (Nat × Nat)) (repl text : List α) : Nat → List α → Prop
  | stop {k} : S k = none → Sub S repl text k (text.drop k)
  | hit {k p q rest} : S k = some (p, q) → Sub S repl text q rest → Sub S repl text k ((text.drop k).take (p - k) ++ repl ++ rest)

def SItem (v : Value) (c : List Nat) : Prop := ∃ t, v = .str ⟨c.toArray⟩ t
def BItem (v : Value) (c : List UInt8) : Prop := ∃ t, v = .bytes c.toArray t
theorem strsOf : ∀ {vs : List Value} {cs : List (List Nat)}, All2 SItem vs cs → StrsAre vs (cs.map fun c => ⟨c.toArray⟩)
  | _, _, .nil => .nil
  | _, _, .cons ⟨t, e⟩ r => by subst e; exact .cons _ t (strsOf r)

/-- the searches of a pattern in a text -/
structure Finds (code text : Array Nat) (S : Nat → Option (Nat × Nat)) : Prop where
  runs : ∀ k, k ≤ text.size → ∃ n r, n ≤ 2 ^ 60 ∧ Reach n (forSearch code text 0 k text.size false) r ∧ Came (S k) r
  fits : ∀ k p q, S k = some (p, q) → k ≤ p ∧ p < q ∧ q ≤ text.size

section
variable {M : PySem.Model} {A : Around} {E : Value → Shared → Prop} {s : Shared}
theorem next_wp {code text : Array Nat} {S : Nat → Option (Nat × Nat)} (F : Finds code text S) {k : Nat} {pat str : Value} {kind : Nat} (hk : k ≤ text.size) {Q : Option Sre.M → Shared → Prop}
    (h : match S k with | none => Q none s | some (p, q) => ∀ m : Sre.M, m.start = p → m.handed = q → Q (some m) s) :
    wpAny M A (reNextFound { pattern := pat, string := str, code, text, kind, groups := 0, pos := 0, lim := text.size } k false) Q E s := by
  obtain ⟨n, r, hn, hr, hc⟩ := F.runs k hk
  unfold reNextFound
  cases hS : S k with
  | none =>
    rw [hS] at h hc
    exact reRunToEnd_wp hr hn ⟨fun e => by rw [show r.outcome = some .failed from hc] at e; (injection e with e; cases e), fun _ => h⟩ (.inr hc)
  | some pq =>
    obtain ⟨p, q⟩ := pq
    rw [hS] at h hc
    obtain ⟨c1, c2, c3⟩ := hc
    exact reRunToEnd_wp hr hn ⟨fun _ => h r c2 c3, fun e => by rw [c1] at e; (injection e with e; cases e)⟩ (.inl c1)
end

abbrev lstObj (vs : List Value) (n : Nat) : Obj := { cls := .type "list", data := .seq vs.toArray n }
theorem isList_lst {h : Heap} {a : Addr} {vs : List Value} {n : Nat} (e : h.get? a = some (lstObj vs n)) : h.IsList a vs.toArray := ⟨_, e, rfl, n, rfl⟩
section
variable {M : PySem.Model} {A : Around} {E : Value → Shared → Prop} {s : Shared}
theorem push_wp {a : Addr} {vs : List Value} {n : Nat} {v : Value} {Q : Unit → Shared → Prop} (e : s.heap.get? a = some (lstObj vs n)) (hz : vs.length + 1 ≤ sizeLine)
    (h : ∀ h' n', h'.get? a = some (lstObj (vs ++ [v]) n') → (∀ b o, b ≠ a → s.heap.get? b = some o → h'.get? b = some o) → Q () { s with heap := h' }) :
    wpAny M A (updateSeq a (·.push v)) Q E s := by
  refine wpAny_updateSeq (o := lstObj vs n) (xs := vs.toArray) (n := n) e rfl (h _ (if (vs.toArray.push v).size == vs.toArray.size then n else n + 1) ?_ fun b o hb eb => (Heap.get?_update_ne _ _ _ _ hb).trans eb) ?_ ?_
  · have q := Heap.get?_update_self (Obj.mapSeq (·.push v)) e rfl
    rw [q]
    show some (Obj.mapSeq (·.push v) (lstObj vs n)) = some (lstObj (vs ++ [v]) _)
    unfold lstObj
    simp only [Obj.mapSeq, List.push_toArray]
  · rw [List.size_toArray]; omega
  · simp only [List.push_toArray, List.size_toArray, List.length_append, List.length_cons, List.length_nil]; omega
end

theorem lit_str {M : PySem.Model} {A : Around} {E : Value → Shared → Prop} {s : Shared} {x : PySem.Str} {t : Tok} {Q : Unit → Shared → Prop} (h : Q () s) : wpAny M A (reLiteralCannotBeTurned (.str x t)) Q E s := by
  unfold reLiteralCannotBeTurned
  exact wpAny_bind (wpAny_of_eq (a := some x) rfl (wpAny_pure h))
theorem lit_bytes {M : PySem.Model} {A : Around} {E : Value → Shared → Prop} {s : Shared} {x : Array UInt8} {t : Tok} {Q : Unit → Shared → Prop} (h : Q () s) : wpAny M A (reLiteralCannotBeTurned (.bytes x t)) Q E s := by
  unfold reLiteralCannotBeTurned
  refine wpAny_bind (wpAny_of_eq (a := none) rfl ?_)
  rw [if_pos (by rfl)]
  refine wpAny_bind (wpAny_of_eq KBy.isInstance_eq ?_)
  rw [if_neg (by simp)]
  exact wpAny_pure h

theorem txt_join (x : List Nat) (ys : List (List Nat)) : Txt.join ⟨x.toArray⟩ (ys.map fun c => (⟨c.toArray⟩ : PySem.Str)) = ⟨(joinL x ys).toArray⟩ := by
  cases ys with
  | nil => rfl
  | cons a ys =>
    have key : ∀ (ys : List (List Nat)) (acc : List Nat), (ys.map fun c => (⟨c.toArray⟩ : PySem.Str)).foldl (fun acc p => acc ++ x.toArray ++ p.cps) acc.toArray = (ys.foldl (fun acc p => acc ++ x ++ p) acc).toArray := by
      intro ys
      induction ys with
      | nil => intro acc; rfl
      | cons y ys ih =>
        intro acc
        rw [List.map_cons, List.foldl_cons, List.foldl_cons, ← ih]
        simp
    show (⟨(ys.map fun c => (⟨c.toArray⟩ : PySem.Str)).foldl (fun acc p => acc ++ x.toArray ++ p.cps) a.toArray⟩ : PySem.Str) = _
    rw [key, foldl_glue]
    rfl

theorem sum_flat {α : Type} : ∀ cs : List (List α), (cs.map (·.length)).sum = cs.flatten.length
  | [] => rfl
  | c :: cs => by rw [List.map_cons, List.sum_cons, List.flatten_cons, List.length_append, sum_flat cs]

section
variable {w : World} {prog : Program} {A : Around} {s : Shared}
theorem fin_str {x : List Nat} {lst : Addr} {vs : List Value} {cs : List (List Nat)} {n : Nat} {Q : PySem.Fin → Shared → Prop} {E : Value → Shared → Prop} (hv : All2 SItem vs cs) (hz : cs.flatten.length ≤ 10000000) (hl : s.heap.get? lst = some (lstObj vs n))
    (h : ∀ t' tk', Q (.done (.ret (.str ⟨cs.flatten.toArray⟩ t'))) { s with toks := tk' }) :
    wpAny (model prog w) A (do
          let joiner ← reSlice x.toArray 0 0 0
          let r ← seqItems? (.ref lst)
          if (r.getD #[]).isEmpty = true then (do let text ← pure joiner; ret text) else (do let text ← call (.builtin "str.join") [joiner, .ref lst]; ret text)) Q E s := by
  have e0 : x.toArray.extract 0 0 = #[] := by simp
  refine wpAny_bind (m := mkStr ⟨x.toArray.extract 0 0⟩) ?_
  rw [e0]
  refine wpAny_mkStr ?_ (by show (0 : Nat) ≤ _; exact Nat.zero_le _)
  refine wpAny_bind (wpAny_seqItems hl rfl ?_)
  cases hv with
  | nil =>
    refine wpAny_ite ?_
    rw [if_pos (show ((some (#[] : Array Value)).getD #[]).isEmpty = true from rfl)]
    exact wpAny_bind (wpAny_pure (wpAny_pure (h _ _)))
  | @cons v c vs cs hv1 hv2 =>
    refine wpAny_ite ?_
    rw [if_neg (by simp)]
    refine wpAny_bind (join_list (isList_lst hl) (ys := (c :: cs).map fun c => (⟨c.toArray⟩ : PySem.Str)) (strsOf (.cons hv1 hv2)) ?_ fun t' k => ?_)
    · have e1 : (((c :: cs).map fun c => (⟨c.toArray⟩ : PySem.Str)).map (·.length)) = (c :: cs).map (·.length) := by
        rw [List.map_map]
        exact List.map_congr_left fun a _ => List.size_toArray
      rw [e1, sum_flat]
      show _ + _ * 0 ≤ _
      omega
    · have e2 := txt_join [] (c :: cs)
      rw [joinL_nil] at e2
      rw [show (⟨#[]⟩ : PySem.Str) = ⟨([] : List Nat).toArray⟩ from rfl, e2]
      exact wpAny_pure (h _ _)
end

section
variable {w : World} {prog : Program}
abbrev loopArgs (P : Addr) (str repl : Value) (n d : Int) (lst : Addr) : Args := ⟨[.ref P, str, repl, rawInt 0, rawInt 0, rawInt n, rawInt d, rawInt d, .bool false, .ref lst, .bool false], []⟩

theorem loop_str {P lst : Addr} {code : Array Nat} {x repl : List Nat} {t u : Tok} {S : Nat → Option (Nat × Nat)} (FS : Finds code x.toArray S) {h₀ : Heap} {out₀ : List Nat} (hz : out₀.length ≤ 10000000) (hx : x.length ≤ 1000000) (I : IsPat h₀ P code 0) (hl : h₀.get? lst = none) {k : Nat} {out : List Nat} (D : Sub S repl x k out) :
    k ≤ x.length → ∀ {A : Around} {s : Shared} {R : Result → Shared → Prop} {vs : List Value} {cs : List (List Nat)} {n : Nat} {m : Int}, All2 SItem vs cs → cs.flatten ++ out = out₀ → vs.length ≤ 2 * k → Keeps h₀ s.heap → s.heap.get? lst = some (lstObj vs n) →
    (∀ t' h' tk', Keeps h₀ h' → R (.ok (.ret (.str ⟨out₀.toArray⟩ t'))) { s with heap := h', toks := tk' }) →
    codeAny (model prog w) A (.builtin "re.Pattern.sub.loop" (loopArgs P (.str ⟨x.toArray⟩ t) (.str ⟨repl.toArray⟩ u) m (k : Int) lst)) R s := by
  induction D with
  | @stop k hS =>
    intro hk A s R vs cs n m hv hc hb K0 hlst hR
    refine codeAny_builtin PF.entry_loop ?_
    rw [Around.under_plainId PF.plain_loop]
    show wpAny _ A.in1 (reWholeTarget (.ref P) (.str ⟨x.toArray⟩ t) >>= fun t => _) _ _ s
    refine wpAny_bind (whole_str (I.on K0) ?_)
    refine wpAny_bind (m := reLiteralCannotBeTurned (.str ⟨repl.toArray⟩ u)) (lit_str ?_)
    refine wpAny_bind (m := reNextFound { pattern := .ref P, string := .str ⟨x.toArray⟩ t, code, text := x.toArray, kind := 0, groups := 0, pos := 0, lim := x.toArray.size } k false) (next_wp FS (by simpa using hk) ?_)
    rw [hS]
    dsimp only
    by_cases hlt : ((k : Int).toNat) < x.toArray.size
    · rw [if_pos hlt]
      have e1 : x.toArray.extract ((k : Int).toNat) x.toArray.size = (x.drop k).toArray := by simp [List.take_of_length_le]
      refine wpAny_bind (m := mkStr ⟨x.toArray.extract ((k : Int).toNat) x.toArray.size⟩) ?_
      rw [e1]
      refine wpAny_mkStr ?_ ?_
      · refine wpAny_bind (push_wp hlst ?_ fun h' n' hl' hk' => ?_)
        · rw [sizeLine_eq]; omega
        · have e3 : (cs ++ [x.drop k]).flatten = out₀ := by simpa using hc
          refine fin_str (hv.snoc ⟨_, rfl⟩) ?_ hl' fun t' tk' => ?_
          · rw [e3]; exact hz
          · rw [e3]
            exact hR _ _ _ fun b o e => hk' b o (fun q => by rw [q, hl] at e; cases e) (K0 b o e)
      · show (x.drop k).toArray.size ≤ _
        rw [sizeLine_eq]
        simp
        omega
    · rw [if_neg hlt]
      have e3 : cs.flatten = out₀ := by
        have : x.drop k = [] := List.drop_eq_nil_of_le (by simp at hlt; omega)
        rw [this] at hc
        simpa using hc
      refine fin_str hv ?_ hlst fun t' tk' => ?_
      · rw [e3]; exact hz
      · rw [e3]
        exact hR _ _ _ K0
  | @hit k p q rest hS D ih =>
    intro hk A s R vs cs n m hv hc hb K0 hlst hR
    refine codeAny_builtin PF.entry_loop ?_
    rw [Around.under_plainId PF.plain_loop]
    show wpAny _ A.in1 (reWholeTarget (.ref P) (.str ⟨x.toArray⟩ t) >>= fun t => _) _ _ s
    refine wpAny_bind (whole_str (I.on K0) ?_)
    refine wpAny_bind (m := reLiteralCannotBeTurned (.str ⟨repl.toArray⟩ u)) (lit_str ?_)
    refine wpAny_bind (m := reNextFound { pattern := .ref P, string := .str ⟨x.toArray⟩ t, code, text := x.toArray, kind := 0, groups := 0, pos := 0, lim := x.toArray.size } k false) (next_wp FS (by simpa using hk) ?_)
    rw [hS]
    dsimp only
    intro mm hm1 hm2
    rw [hm1, hm2]
    obtain ⟨f1, f2, f3⟩ := FS.fits k p q hS
    have f3' : q ≤ x.length := by simpa using f3
    have again : ∀ (vs' : List Value) (cs' : List (List Nat)) (h' : Heap) (n' : Nat) (tk' : Nat), All2 SItem vs' cs' → cs'.flatten = cs.flatten ++ (x.drop k).take (p - k) → vs'.length ≤ 2 * k + 1 → Keeps h₀ h' → h'.get? lst = some (lstObj vs' n') →
        wpAny (model prog w) A.in1 (do
          updateSeq lst fun x => x.push (.str ⟨repl.toArray⟩ u)
          again (.builtin "re.Pattern.sub.loop" (⟨[.ref P, .str ⟨x.toArray⟩ t, .str ⟨repl.toArray⟩ u, rawInt 0, rawInt 0, rawInt (m + 1), rawInt q, rawInt q, .bool (q == p), .ref lst, .bool false], []⟩)))
          (fun fin s' => match fin with | .done f => R (.ok f) s' | .again c' => c'.quiet = true ∧ codeAny (model prog w) A c' R s') (fun e s' => R (.error e) s') { s with heap := h', toks := tk' } := by
      intro vs' cs' h' n' tk' hv' hc' hb' hk' hl'
      refine wpAny_bind (push_wp hl' (by rw [sizeLine_eq]; omega) fun h2 n2 hl2 hk2 => wpAny_pure ⟨Code.quiet_builtin _ (by decide +kernel), ?_⟩)
      have eb : (q == p) = false := by simp; omega
      rw [eb]
      refine ih f3' (hv'.snoc ⟨u, rfl⟩) ?_ ?_ (fun b o e => hk2 b o (fun q => by rw [q, hl] at e; cases e) (hk' b o e)) hl2 hR
      · rw [← hc, List.flatten_append, hc']
        simp
      · simp; omega
    by_cases hlt : ((k : Int).toNat) < p
    · rw [if_pos hlt]
      have e1 : x.toArray.extract ((k : Int).toNat) p = ((x.drop k).take (p - k)).toArray := by simp
      refine wpAny_bind (m := mkStr ⟨x.toArray.extract ((k : Int).toNat) p⟩) ?_
      rw [e1]
      refine wpAny_mkStr ?_ ?_
      · refine wpAny_bind (push_wp hlst ?_ fun h' n' hl' hk' => ?_)
        · rw [sizeLine_eq]; omega
        · exact again _ (cs ++ [(x.drop k).take (p - k)]) h' n' _ (hv.snoc ⟨_, rfl⟩) (by simp) (by simp; omega) (fun b o e => hk' b o (fun q => by rw [q, hl] at e; cases e) (K0 b o e)) hl'
      · show ((x.drop k).take (p - k)).toArray.size ≤ _
        rw [sizeLine_eq]
        simp
        omega
    · rw [if_neg hlt]
      have e0 : p - k = 0 := by simp at hlt; omega
      exact again vs cs s.heap n s.toks hv (by rw [e0]; simp) (by omega) K0 hlst
end
end Mine
end
section
open PySem PySem.W PyProof.Rows PySem.Calls PySem.Builtin
namespace Mine
set_option maxRecDepth 100000
namespace BF
theorem slot_join : Slot "bytes" "join" "bytes.join" :=
  .of (owner := "bytes") (n := "join") (by rw [typeLookup_type, builtinLookup_eq_fast]; kernel_rfl) (by decide +kernel) (by decide +kernel) (by decide +kernel)
    (by first | exact .inl (by decide +kernel) | exact .inr (by decide +kernel)) (by rw [isSubtype_type]; kernel_rfl)
theorem type_join : typeOf (.builtin "bytes.join") = pure (.type "method_descriptor") := by show builtinType _ = _; rw [builtinType_eq_fast]; kernel_rfl
theorem entry_join : entryFor table "bytes.join" = some Builtin.«bytes.join» := entryFor_of_tree (by kernel_rfl)
theorem args_join (a b : Value) : argsOk "bytes.join" ⟨[a, b], []⟩ := by unfold argsOk; kernel_rfl
theorem slot_split : Slot "bytes" "split" "bytes.split" :=
  .of (owner := "bytes") (n := "split") (by rw [typeLookup_type, builtinLookup_eq_fast]; kernel_rfl) (by decide +kernel) (by decide +kernel) (by decide +kernel)
    (by first | exact .inl (by decide +kernel) | exact .inr (by decide +kernel)) (by rw [isSubtype_type]; kernel_rfl)
theorem type_split : typeOf (.builtin "bytes.split") = pure (.type "method_descriptor") := by show builtinType _ = _; rw [builtinType_eq_fast]; kernel_rfl
theorem entry_split : entryFor table "bytes.split" = some Builtin.«bytes.split» := entryFor_of_tree (by kernel_rfl)
theorem args_split (a b : Value) : argsOk "bytes.split" ⟨[a, b], []⟩ := by unfold argsOk; kernel_rfl
theorem take_eq {id : String} {b : Array UInt8} {t : Tok} : Bytes.takeBufferQuiet? id (.bytes b t) 0 = pure (some (b, none)) := by
  unfold Bytes.takeBufferQuiet? Bytes.takeBuffer?
  rw [KBy.special_eq KBy.look_buffer, KBy.own_buffer]
  rw [show (((0 : Int) == Bytes.fullReadOnly) : Bool) = false from by decide +kernel, KBy.buffer_eq]
  kernel_rfl
end BF

theorem joined_eq (sep : List UInt8) (ps : List (List UInt8)) : Bytes.joined sep.toArray (ps.map (·.toArray)) = (joinL sep ps).toArray := by
  unfold Bytes.joined
  cases ps with
  | nil => rfl
  | cons a ps =>
    have key : ∀ (ps : List (List UInt8)) (k : Nat) (acc : List UInt8), 0 < k → ((ps.map (·.toArray)).zipIdx k).foldl (fun out (x : Array UInt8 × Nat) => (if x.2 > 0 then out ++ sep.toArray else out) ++ x.1) acc.toArray = (acc ++ ps.flatMap fun p => sep ++ p).toArray := by
      intro ps
      induction ps with
      | nil => intro k acc _; simp
      | cons p ps ih =>
        intro k acc hk
        rw [List.map_cons, List.zipIdx_cons, List.foldl_cons]
        have e : (if k > 0 then acc.toArray ++ sep.toArray else acc.toArray) ++ p.toArray = (acc ++ sep ++ p).toArray := by rw [if_pos hk]; simp
        show List.foldl _ ((if k > 0 then acc.toArray ++ sep.toArray else acc.toArray) ++ p.toArray) _ = _
        rw [e, ih (k + 1) _ (Nat.succ_pos _)]
        simp
    rw [List.map_cons, List.zipIdx_cons, List.foldl_cons]
    have e : (if (0 : Nat) > 0 then (#[] : Array UInt8) ++ sep.toArray else #[]) ++ a.toArray = a.toArray := by simp
    show List.foldl _ ((if (0 : Nat) > 0 then (#[] : Array UInt8) ++ sep.toArray else #[]) ++ a.toArray) _ = _
    rw [e, key ps (0 + 1) a (by omega)]
    rfl

theorem all2_get {α β : Type} {R : α → β → Prop} : ∀ {l : List α} {r : List β}, All2 R l r → ∀ {i : Nat} (h : i < l.length) (h' : i < r.length), R l[i] r[i]
  | _, _, .nil, i, h, _ => absurd h (Nat.not_lt_zero _)
  | _, _, .cons x y, 0, _, _ => x
  | _, _, .cons x y, i + 1, h, h' => all2_get y (by simpa using h) (by simpa using h')

section
variable {prog : Program} {w : World} {A : Around} {E : Value → Shared → Prop} {s : Shared}
theorem letgo_join {M : PySem.Model} {keep : List Value} {Q : Unit → Shared → Prop} (h : Q () s) : ∀ taken : List (Value × Option Value), (∀ p ∈ taken, p.2 = none) → wpAny M A (Bytes.joinLetGo taken keep) Q E s
  | [], _ => wpAny_pure h
  | (x, w) :: rest, hw => by
    have e : w = none := hw (x, w) (.head _)
    subst e
    show wpAny M A (letGo (x :: []) _ >>= fun _ => Bytes.joinLetGo rest keep) Q E s
    exact wpAny_bind (wpAny_letGo (letgo_join h rest fun p hp => hw p (.tail _ hp)))

theorem meets_join {sep : List UInt8} {t : Tok} {D : Addr} {vs : List Value} {cs : List (List UInt8)} {n : Nat} (hv : All2 BItem vs cs) (hz : (cs.map (·.length)).sum + cs.length * sep.length ≤ 10000000) :
    Meets (Builtin.«bytes.join» ⟨[.bytes sep.toArray t, .ref D], []⟩) (fun _ R s => s.heap.get? D = some (lstObj vs n) ∧ ∀ t' k, R (.ok (.ret (.bytes (joinL sep cs).toArray t'))) { s with toks := k }) := by
  refine .of_wp fun prog w A R s hS => ?_
  obtain ⟨hl, h⟩ := hS
  show wpAny _ _ (Bytes.joinItems (.ref D) >>= fun seq => _) _ _ s
  refine wpAny_bind ?_
  unfold Bytes.joinItems
  refine wpAny_bind (wpAny_typeOf (T := "list") ⟨_, hl, rfl⟩ ?_)
  rw [if_pos (by rfl)]
  refine wpAny_pure ?_
  refine wpAny_bind (wpAny_seqItems hl rfl ?_)
  have go : (∃ x, vs = [x]) ∨ ∀ x, vs ≠ [x] := by
    rcases vs with _ | ⟨v, _ | ⟨v', vs⟩⟩
    · exact .inr fun x e => by cases e
    · exact .inl ⟨v, rfl⟩
    · exact .inr fun x e => by cases e
  rcases go with ⟨x, rfl⟩ | hne
  · cases hv with
    | @cons _ c _ cs hv1 hv2 =>
      cases hv2
      obtain ⟨u, rfl⟩ := hv1
      show wpAny _ _ (typeOf (.bytes c.toArray u) >>= fun _ => _) _ _ _
      refine wpAny_bind (wpAny_typeOf (T := "bytes") rfl ?_)
      rw [if_pos (by rfl)]
      refine wpAny_bind (wpAny_rule (wpAny_pure ⟨_, rfl, ?_⟩))
      have q := h u s.toks
      rw [show joinL sep [c] = c by simp [joinL]] at q
      exact q
  · have red : ∀ {f : Value → Sem PySem.Fin} {g : Sem PySem.Fin} {Q : PySem.Fin → Shared → Prop} {E : Value → Shared → Prop}, wpAny (model prog w) A.in1 g Q E s → wpAny (model prog w) A.in1 (match vs.toArray with | #[x] => f x | _ => g) Q E s := by
      intro f g Q E hg
      rcases vs with _ | ⟨v, _ | ⟨v', vs⟩⟩
      · exact hg
      · exact absurd rfl (hne v)
      · exact hg
    refine red ?_
    dsimp only
    have hlen := hv.length
    rw [Std.Legacy.Range.forIn_eq_forIn_range']
    refine wpAny_bind (wpAny_forIn_list _
      (fun (l : List Nat) (b : Array (Array UInt8) × List (Value × Option Value)) s' => s' = s ∧ l = (List.range' 0 vs.length).drop b.1.size ∧ b.1.size ≤ vs.length ∧ b.1.toList = (cs.take b.1.size).map (·.toArray) ∧ (∀ p ∈ b.2, p.2 = none ∧ p.1.onHeap = false))
      _ ?turn ?fin _ _ ?start)
    case start => exact ⟨rfl, by simp, Nat.zero_le _, by simp, fun _ hp => nomatch hp⟩
    case turn =>
      rintro i rest ⟨parts, taken⟩ s' ⟨rfl, hl1, hl2, hp, ht⟩
      dsimp only at hl1 hl2 hp ht
      have hlt : parts.size < vs.length := by
        have := congrArg List.length hl1
        simp at this
        omega
      have hi : i = parts.size ∧ rest = (List.range' 0 vs.length).drop (parts.size + 1) := by
        rw [List.drop_eq_getElem_cons (by simpa using hlt)] at hl1
        have h1 := (List.cons.inj hl1).1
        have h2 := (List.cons.inj hl1).2
        refine ⟨by simpa using h1, h2⟩
      obtain ⟨rfl, rfl⟩ := hi
      dsimp only
      refine wpAny_bind (wpAny_seqItems hl rfl ?_)
      obtain ⟨u, hu⟩ := all2_get hv hlt (hlen ▸ hlt)
      have hx : vs.toArray.getD parts.size .none = .bytes (cs[parts.size]'(hlen ▸ hlt)).toArray u := by
        rw [← hu]; simp [hlt]
      have hany : (taken.any fun x => x.1.onHeap) = false := by
        rw [List.any_eq_false]
        intro p hp
        rw [(ht p hp).2]
        simp
      show wpAny _ _ (if (false || taken.any fun x => x.1.onHeap) = true then _ else _) _ _ _
      rw [hany, if_neg (by simp), hx]
      refine wpAny_bind (wpAny_holding (wpAny_of_eq BF.take_eq ?_))
      refine wpAny_bind (wpAny_seqItems hl rfl ?_)
      show wpAny _ _ (if (vs.toArray.size != vs.toArray.size) = true then _ else _) _ _ _
      rw [if_neg (by simp)]
      refine wpAny_pure ⟨rfl, by simp, by simp; omega, ?_, ?_⟩
      · show (parts.push _).toList = (cs.take (parts.push _).size).map _
        rw [Array.size_push, List.take_add_one, List.getElem?_eq_getElem (hlen ▸ hlt), List.map_append, ← hp]
        simp
      · intro p hp
        rcases List.mem_append.mp hp with q | q
        · exact ht p q
        · rw [List.mem_singleton.mp q]; exact ⟨rfl, rfl⟩
    case fin =>
      rintro ⟨parts, taken⟩ s' ⟨rfl, hl1, hl2, hp, ht⟩
      dsimp only at hl1 hl2 hp ht ⊢
      have hsz : parts.size = vs.length := by
        have := congrArg List.length hl1
        simp at this
        omega
      have hp' : parts.toList = cs.map (·.toArray) := by rw [hp, hsz, hlen, List.take_length]
      refine wpAny_bind (wpAny_of_eq (a := sep.toArray) rfl ?_)
      have hsum : Array.foldl (fun x1 x2 => x1 + x2.size) (sep.toArray.size * (parts.size - 1)) parts ≤ 10000000 := by
        rw [← Array.foldl_toList, hp']
        have key : ∀ (l : List (List UInt8)) (a : Nat), (l.map (·.toArray)).foldl (fun x1 x2 => x1 + x2.size) a = a + (l.map (·.length)).sum := by
          intro l
          induction l with
          | nil => intro a; simp
          | cons c l ih => intro a; rw [List.map_cons, List.foldl_cons, ih]; simp; omega
        rw [key, hsz, hlen]
        have : sep.toArray.size * (cs.length - 1) ≤ cs.length * sep.length := by
          rw [List.size_toArray, Nat.mul_comm]
          exact Nat.mul_le_mul_right _ (Nat.sub_le _ _)
        omega
      rw [if_neg (by unfold Bytes.tooLong; rw [sizeLine_eq, decide_eq_true_eq]; omega), hp', joined_eq]
      have hjl : (joinL sep cs).length ≤ 10000000 := by
        have : (joinL sep cs).length ≤ (cs.map (·.length)).sum + cs.length * sep.length := by
          cases cs with
          | nil => simp [joinL]
          | cons a ps =>
            have key : ∀ ps : List (List UInt8), (ps.flatMap fun p => sep ++ p).length = (ps.map (·.length)).sum + ps.length * sep.length := by
              intro ps
              induction ps with
              | nil => simp
              | cons p ps ih => rw [List.flatMap_cons, List.length_append, ih]; simp [Nat.add_mul]; omega
            simp only [joinL, List.length_append, key, List.map_cons, List.sum_cons, List.length_cons, Nat.add_mul]
            omega
        omega
      refine wpAny_bind (m := mkBytes (joinL sep cs).toArray) (wpAny_mkBytes ?_ (by rw [sizeLine_eq, List.size_toArray]; omega))
      refine wpAny_bind (wpAny_holding (wpAny_point ?_))
      refine wpAny_bind (letgo_join ?_ taken fun p hp => (ht p hp).1)
      exact wpAny_pure ⟨_, rfl, h _ _⟩

theorem join_bytes {sep : List UInt8} {t : Tok} {D : Addr} {vs : List Value} {cs : List (List UInt8)} {n : Nat} {Q : Value → Shared → Prop} (hl : s.heap.get? D = some (lstObj vs n)) (hv : All2 BItem vs cs) (hz : (cs.map (·.length)).sum + cs.length * sep.length ≤ 10000000)
    (h : ∀ t' k, Q (.bytes (joinL sep cs).toArray t') { s with toks := k }) : wpAny (model prog w) A (call (.builtin "bytes.join") [.bytes sep.toArray t, .ref D]) Q E s :=
  call_meets BF.slot_join (typeIs_bytes _ _ _) BF.entry_join (BF.args_join _ _) (meets_join hv hz) ⟨hl, h⟩
end

theorem posL_length (c : UInt8) : ∀ (l : List UInt8) (k : Nat), (posL c l k).length ≤ l.length
  | [], _ => Nat.le_refl _
  | a :: r, k => by
    unfold posL
    have := posL_length c r (k + 1)
    split <;> simp <;> omega

theorem ext_one (pre r : List UInt8) (a c : UInt8) : ((pre ++ a :: r).toArray.extract pre.length (pre.length + 1) == #[c]) = decide (a = c) := by
  have e : (pre ++ a :: r).toArray.extract pre.length (pre.length + 1) = #[a] := by
    apply Array.toList_inj.mp
    simp
  rw [e]
  by_cases h : a = c
  · subst h; simp
  · simp [h]

theorem occ_b (l : List UInt8) (c : UInt8) : Bytes.occurrences l.toArray #[c] 0 l.toArray.size = posL c l 0 := by
  have key : ∀ (suf pre acc : List UInt8) (ac : List Nat) (last : Nat), pre ++ suf = l → last ≤ pre.length →
      ((List.range' pre.length suf.length).foldl (fun (acc : List Nat × Nat) (i : Nat) => if (decide (i ≥ acc.2) && (l.toArray.extract i (i + 1) == #[c])) = true then (i :: acc.1, i + 1) else acc) (ac, last)).1 = (posL c suf pre.length).reverse ++ ac := by
    intro suf
    induction suf with
    | nil => intro pre acc ac last _ _; rfl
    | cons a r ih =>
      intro pre acc ac last hl hlast
      rw [List.length_cons, List.range'_succ, List.foldl_cons]
      subst hl
      rw [ext_one]
      have hl' : (pre ++ [a]) ++ r = pre ++ a :: r := by simp
      have hp : (pre ++ [a]).length = pre.length + 1 := by simp
      unfold posL
      by_cases h : a = c
      · rw [if_pos (by simp [h]; omega), if_pos h]
        have := ih (pre ++ [a]) [] (pre.length :: ac) (pre.length + 1) hl' (by omega)
        rw [hp] at this
        rw [this]
        simp
      · rw [if_neg (by simp [h]), if_neg h]
        have := ih (pre ++ [a]) [] ac last hl' (by omega)
        rw [hp] at this
        exact this
  have k0 := key l [] [] [] 0 rfl (Nat.le_refl _)
  unfold Bytes.occurrences
  have e1 : (List.range (l.toArray.size + 1 - (0 + (#[c] : Array UInt8).size))).map (· + 0) = List.range' 0 l.length := by
    rw [List.range_eq_range']
    simp
  rw [e1]
  simp only [List.length_nil] at k0
  show ((List.range' 0 l.length).foldl (fun (acc : List Nat × Nat) (i : Nat) => if (decide (i ≥ acc.2) && (l.toArray.extract i (i + 1) == #[c])) = true then (i :: acc.1, i + 1) else acc) ([], 0)).1.reverse = _
  rw [k0]
  simp

def endCut (l : List UInt8) (r : Array (Array UInt8) × Nat) : List (Array UInt8) := (r.1.push (l.toArray.extract r.2 l.toArray.size)).toList
theorem between_b (l : List UInt8) (c : UInt8) : Bytes.between l.toArray 1 (posL c l 0) = (cutL c l).map (·.toArray) := by
  have key : ∀ (suf pre : List UInt8) (parts : Array (Array UInt8)) (last : Nat), pre ++ suf = l → last ≤ pre.length →
      endCut l ((posL c suf pre.length).foldl (fun (x : Array (Array UInt8) × Nat) p => (x.1.push (l.toArray.extract x.2 p), p + 1)) (parts, last)) = parts.toList ++ (match cutL c suf with | [] => [] | p :: ps => ((pre.drop last) ++ p).toArray :: ps.map (·.toArray)) := by
    intro suf
    induction suf with
    | nil =>
      intro pre parts last hl hlast
      have e : l.toArray.extract last l.toArray.size = (pre.drop last).toArray := by
        subst hl
        simp [List.take_of_length_le]
      show (parts.push (l.toArray.extract last l.toArray.size)).toList = _
      rw [e]
      simp [cutL]
    | cons a r ih =>
      intro pre parts last hl hlast
      have hl' : (pre ++ [a]) ++ r = l := by rw [← hl]; simp
      have hp : (pre ++ [a]).length = pre.length + 1 := by simp
      unfold posL
      by_cases h : a = c
      · rw [if_pos h, List.foldl_cons]
        subst h
        have := ih (pre ++ [a]) (parts.push (l.toArray.extract last pre.length)) (pre.length + 1) hl' (by omega)
        rw [hp] at this
        refine this.trans ?_
        have e : l.toArray.extract last pre.length = (pre.drop last).toArray := by
          rw [← hl]
          apply Array.toList_inj.mp
          simp [List.drop_append, hlast]
        rw [e, cutL_hit]
        cases ec : cutL a r with
        | nil => exact absurd ec (cutL_ne a r)
        | cons p ps => simp
      · rw [if_neg h]
        obtain ⟨p, ps, e1, e2⟩ := cutL_miss r h
        have := ih (pre ++ [a]) parts last hl' (by omega)
        rw [hp] at this
        refine this.trans ?_
        rw [e1, e2]
        dsimp only
        rw [List.drop_append_of_le_length hlast]
        simp
  have k0 := key l [] #[] 0 rfl (Nat.le_refl _)
  unfold Bytes.between
  refine k0.trans ?_
  cases ec : cutL c l with
  | nil => exact absurd ec (cutL_ne c l)
  | cons p ps => simp

section
variable {M : PySem.Model} {A : Around} {E : Value → Shared → Prop} {s : Shared}
theorem mapM_bytes {Q : List Value → Shared → Prop} : ∀ (cs : List (List UInt8)) {s : Shared}, (∀ c ∈ cs, c.length ≤ 10000000) → (∀ vs k, All2 BItem vs cs → Q vs { s with toks := k }) → wpAny M A ((cs.map (·.toArray)).mapM Bytes.Kind.bytes.new) Q E s
  | [], s, _, h => by
    rw [List.map_nil, List.mapM_nil]
    exact wpAny_pure (h [] s.toks .nil)
  | c :: cs, s, hz, h => by
    rw [List.map_cons, List.mapM_cons]
    refine wpAny_bind (m := mkBytes c.toArray) (wpAny_mkBytes ?_ (by rw [sizeLine_eq, List.size_toArray]; have := hz c (.head _); omega))
    refine wpAny_bind (mapM_bytes cs (fun c hc => hz c (.tail _ hc)) fun vs k hv => ?_)
    exact wpAny_pure (h _ k (.cons ⟨_, rfl⟩ hv))
end

section
variable {prog : Program} {w : World} {A : Around} {E : Value → Shared → Prop} {s : Shared}
theorem meets_split {l : List UInt8} {c : UInt8} {t u : Tok} (hz : l.length ≤ 1000000) :
    Meets (Builtin.«bytes.split» ⟨[.bytes l.toArray t, .bytes #[c] u], []⟩) (fun _ R s => ∀ vs k, All2 BItem vs (cutL c l) → R (.ok (.ret (.ref s.heap.objs.size))) { s with heap := s.heap.push (lstObj vs 0), toks := k }) := by
  refine .of_wp fun prog w A R s h => ?_
  show wpAny _ _ (Bytes.payload (.bytes l.toArray t) >>= fun b => _) _ _ s
  refine wpAny_bind (wpAny_of_eq (a := l.toArray) rfl ?_)
  refine wpAny_bind (wpAny_pure ?_)
  dsimp only
  refine wpAny_bind (wpAny_of_eq (a := l.toArray) rfl ?_)
  show wpAny _ _ (Bytes.bytesLike _ (.bytes #[c] u) >>= fun sep => _) _ _ _
  refine wpAny_bind ?_
  unfold Bytes.bytesLike
  refine wpAny_bind (wpAny_of_eq KBy.buffer_eq (wpAny_pure ?_))
  rw [if_neg (by simp)]
  show wpAny _ _ (if (List.take (l.toArray.size + 1) (Bytes.occurrences l.toArray #[c] 0 l.toArray.size)).isEmpty = true then _ else List.mapM Bytes.Kind.bytes.new (Bytes.between l.toArray 1 (List.take (l.toArray.size + 1) (Bytes.occurrences l.toArray #[c] 0 l.toArray.size))) >>= fun vs => newList vs >>= fun v => ret v) _ _ _
  have hpos : List.take (l.toArray.size + 1) (Bytes.occurrences l.toArray #[c] 0 l.toArray.size) = posL c l 0 := by
    rw [occ_b]
    have := posL_length c l 0
    exact List.take_of_length_le (by simp; omega)
  rw [hpos]
  have hb := between_b l c
  have hlen := cutL_length_sum c l
  by_cases he : (posL c l 0).isEmpty = true
  · rw [if_pos he]
    have he' : posL c l 0 = [] := List.isEmpty_iff.mp he
    have hcut : cutL c l = [l] := by
      rw [he'] at hb
      have e1 : Bytes.between l.toArray 1 [] = [l.toArray] := by simp [Bytes.between]
      rw [e1] at hb
      cases hc : cutL c l with
      | nil => exact absurd hc (cutL_ne c l)
      | cons p ps =>
        rw [hc] at hb
        simp at hb
        rw [← hb.1, hb.2]
    refine wpAny_bind (wpAny_rule ?_)
    refine wpAny_bind ?_
    show wpAny _ _ (typeOf (.bytes l.toArray t) >>= fun ty => _) _ _ _
    refine wpAny_bind (wpAny_typeOf (T := "bytes") rfl ?_)
    rw [if_pos (by rfl)]
    refine wpAny_pure (wpAny_bind (wpAny_newList ?_ (by rw [sizeLine_eq]; simp)))
    exact wpAny_pure ⟨_, rfl, h [.bytes l.toArray t] s.toks (by rw [hcut]; exact .cons ⟨t, rfl⟩ .nil)⟩
  · rw [if_neg he, hb]
    refine wpAny_bind (mapM_bytes _ (fun p hp => ?_) fun vs k hv => ?_)
    · have : p.length ≤ ((cutL c l).map (·.length)).sum := by
        have key : ∀ (L : List (List UInt8)), p ∈ L → p.length ≤ (L.map (·.length)).sum := by
          intro L
          induction L with
          | nil => intro h; cases h
          | cons q L ih =>
            intro h
            rw [List.map_cons, List.sum_cons]
            rcases List.mem_cons.mp h with rfl | h
            · omega
            · have := ih h; omega
        exact key _ hp
      omega
    · have hvl := hv.length
      refine wpAny_bind (wpAny_newList ?_ (by rw [sizeLine_eq]; omega))
      exact wpAny_pure ⟨_, rfl, h vs k hv⟩

theorem split_bytes {l : List UInt8} {c : UInt8} {t u : Tok} {Q : Value → Shared → Prop} (hz : l.length ≤ 1000000)
    (h : ∀ vs k, All2 BItem vs (cutL c l) → Q (.ref s.heap.objs.size) { s with heap := s.heap.push (lstObj vs 0), toks := k }) :
    wpAny (model prog w) A (call (.builtin "bytes.split") [.bytes l.toArray t, .bytes #[c] u]) Q E s :=
  call_meets BF.slot_split (typeIs_bytes _ _ _) BF.entry_split (BF.args_split _ _) (meets_split hz) h
end

theorem BF.no_tuple {b : Array UInt8} {t : Tok} : isInstance (.bytes b t) (.type "tuple") = pure false := by
  have e : isInstance (.bytes b t) (.type "tuple") = isSubtype (.type "bytes") (.type "tuple") := rfl
  rw [e, isSubtype_type]
  kernel_rfl
section
variable {prog : Program} {w : World} {A : Around} {E : Value → Shared → Prop} {s : Shared}
theorem meets_starts {l : List UInt8} {c : UInt8} {t u : Tok} :
    Meets (Builtin.«bytes.startswith» ⟨[.bytes l.toArray t, .bytes #[c] u], []⟩) (fun _ R s => R (.ok (.ret (.bool (l.head? == some c)))) s) := by
  refine .of_wp fun prog w A R s h => ?_
  refine wpAny_bind (wpAny_of_eq (a := (.bytes l.toArray t, [.bytes #[c] u])) rfl ?_)
  refine wpAny_bind (wpAny_of_eq (a := none) rfl ?_)
  refine wpAny_bind (wpAny_of_eq (a := none) rfl ?_)
  refine wpAny_bind (wpAny_of_eq (a := l.toArray) rfl ?_)
  show wpAny _ _ (isInstance (.bytes #[c] u) (.type "tuple") >>= fun b => _) _ _ s
  refine wpAny_bind (wpAny_of_eq BF.no_tuple ?_)
  rw [if_neg (by simp)]
  refine wpAny_bind (wpAny_of_eq KBy.buffer_eq ?_)
  refine wpAny_pure ⟨_, rfl, ?_⟩
  have e : (if min (l.toArray.size : Int) l.toArray.size - 0 < ((#[c] : Array UInt8).size : Int) then false
      else l.toArray.extract 0 (0 + (#[c] : Array UInt8).size) == #[c]) = (l.head? == some c) := by
    cases l with
    | nil => rfl
    | cons a r =>
      rw [if_neg (by simp; omega)]
      have q := ext_one [] r a c
      simp only [List.nil_append, List.length_nil] at q
      refine Eq.trans q ?_
      by_cases hc : a = c <;> simp [hc]
  show R (.ok (.ret (.bool (if min (l.toArray.size : Int) l.toArray.size - 0 < ((#[c] : Array UInt8).size : Int) then false
      else l.toArray.extract 0 (0 + (#[c] : Array UInt8).size) == #[c])))) s
  rw [e]
  exact h
theorem meets_ends {l : List UInt8} {c : UInt8} {t u : Tok} :
    Meets (Builtin.«bytes.endswith» ⟨[.bytes l.toArray t, .bytes #[c] u], []⟩) (fun _ R s => R (.ok (.ret (.bool (l.getLast? == some c)))) s) := by
  refine .of_wp fun prog w A R s h => ?_
  refine wpAny_bind (wpAny_of_eq (a := (.bytes l.toArray t, [.bytes #[c] u])) rfl ?_)
  refine wpAny_bind (wpAny_of_eq (a := none) rfl ?_)
  refine wpAny_bind (wpAny_of_eq (a := none) rfl ?_)
  refine wpAny_bind (wpAny_of_eq (a := l.toArray) rfl ?_)
  show wpAny _ _ (isInstance (.bytes #[c] u) (.type "tuple") >>= fun b => _) _ _ s
  refine wpAny_bind (wpAny_of_eq BF.no_tuple ?_)
  rw [if_neg (by simp)]
  refine wpAny_bind (wpAny_of_eq KBy.buffer_eq ?_)
  refine wpAny_pure ⟨_, rfl, ?_⟩
  have e : (if min (l.toArray.size : Int) l.toArray.size - 0 < ((#[c] : Array UInt8).size : Int) then false
      else l.toArray.extract ((min (l.toArray.size : Int) l.toArray.size).toNat - (#[c] : Array UInt8).size) (min (l.toArray.size : Int) l.toArray.size).toNat == #[c]) = (l.getLast? == some c) := by
    rcases List.eq_nil_or_concat l with rfl | ⟨r, a, rfl⟩
    · rfl
    · rw [if_neg (by simp; omega)]
      have q := ext_one r [] a c
      have h1 : (min ((r.concat a).toArray.size : Int) (r.concat a).toArray.size).toNat = r.length + 1 := by simp
      rw [h1]
      have h2 : r.length + 1 - (#[c] : Array UInt8).size = r.length := rfl
      rw [h2, List.concat_eq_append]
      refine Eq.trans q ?_
      by_cases hc : a = c <;> simp [hc]
  show R (.ok (.ret (.bool (if min (l.toArray.size : Int) l.toArray.size - 0 < ((#[c] : Array UInt8).size : Int) then false
      else l.toArray.extract ((min (l.toArray.size : Int) l.toArray.size).toNat - (#[c] : Array UInt8).size) (min (l.toArray.size : Int) l.toArray.size).toNat == #[c])))) s
  rw [e]
  exact h
theorem starts_bytes {l : List UInt8} {c : UInt8} {t u : Tok} {Q : Value → Shared → Prop} (h : Q (.bool (l.head? == some c)) s) :
    wpAny (model prog w) A (call (.builtin "bytes.startswith") [.bytes l.toArray t, .bytes #[c] u]) Q E s :=
  call_meets FB.slot_bytes_startswith (typeIs_bytes _ _ _) FB.entry_bytes_startswith (FB.args_bytes_startswith_2 _ _) meets_starts h
theorem ends_bytes {l : List UInt8} {c : UInt8} {t u : Tok} {Q : Value → Shared → Prop} (h : Q (.bool (l.getLast? == some c)) s) :
    wpAny (model prog w) A (call (.builtin "bytes.endswith") [.bytes l.toArray t, .bytes #[c] u]) Q E s :=
  call_meets FB.slot_bytes_endswith (typeIs_bytes _ _ _) FB.entry_bytes_endswith (FB.args_bytes_endswith_2 _ _) meets_ends h

theorem noRefB {b : Array UInt8} {t : Tok} : ∀ a, Value.bytes b t = .ref a → ∃ o, s.heap.get? a = some o ∧ o.dict = none := fun _ e => nomatch e
theorem gm_bytes {M : PySem.Model} {name : PySem.Str} {id : String} {b : Array UInt8} {t : Tok} {pl : Sem Bool} {Q : Value × List Value → Shared → Prop} (slot : Slot "bytes" name id) (ty : typeOf (.builtin id) = pure (.type "method_descriptor"))
    (h : Q (.builtin id, [.bytes b t]) s) : wpAny M A (getMethod (.bytes b t) name pl) Q E s :=
  getMethod_builtin (typeIs_bytes s b t) FB.plainAttrs_bytes slot ty noRefB h
end
end Mine
end
section
open PySem PySem.W PyProof.Rows PySem.Calls PySem.Sre PySem.Builtin.Re
namespace Mine
set_option maxRecDepth 100000
theorem back8 : ((fun x => UInt8.ofNat x) ∘ fun (x : UInt8) => x.toNat) = id := funext fun x => by simp
section
variable {w : World} {prog : Program} {A : Around} {s : Shared}
theorem fin_bytes {x : List UInt8} {lst : Addr} {vs : List Value} {cs : List (List UInt8)} {n : Nat} {Q : PySem.Fin → Shared → Prop} {E : Value → Shared → Prop} (hv : All2 BItem vs cs) (hz : cs.flatten.length ≤ 10000000) (hl : s.heap.get? lst = some (lstObj vs n))
    (h : ∀ t' tk', Q (.done (.ret (.bytes cs.flatten.toArray t'))) { s with toks := tk' }) :
    wpAny (model prog w) A (do
          let joiner ← reSlice (x.toArray.map (·.toNat)) 1 0 0
          let r ← seqItems? (.ref lst)
          if (r.getD #[]).isEmpty = true then (do let text ← pure joiner; ret text) else (do let text ← call (.builtin "bytes.join") [joiner, .ref lst]; ret text)) Q E s := by
  have e0 : ((x.toArray.map (·.toNat)).extract 0 0).map (·.toUInt8) = #[] := by simp
  refine wpAny_bind (m := mkBytes (((x.toArray.map (·.toNat)).extract 0 0).map (·.toUInt8))) ?_
  rw [e0]
  refine wpAny_mkBytes ?_ (by show (0 : Nat) ≤ _; exact Nat.zero_le _)
  refine wpAny_bind (wpAny_seqItems hl rfl ?_)
  cases hv with
  | nil =>
    refine wpAny_ite ?_
    rw [if_pos (show ((some (#[] : Array Value)).getD #[]).isEmpty = true from rfl)]
    exact wpAny_bind (wpAny_pure (wpAny_pure (h _ _)))
  | @cons v c vs cs hv1 hv2 =>
    refine wpAny_ite ?_
    rw [if_neg (by simp)]
    refine wpAny_bind (join_bytes (sep := []) hl (.cons hv1 hv2) ?_ fun t' k => ?_)
    · rw [sum_flat]
      simp only [List.length_nil, Nat.mul_zero, Nat.add_zero]
      exact hz
    · rw [joinL_nil]
      exact wpAny_pure (h _ _)
end

section
variable {w : World} {prog : Program}
theorem loop_bytes {P lst : Addr} {code : Array Nat} {x repl : List UInt8} {t u : Tok} {S : Nat → Option (Nat × Nat)} (FS : Finds code (x.toArray.map (·.toNat)) S) {h₀ : Heap} {out₀ : List UInt8} (hz : out₀.length ≤ 10000000) (hx : x.length ≤ 1000000) (I : IsPat h₀ P code 1) (hl : h₀.get? lst = none) {k : Nat} {out : List UInt8} (D : Sub S repl x k out) :
    k ≤ x.length → ∀ {A : Around} {s : Shared} {R : Result → Shared → Prop} {vs : List Value} {cs : List (List UInt8)} {n : Nat} {m : Int}, All2 BItem vs cs → cs.flatten ++ out = out₀ → vs.length ≤ 2 * k → Keeps h₀ s.heap → s.heap.get? lst = some (lstObj vs n) →
    (∀ t' h' tk', Keeps h₀ h' → R (.ok (.ret (.bytes out₀.toArray t'))) { s with heap := h', toks := tk' }) →
    codeAny (model prog w) A (.builtin "re.Pattern.sub.loop" (loopArgs P (.bytes x.toArray t) (.bytes repl.toArray u) m (k : Int) lst)) R s := by
  induction D with
  | @stop k hS =>
    intro hk A s R vs cs n m hv hc hb K0 hlst hR
    refine codeAny_builtin PF.entry_loop ?_
    rw [Around.under_plainId PF.plain_loop]
    show wpAny _ A.in1 (reWholeTarget (.ref P) (.bytes x.toArray t) >>= fun t => _) _ _ s
    refine wpAny_bind (whole_bytes (I.on K0) ?_)
    refine wpAny_bind (m := reLiteralCannotBeTurned (.bytes repl.toArray u)) (lit_bytes ?_)
    refine wpAny_bind (m := reNextFound { pattern := .ref P, string := .bytes x.toArray t, code, text := x.toArray.map (·.toNat), kind := 1, groups := 0, pos := 0, lim := (x.toArray.map (·.toNat)).size } k false) (next_wp FS (by simpa using hk) ?_)
    rw [hS]
    dsimp only
    by_cases hlt : ((k : Int).toNat) < (x.toArray.map (·.toNat)).size
    · rw [if_pos hlt]
      have e1 : ((x.toArray.map (·.toNat)).extract ((k : Int).toNat) (x.toArray.map (·.toNat)).size).map (·.toUInt8) = (x.drop k).toArray := by
        apply Array.toList_inj.mp
        simp [List.take_of_length_le, List.map_drop, back8]
      refine wpAny_bind (m := mkBytes (((x.toArray.map (·.toNat)).extract ((k : Int).toNat) (x.toArray.map (·.toNat)).size).map (·.toUInt8))) ?_
      rw [e1]
      refine wpAny_mkBytes ?_ ?_
      · refine wpAny_bind (push_wp hlst ?_ fun h' n' hl' hk' => ?_)
        · rw [sizeLine_eq]; omega
        · have e3 : (cs ++ [x.drop k]).flatten = out₀ := by simpa using hc
          refine fin_bytes (hv.snoc ⟨_, rfl⟩) ?_ hl' fun t' tk' => ?_
          · rw [e3]; exact hz
          · rw [e3]
            exact hR _ _ _ fun b o e => hk' b o (fun q => by rw [q, hl] at e; cases e) (K0 b o e)
      · show (x.drop k).toArray.size ≤ _
        rw [sizeLine_eq]
        simp
        omega
    · rw [if_neg hlt]
      have e3 : cs.flatten = out₀ := by
        have : x.drop k = [] := List.drop_eq_nil_of_le (by simp at hlt; omega)
        rw [this] at hc
        simpa using hc
      refine fin_bytes hv ?_ hlst fun t' tk' => ?_
      · rw [e3]; exact hz
      · rw [e3]
        exact hR _ _ _ K0
  | @hit k p q rest hS D ih =>
    intro hk A s R vs cs n m hv hc hb K0 hlst hR
    refine codeAny_builtin PF.entry_loop ?_
    rw [Around.under_plainId PF.plain_loop]
    show wpAny _ A.in1 (reWholeTarget (.ref P) (.bytes x.toArray t) >>= fun t => _) _ _ s
    refine wpAny_bind (whole_bytes (I.on K0) ?_)
    refine wpAny_bind (m := reLiteralCannotBeTurned (.bytes repl.toArray u)) (lit_bytes ?_)
    refine wpAny_bind (m := reNextFound { pattern := .ref P, string := .bytes x.toArray t, code, text := x.toArray.map (·.toNat), kind := 1, groups := 0, pos := 0, lim := (x.toArray.map (·.toNat)).size } k false) (next_wp FS (by simpa using hk) ?_)
    rw [hS]
    dsimp only
    intro mm hm1 hm2
    rw [hm1, hm2]
    obtain ⟨f1, f2, f3⟩ := FS.fits k p q hS
    have f3' : q ≤ x.length := by simpa using f3
    have again : ∀ (vs' : List Value) (cs' : List (List UInt8)) (h' : Heap) (n' : Nat) (tk' : Nat), All2 BItem vs' cs' → cs'.flatten = cs.flatten ++ (x.drop k).take (p - k) → vs'.length ≤ 2 * k + 1 → Keeps h₀ h' → h'.get? lst = some (lstObj vs' n') →
        wpAny (model prog w) A.in1 (do
          updateSeq lst fun x => x.push (.bytes repl.toArray u)
          again (.builtin "re.Pattern.sub.loop" (⟨[.ref P, .bytes x.toArray t, .bytes repl.toArray u, rawInt 0, rawInt 0, rawInt (m + 1), rawInt q, rawInt q, .bool (q == p), .ref lst, .bool false], []⟩)))
          (fun fin s' => match fin with | .done f => R (.ok f) s' | .again c' => c'.quiet = true ∧ codeAny (model prog w) A c' R s') (fun e s' => R (.error e) s') { s with heap := h', toks := tk' } := by
      intro vs' cs' h' n' tk' hv' hc' hb' hk' hl'
      refine wpAny_bind (push_wp hl' (by rw [sizeLine_eq]; omega) fun h2 n2 hl2 hk2 => wpAny_pure ⟨Code.quiet_builtin _ (by decide +kernel), ?_⟩)
      have eb : (q == p) = false := by simp; omega
      rw [eb]
      refine ih f3' (hv'.snoc ⟨u, rfl⟩) ?_ ?_ (fun b o e => hk2 b o (fun q => by rw [q, hl] at e; cases e) (hk' b o e)) hl2 hR
      · rw [← hc, List.flatten_append, hc']
        simp
      · simp; omega
    by_cases hlt : ((k : Int).toNat) < p
    · rw [if_pos hlt]
      have e1 : ((x.toArray.map (·.toNat)).extract ((k : Int).toNat) p).map (·.toUInt8) = ((x.drop k).take (p - k)).toArray := by
        apply Array.toList_inj.mp
        simp [List.map_take, List.map_drop, back8]
      refine wpAny_bind (m := mkBytes (((x.toArray.map (·.toNat)).extract ((k : Int).toNat) p).map (·.toUInt8))) ?_
      rw [e1]
      refine wpAny_mkBytes ?_ ?_
      · refine wpAny_bind (push_wp hlst ?_ fun h' n' hl' hk' => ?_)
        · rw [sizeLine_eq]; omega
        · exact again _ (cs ++ [(x.drop k).take (p - k)]) h' n' _ (hv.snoc ⟨_, rfl⟩) (by simp) (by simp; omega) (fun b o e => hk' b o (fun q => by rw [q, hl] at e; cases e) (K0 b o e)) hl'
      · show ((x.drop k).take (p - k)).toArray.size ≤ _
        rw [sizeLine_eq]
        simp
        omega
    · rw [if_neg hlt]
      have e0 : p - k = 0 := by simp at hlt; omega
      exact again vs cs s.heap n s.toks hv (by rw [e0]; simp) (by omega) K0 hlst
end

theorem Heap.fresh_size (h : Heap) : h.get? h.objs.size = none := by
  cases e : h.get? h.objs.size with
  | none => rfl
  | some o => exact absurd (Heap.lt_size e) (Nat.lt_irrefl _)

section
variable {w : World} {prog : Program} {A : Around} {s : Shared} {E : Value → Shared → Prop}
theorem sub_str {P : Addr} {code : Array Nat} {x repl : List Nat} {t u : Tok} {S : Nat → Option (Nat × Nat)} {out : List Nat} {Q : Value → Shared → Prop} (I : IsPat s.heap P code 0) (FS : Finds code x.toArray S) (D : Sub S repl x 0 out)
    (hr : repl.contains 92 = false) (hx : x.length ≤ 1000000) (hz : out.length ≤ 10000000) (h : ∀ t' h' tk', Keeps s.heap h' → Q (.str ⟨out.toArray⟩ t') { s with heap := h', toks := tk' }) :
    wpAny (model prog w) A (call (.builtin "re.Pattern.sub") [.ref P, .str ⟨repl.toArray⟩ u, .str ⟨x.toArray⟩ t]) Q E s := by
  have hT : s.TypeIs (.ref P) "re.Pattern" := by obtain ⟨o, _, _, _, _, _, h1, h2, _⟩ := I; exact ⟨o, h1, h2⟩
  refine wpAny_call (codeAny_call_builtin PF.slot_sub.plain PF.entry_sub (PF.slot_sub.check _ _ _ _ _ _ _ _ hT (PF.args_sub _ _ _) ?_))
  show wpAny _ A.in1 (reNamed "re.Pattern.sub" "sub" ["repl", "string", "count"] 2 [.str ⟨repl.toArray⟩ u, .str ⟨x.toArray⟩ t] [] >>= fun r => _) _ _ s
  refine wpAny_bind (wpAny_of_eq (a := [some (.str ⟨repl.toArray⟩ u), some (.str ⟨x.toArray⟩ t), none]) (by kernel_rfl) ?_)
  dsimp only
  refine wpAny_bind (wpAny_pure ?_)
  refine wpAny_bind (wpAny_specialOf (T := "str") rfl PF.noCall_str ?_)
  rw [if_neg (by simp)]
  refine wpAny_bind (wpAny_of_eq (a := some ⟨repl.toArray⟩) rfl ?_)
  dsimp only
  refine wpAny_bind (wpAny_pure ?_)
  rw [if_neg (by simp), if_pos (by simpa using hr)]
  refine wpAny_bind (wpAny_pure ?_)
  refine wpAny_bind (wpAny_holding (whole_str I ?_))
  dsimp only
  rw [if_neg (by simp)]
  refine wpAny_bind (wpAny_newList ?_ (by rw [sizeLine_eq]; simp))
  refine wpAny_pure ⟨Code.quiet_builtin _ (by decide +kernel), ?_⟩
  exact loop_str FS (h₀ := s.heap) (out₀ := out) hz hx I (Heap.fresh_size s.heap) D (Nat.zero_le _) (vs := []) (cs := []) (n := 0) (m := 0) .nil rfl (Nat.zero_le _)
    (fun b o e => Heap.get?_push_of_some _ e) (Heap.get?_push_size _ rfl) fun t' h' tk' k => h t' h' tk' k
theorem sub_bytes {P : Addr} {code : Array Nat} {x repl : List UInt8} {t u : Tok} {S : Nat → Option (Nat × Nat)} {out : List UInt8} {Q : Value → Shared → Prop} (I : IsPat s.heap P code 1) (FS : Finds code (x.toArray.map (·.toNat)) S) (D : Sub S repl x 0 out)
    (hr : repl.contains 92 = false) (hx : x.length ≤ 1000000) (hz : out.length ≤ 10000000) (h : ∀ t' h' tk', Keeps s.heap h' → Q (.bytes out.toArray t') { s with heap := h', toks := tk' }) :
    wpAny (model prog w) A (call (.builtin "re.Pattern.sub") [.ref P, .bytes repl.toArray u, .bytes x.toArray t]) Q E s := by
  have hT : s.TypeIs (.ref P) "re.Pattern" := by obtain ⟨o, _, _, _, _, _, h1, h2, _⟩ := I; exact ⟨o, h1, h2⟩
  refine wpAny_call (codeAny_call_builtin PF.slot_sub.plain PF.entry_sub (PF.slot_sub.check _ _ _ _ _ _ _ _ hT (PF.args_sub _ _ _) ?_))
  show wpAny _ A.in1 (reNamed "re.Pattern.sub" "sub" ["repl", "string", "count"] 2 [.bytes repl.toArray u, .bytes x.toArray t] [] >>= fun r => _) _ _ s
  refine wpAny_bind (wpAny_of_eq (a := [some (.bytes repl.toArray u), some (.bytes x.toArray t), none]) (by kernel_rfl) ?_)
  dsimp only
  refine wpAny_bind (wpAny_pure ?_)
  refine wpAny_bind (wpAny_specialOf (T := "bytes") rfl PF.noCall_bytes ?_)
  rw [if_neg (by simp)]
  refine wpAny_bind (wpAny_of_eq (a := none) rfl ?_)
  dsimp only
  refine wpAny_bind (wpAny_of_eq KBy.quiet_eq ?_)
  dsimp only
  refine wpAny_bind (wpAny_pure ?_)
  rw [if_neg (by simp), if_pos (by simpa using hr)]
  refine wpAny_bind (wpAny_pure ?_)
  refine wpAny_bind (wpAny_holding (whole_bytes I ?_))
  dsimp only
  rw [if_neg (by simp)]
  refine wpAny_bind (wpAny_newList ?_ (by rw [sizeLine_eq]; simp))
  refine wpAny_pure ⟨Code.quiet_builtin _ (by decide +kernel), ?_⟩
  exact loop_bytes FS (h₀ := s.heap) (out₀ := out) hz hx I (Heap.fresh_size s.heap) D (Nat.zero_le _) (vs := []) (cs := []) (n := 0) (m := 0) .nil rfl (Nat.zero_le _)
    (fun b o e => Heap.get?_push_of_some _ e) (Heap.get?_push_size _ rfl) fun t' h' tk' k => h t' h' tk' k
end
end Mine
end
section
open PySem PySem.W PyProof.Rows PySem.Calls PySem.Sre
namespace Mine

theorem drop_get {α : Type} (x : List α) (d : α) {k : Nat} (h : k < x.length) : x.drop k = x.getD k d :: x.drop (k + 1) := by
  rw [List.drop_eq_getElem_cons h]
  simp [h]

section
variable {α : Type} {P : Nat → Bool} {wd : Nat → Nat} {f : Nat → List α} {x repl : List α} {d : α} {N : Nat → Nat}
theorem run_plain (H0 : f x.length = []) (H1 : ∀ k, k < x.length → P k = false → f k = x.getD k d :: f (k + 1)) : ∀ (n k p : Nat), p - k = n → k ≤ p → p ≤ x.length → (∀ q, k ≤ q → q < p → P q = false) → f k = (x.drop k).take (p - k) ++ f p
  | 0, k, p, hn, hk, hp, hq => by
    have : k = p := by omega
    subst this
    simp
  | n + 1, k, p, hn, hk, hp, hq => by
    have hlt : k < x.length := by omega
    rw [H1 k hlt (hq k (Nat.le_refl _) (by omega)), run_plain H0 H1 n (k + 1) p (by omega) (by omega) hp (fun q h1 h2 => hq q (by omega) h2), drop_get x d hlt]
    have : p - k = (p - (k + 1)) + 1 := by omega
    rw [this, List.take_succ_cons]
    rfl

theorem sub_of (H0 : f x.length = []) (H1 : ∀ k, k < x.length → P k = false → f k = x.getD k d :: f (k + 1)) (H2 : ∀ k, k < x.length → P k = true → f k = repl ++ f (k + wd k) ∧ 1 ≤ wd k ∧ k + wd k ≤ x.length)
    (hP : ∀ k, x.length ≤ k → P k = false) (hN : ∀ k, x.length ≤ k + N k) :
    ∀ (n k : Nat), x.length - k = n → k ≤ x.length → Sub (fun k => (findP P (N k) k).map fun p => (p, p + wd p)) repl x k (f k) := by
  intro n
  induction n using Nat.strongRecOn with
  | _ n ih =>
    intro k hn hk
    cases hf : findP P (N k) k with
    | none =>
      have hno := findP_none hf
      have e : f k = x.drop k := by
        have := run_plain H0 H1 (x.length - k) k x.length rfl hk (Nat.le_refl _) fun q h1 h2 => hno q h1 (by have := hN k; omega)
        rw [this, H0, List.append_nil, List.take_of_length_le (by simp)]
      rw [e]
      exact .stop (by rw [hf]; rfl)
    | some p =>
      obtain ⟨h1, h2, h3, h4⟩ := findP_some hf
      have hp : p < x.length := by
        by_cases q : p < x.length
        · exact q
        · rw [hP p (by omega)] at h1; cases h1
      obtain ⟨e1, e2, e3⟩ := H2 p hp h1
      have e := run_plain H0 H1 (p - k) k p rfl h2 (by omega) h4
      rw [e, e1, ← List.append_assoc]
      refine .hit (q := p + wd p) (by rw [hf]; rfl) (ih (x.length - (p + wd p)) (by omega) _ rfl e3)
end

section
variable {α : Type} [DecidableEq α]
/-- a dot more ahead of each row that begins with one -/
def dotsL (nl dt : α) : Bool → List α → List α
  | _, [] => []
  | b, c :: r => if b = true ∧ c = dt then dt :: dt :: dotsL nl dt (decide (c = nl)) r else c :: dotsL nl dt (decide (c = nl)) r
end

/-- each end of a row made one -/
def fixL : List Nat → List Nat
  | [] => []
  | [c] => if c = 10 ∨ c = 13 then [13, 10] else [c]
  | c :: d :: r => if c = 13 then (if d = 10 then 13 :: 10 :: fixL r else 13 :: 10 :: fixL (d :: r)) else if c = 10 then 13 :: 10 :: fixL (d :: r) else c :: fixL (d :: r)

theorem fix_plain (c : Nat) (r : List Nat) (h1 : c ≠ 10) (h2 : c ≠ 13) : fixL (c :: r) = c :: fixL r := by
  cases r with
  | nil => simp [fixL, h1, h2]
  | cons d r => simp [fixL, h1, h2]
theorem fix_lf (r : List Nat) : fixL (10 :: r) = 13 :: 10 :: fixL r := by
  cases r with
  | nil => simp [fixL]
  | cons d r => simp [fixL]
theorem fix_crlf (r : List Nat) : fixL (13 :: 10 :: r) = 13 :: 10 :: fixL r := by simp [fixL]
theorem fix_cr (r : List Nat) (h : r.head? ≠ some 10) : fixL (13 :: r) = 13 :: 10 :: fixL r := by
  cases r with
  | nil => simp [fixL]
  | cons d r =>
    have : d ≠ 10 := fun e => h (by rw [e]; rfl)
    simp [fixL, this]

def SE (x : List Nat) (k : Nat) : Option (Nat × Nat) := two x.toArray x.length (findP (eolAt x.toArray x.length) (x.length + 1 - k) k)
theorem eolLen_le {x : List Nat} {p : Nat} (h : p < x.length) : 1 ≤ eolLen x.toArray x.length p ∧ p + eolLen x.toArray x.length p ≤ x.length := by
  unfold eolLen
  split
  · rename_i q; omega
  · omega
theorem findsE (x : List Nat) : Finds codeE x.toArray (SE x) where
  runs := fun k hk => by
    obtain ⟨r, h1, h2⟩ := eSearch (text := x.toArray) (lim := x.length) (s := k) (by simpa using hk)
    exact ⟨20, r, by decide, by simpa using h1, h2⟩
  fits := fun k p q h => by
    unfold SE two at h
    cases hf : findP (eolAt x.toArray x.length) (x.length + 1 - k) k with
    | none => rw [hf] at h; cases h
    | some p' =>
      rw [hf] at h
      simp only [Option.map_some, Option.some.injEq, Prod.mk.injEq] at h
      obtain ⟨rfl, rfl⟩ := h
      obtain ⟨h1, h2, h3, h4⟩ := findP_some hf
      have hp : p' < x.length := by
        unfold eolAt at h1
        simp only [Bool.and_eq_true, decide_eq_true_eq] at h1
        exact h1.1
      have := eolLen_le hp
      refine ⟨h2, by omega, by simp; omega⟩

theorem subE (x : List Nat) : Sub (SE x) [13, 10] x 0 (fixL x) := by
  have key := sub_of (P := eolAt x.toArray x.length) (wd := eolLen x.toArray x.length) (f := fun k => fixL (x.drop k)) (x := x) (repl := [13, 10]) (d := 0) (N := fun k => x.length + 1 - k)
    (by simp [fixL]) ?_ ?_ ?_ (fun k => by omega) x.length 0 (by simp) (Nat.zero_le _)
  · exact key
  · intro k hk hP
    unfold eolAt at hP
    simp only [hk, decide_true, Bool.true_and, Bool.or_eq_false_iff, beq_eq_false_iff_ne] at hP
    rw [drop_get x 0 hk]
    have e : x.toArray.getD k 0 = x.getD k 0 := by simp [Array.getD, List.getD, hk]
    rw [e] at hP
    exact fix_plain _ _ hP.1 hP.2
  · intro k hk hP
    have e : ∀ j, x.toArray.getD j 0 = x.getD j 0 := fun j => by simp [Array.getD_eq_getD_getElem?, List.getD]
    refine ⟨?_, eolLen_le hk⟩
    unfold eolAt at hP
    simp only [hk, decide_true, Bool.true_and, Bool.or_eq_true, beq_iff_eq] at hP
    unfold eolLen
    rw [e] at hP
    rw [e, e]
    rw [drop_get x 0 hk]
    by_cases h13 : x.getD k 0 = 13
    · by_cases h10 : k + 1 < x.length ∧ x.getD (k + 1) 0 = 10
      · rw [if_pos ⟨beq_iff_eq.mpr h13, h10.1, beq_iff_eq.mpr h10.2⟩, h13, drop_get x 0 h10.1, h10.2, fix_crlf]
        rfl
      · rw [if_neg (fun q => h10 ⟨q.2.1, beq_iff_eq.mp q.2.2⟩), h13, fix_cr]
        · rfl
        · intro hh
          apply h10
          by_cases hlt : k + 1 < x.length
          · rw [drop_get x 0 hlt] at hh
            exact ⟨hlt, by simpa using hh⟩
          · rw [List.drop_eq_nil_of_le (by omega)] at hh
            cases hh
    · have h10 : x.getD k 0 = 10 := hP.resolve_right h13
      rw [if_neg (fun q => h13 (beq_iff_eq.mp q.1)), h10, fix_lf]
      rfl
  · intro k hk
    unfold eolAt
    simp
    omega

def SQ (text : Array Nat) (k : Nat) : Option (Nat × Nat) := one (findP (dotAt text text.size) (text.size - k) k)
theorem findsQ (text : Array Nat) (hz : text.size ≤ 1000000) : Finds codeQ text (SQ text) where
  runs := fun k hk => by
    obtain ⟨r, h1, h2⟩ := qSearch (text := text) (lim := text.size) (s := k) hk
    exact ⟨_, r, by omega, h1, h2⟩
  fits := fun k p q h => by
    unfold SQ one at h
    cases hf : findP (dotAt text text.size) (text.size - k) k with
    | none => rw [hf] at h; cases h
    | some p' =>
      rw [hf] at h
      simp only [Option.map_some, Option.some.injEq, Prod.mk.injEq] at h
      obtain ⟨rfl, rfl⟩ := h
      obtain ⟨h1, h2, h3, h4⟩ := findP_some hf
      exact ⟨h2, by omega, by omega⟩

section
variable {α : Type} [DecidableEq α]
theorem subQ {x : List α} {nl dt d : α} {text : Array Nat} (hsz : text.size = x.length) (hnl : ∀ k, k < x.length → (text.getD k 0 == 10) = decide (x.getD k d = nl)) (hdt : ∀ k, k < x.length → (text.getD k 0 == 46) = decide (x.getD k d = dt)) :
    Sub (SQ text) [dt, dt] x 0 (dotsL nl dt true x) := by
  have bol : ∀ k, k < x.length → dotAt text text.size k = ((decide (k = 0) || decide (x.getD (k - 1) d = nl)) && decide (x.getD k d = dt)) := by
    intro k hk
    unfold dotAt
    rw [hsz, hdt k hk, decide_eq_true hk, Bool.true_and]
    congr 1
    by_cases h0 : k = 0
    · simp [h0]
    · rw [hnl (k - 1) (by omega), decide_eq_false h0, show (k == 0) = false from by simpa using h0]
  have key := sub_of (P := dotAt text text.size) (wd := fun _ => 1) (f := fun k => dotsL nl dt (decide (k = 0) || decide (x.getD (k - 1) d = nl)) (x.drop k)) (x := x) (repl := [dt, dt]) (d := d) (N := fun k => text.size - k)
    (by simp [dotsL]) ?_ ?_ ?_ (fun k => by omega) x.length 0 (by simp) (Nat.zero_le _)
  · exact key
  · intro k hk hP
    rw [bol k hk] at hP
    rw [drop_get x d hk, dotsL, if_neg]
    · simp
    · intro q
      rw [q.1, Bool.true_and, decide_eq_false_iff_not] at hP
      exact hP q.2
  · intro k hk hP
    rw [bol k hk, Bool.and_eq_true, decide_eq_true_eq] at hP
    refine ⟨?_, Nat.le_refl _, by omega⟩
    rw [drop_get x d hk, dotsL, if_pos hP]
    simp
  · intro k hk
    unfold dotAt
    rw [hsz]
    simp
    omega
end
theorem subQ_str (x : List Nat) : Sub (SQ x.toArray) [46, 46] x 0 (dotsL 10 46 true x) :=
  subQ (d := 0) (by simp) (fun k hk => by simp [Array.getD_eq_getD_getElem?, hk, List.getD, Bool.beq_eq_decide_eq]) (fun k hk => by simp [Array.getD_eq_getD_getElem?, hk, List.getD, Bool.beq_eq_decide_eq])
theorem subQ_bytes (x : List UInt8) : Sub (SQ (x.toArray.map (·.toNat))) [46, 46] x 0 (dotsL 10 46 true x) := by
  have key : ∀ (c v : UInt8), (c.toNat == v.toNat) = decide (c = v) := by
    intro c v
    by_cases h : c = v
    · simp [h]
    · have : c.toNat ≠ v.toNat := fun e => h (UInt8.toNat_inj.mp e)
      simp [h, this]
  exact subQ (d := 0) (by simp) (fun k hk => by
    have := key (x.getD k 0) 10
    simp [Array.getD_eq_getD_getElem?, hk, List.getD] at this ⊢
    exact this) (fun k hk => by
    have := key (x.getD k 0) 46
    simp [Array.getD_eq_getD_getElem?, hk, List.getD] at this ⊢
    exact this)

theorem dotsL_length {α : Type} [DecidableEq α] (nl dt : α) : ∀ (b : Bool) (x : List α), (dotsL nl dt b x).length ≤ 2 * x.length
  | _, [] => Nat.le_refl _
  | b, c :: r => by
    have := dotsL_length nl dt (decide (c = nl)) r
    unfold dotsL
    split <;> simp <;> omega
theorem fixL_length : ∀ (x : List Nat), (fixL x).length ≤ 2 * x.length
  | [] => Nat.le_refl _
  | [c] => by unfold fixL; split <;> simp
  | c :: d :: r => by
    have h1 := fixL_length r
    have h2 := fixL_length (d :: r)
    simp only [List.length_cons] at h2 ⊢
    unfold fixL
    split
    · split <;> simp <;> omega
    · split <;> simp <;> omega
end Mine
end
section
open PySem PySem.W PyProof.Rows PySem.Calls
namespace Mine
set_option maxRecDepth 100000
namespace IS
theorem kind_nested : builtinKind "issubclass.nested" = none := by decide +kernel
theorem plain_nested : plainId "issubclass.nested" = true := by decide +kernel
theorem args_nested (a b c : Value) : argsOk "issubclass.nested" ⟨[a, b, c], []⟩ := by unfold argsOk; kernel_rfl
theorem ss : isSubtype (.type "str") (.type "str") = pure true := by rw [isSubtype_type]; kernel_rfl
theorem bs : isSubtype (.type "bytes") (.type "str") = pure false := by rw [isSubtype_type]; kernel_rfl
theorem bb : isSubtype (.type "bytes") (.type "bytes") = pure true := by rw [isSubtype_type]; kernel_rfl
theorem tt : isSubtype (.type "tuple") (.type "tuple") = pure true := by rw [isSubtype_type]; kernel_rfl
theorem ty (n : String) (h : typeOf (.type n) = pure (.type "type")) : typeOf (.type n) = pure (.type "type") := h
theorem t1 : typeOf (.type "str") = pure (.type "type") := by kernel_rfl
theorem t2 : typeOf (.type "bytes") = pure (.type "type") := by kernel_rfl
end IS
section
variable {prog : Program} {w : World} {A : Around} {E : Value → Shared → Prop} {s : Shared}
theorem nested_types {X T : String} {b : Bool} {k : Int} {u : Tok} {R : Result → Shared → Prop} (ht : typeOf (.type T) = pure (.type "type")) (hs : isSubtype (.type X) (.type T) = pure b) (h : R (.ok (.ret (.bool b))) s) :
    wpAny (model prog w) A.in1 (Builtin.«issubclass.nested» ⟨[.type X, .type T, .int k u], []⟩)
      (fun fin s' => match fin with | .done f => R (.ok f) s' | .again c' => c'.quiet = true ∧ codeAny (model prog w) A c' R s') (fun e s' => R (.error e) s') s := by
  show wpAny _ _ (typeOf (.type T) >>= fun t => _) _ _ s
  refine wpAny_bind (wpAny_of_eq ht ?_)
  rw [if_pos (by rfl)]
  refine wpAny_bind ?_
  show wpAny _ _ (isSubtype (.type X) (.type T)) _ _ _
  exact wpAny_of_eq hs (wpAny_pure h)
theorem call_nested {X T : String} {b : Bool} {k : Int} {u : Tok} {Q : Value → Shared → Prop} (ht : typeOf (.type T) = pure (.type "type")) (hs : isSubtype (.type X) (.type T) = pure b) (h : Q (.bool b) s) :
    wpAny (model prog w) A (call (.builtin "issubclass.nested") [.type X, .type T, .int k u]) Q E s :=
  call_function_meets (S := fun _ R s => R (.ok (.ret (.bool b))) s) IS.kind_nested IS.plain_nested F.entry_issubclass_nested (IS.args_nested _ _ _) (fun _ _ _ _ _ h => nested_types ht hs h) h

theorem issub_tuple {X : String} {a : Addr} {o : Obj} {n : Nat} {Q : Value → Shared → Prop} (ho : s.heap.get? a = some o) (hc : o.cls = .type "tuple") (hd : o.data = .seq #[.type "str", .type "bytes"] n)
    (hX : (isSubtype (.type X) (.type "str") = pure true) ∨ (isSubtype (.type X) (.type "str") = pure false ∧ isSubtype (.type X) (.type "bytes") = pure true)) (h : Q (.bool true) s) :
    wpAny (model prog w) A (call (.builtin "issubclass") [.type X, .ref a]) Q E s := by
  refine call_function_meets (S := fun _ R s => s.heap.get? a = some o ∧ R (.ok (.ret (.bool true))) s) F.kind_issubclass F.plain_issubclass F.entry_issubclass (F.args_issubclass_2 _ _) ?_ ⟨ho, h⟩
  intro prog w A R s hs
  obtain ⟨ho, h⟩ := hs
  refine issubclass_outer ?_
  have hT : s.TypeIs (.ref a) "tuple" := ⟨o, ho, hc⟩
  show wpAny _ _ (typeOf (.ref a) >>= fun t => _) _ _ s
  refine wpAny_bind (wpAny_typeOf hT ?_)
  rw [if_neg (by simp)]
  refine wpAny_bind ?_
  unfold Builtin.Builtins.unionMembers
  refine wpAny_bind (wpAny_typeOf hT ?_)
  rw [if_neg (by simp)]
  refine wpAny_pure ?_
  refine wpAny_bind (wpAny_isInstance hT IS.tt ?_)
  rw [if_pos rfl]
  dsimp only
  rw [if_neg (by decide)]
  refine wpAny_bind (wpAny_seqItems ho hd ?_)
  show wpAny _ _ (forIn [Value.type "str", Value.type "bytes"].toArray (none, ()) _ >>= _) _ _ _
  rw [List.forIn_toArray, List.forIn_cons]
  rcases hX with h1 | ⟨h1, h2⟩
  · refine wpAny_bind (wpAny_bind (wpAny_bind (call_nested IS.t1 h1 (wpAny_bind (wpAny_truthy_bool ?_)))))
    rw [if_pos rfl]
    refine wpAny_bind (wpAny_pure (wpAny_pure (wpAny_pure ?_)))
    exact wpAny_pure h
  · refine wpAny_bind (wpAny_bind (wpAny_bind (call_nested IS.t1 h1 (wpAny_bind (wpAny_truthy_bool ?_)))))
    rw [if_neg (by simp)]
    refine wpAny_pure ?_
    dsimp only
    rw [List.forIn_cons]
    refine wpAny_bind (wpAny_bind (call_nested IS.t2 h2 (wpAny_bind (wpAny_truthy_bool ?_))))
    rw [if_pos rfl]
    refine wpAny_bind (wpAny_pure (wpAny_pure (wpAny_pure ?_)))
    exact wpAny_pure h
end
end Mine
end
section
open PySem PySem.W PyProof.Rows PySem.Calls PySem.Builtin PySem.Builtin.Str
namespace Mine
set_option maxRecDepth 100000

/-- a cut by two bounds -/
def cutS {α : Type} (l : List α) (lo hi : Option Int) : List α := (l.drop (lo.elim 0 (clipAt l.length))).take (hi.elim l.length (clipAt l.length) - lo.elim 0 (clipAt l.length))
section
variable {α : Type} (l : List α)
theorem cut_hi (k : Nat) : cutS l none (some (k : Int)) = l.take k := by
  unfold cutS
  simp only [Option.elim, clipAt_nat, List.drop_zero, Nat.sub_zero]
  by_cases h : k ≤ l.length
  · rw [Nat.min_eq_left h]
  · rw [Nat.min_eq_right (by omega), List.take_length, List.take_of_length_le (by omega)]
theorem cut_lo (k : Nat) : cutS l (some (k : Int)) none = l.drop k := by
  unfold cutS
  simp only [Option.elim, clipAt_nat]
  by_cases h : k ≤ l.length
  · rw [Nat.min_eq_left h, List.take_of_length_le (by simp)]
  · rw [Nat.min_eq_right (by omega), List.drop_eq_nil_of_le (Nat.le_refl _), List.drop_eq_nil_of_le (by omega)]
    simp
theorem cut_mid (a b : Nat) : cutS l (some (a : Int)) (some (b : Int)) = (l.drop a).take (b - a) := by
  unfold cutS
  simp only [Option.elim, clipAt_nat]
  by_cases h : a ≤ l.length
  · rw [Nat.min_eq_left h]
    by_cases hb : b ≤ l.length
    · rw [Nat.min_eq_left hb]
    · rw [Nat.min_eq_right (Nat.le_of_lt (Nat.lt_of_not_le hb)), List.take_of_length_le (by simp), List.take_of_length_le (by simp; omega)]
  · have hm : Nat.min a l.length = l.length := Nat.min_eq_right (by omega)
    rw [show Min.min a l.length = l.length from hm, List.drop_eq_nil_of_le (Nat.le_refl _), List.drop_eq_nil_of_le (show l.length ≤ a by omega)]
    simp
theorem cut_last : cutS l (some (-1)) none = l.drop (l.length - 1) := by
  unfold cutS
  have h := clipAt_neg l.length 1 (Nat.le_refl _)
  simp only [Option.elim]
  rw [show (-1 : Int) = -((1 : Nat) : Int) from rfl, h, List.take_of_length_le (by simp)]
end

theorem txt_slice (l : List Nat) (lo hi : Option Int) : Txt.slice ⟨l.toArray⟩ lo hi = ⟨(cutS l lo hi).toArray⟩ := by
  have hn : (⟨l.toArray⟩ : PySem.Str).length = l.length := by simp [PySem.Str.length]
  have e : strSliceIndices lo hi 1 l.length = (List.range (hi.elim l.length (clipAt l.length) - lo.elim 0 (clipAt l.length))).map (lo.elim 0 (clipAt l.length) + ·) := by
    rw [← sliceRange_one]
    cases lo <;> cases hi <;> simp [strSliceIndices, clipAt_cast]
  unfold Txt.slice
  rw [hn, e]
  have e2 : (((List.range (hi.elim l.length (clipAt l.length) - lo.elim 0 (clipAt l.length))).map (lo.elim 0 (clipAt l.length) + ·)).filterMap (l.toArray[·]?)) = cutS l lo hi := by
    rw [pick_run]
    rfl
  split
  · rename_i h
    simp only [Bool.and_eq_true, beq_iff_eq, List.length_map, List.length_range] at h
    have hle : hi.elim l.length (clipAt l.length) ≤ l.length := by
      cases hi with
      | none => exact Nat.le_refl _
      | some i => have := clipAt_cast l.length i; simp only [Option.elim]; omega
    have h0 : lo.elim 0 (clipAt l.length) = 0 ∨ l.length = 0 := by omega
    unfold cutS
    rcases h0 with h0 | h0
    · rw [h0] at h ⊢
      rw [h.2, List.drop_zero, List.take_length]
    · have : l = [] := List.length_eq_zero_iff.mp h0
      subst this
      simp
  · exact congrArg _ (congrArg _ e2)

section
variable {prog : Program} {w : World} {A : Around} {E : Value → Shared → Prop} {s : Shared} {value slice : PySem.Expr} {t : Tok} {h₀ : Heap} {L : Addr} {m : PySem.Str → Option Value} {news : List (Addr × Obj)} {Q : Value → Shared → Prop}
theorem slice_S {l r : List Nat} {lo hi : Value} {loI hiI : Option Int} (hF : Fr h₀ L s.heap m) (hN : News h₀ L s.heap news) (hl : IsPart lo loI) (hu : IsPart hi hiI) (hz : l.length ≤ 10000000) (e : cutS l loI hiI = r)
    (h : ∀ h' t' k, Fr h₀ L h' m → News h₀ L h' news → Q (.str ⟨r.toArray⟩ t') { s with heap := h', toks := k })
    (hs : subscripted slice false (.str ⟨l.toArray⟩ t) (.ref s.heap.objs.size) = operate [.ref s.heap.objs.size, .str ⟨l.toArray⟩ t] (getItem (.str ⟨l.toArray⟩ t) (.ref s.heap.objs.size)) := by with_unfolding_all rfl)
    (ht : ∀ r, letTemporaryGo value (.str ⟨l.toArray⟩ t) r = pure () := by intro _; with_unfolding_all rfl) :
    wpAny (model prog w) A (subscriptTail value slice (.str ⟨l.toArray⟩ t) (.ref s.heap.objs.size)) Q E { s with heap := s.heap.push { cls := .type "slice", data := .fields #[lo, hi, .none] } } := by
  have hsz : (⟨l.toArray⟩ : PySem.Str).length ≤ sizeLine := by rw [sizeLine_eq]; show l.toArray.size ≤ _; rw [List.size_toArray]; omega
  subst e
  cases hl <;> cases hu
  · exact slice_strN_nn hF hN (fun h' t' k a b => by rw [txt_slice]; exact h h' t' k a b) hs ht hsz
  · exact slice_strN_ns hF hN (fun h' t' k a b => by rw [txt_slice]; exact h h' t' k a b) hs ht hsz
  · exact slice_strN_sn hF hN (fun h' t' k a b => by rw [txt_slice]; exact h h' t' k a b) hs ht hsz
  · exact slice_strN_ss hF hN (fun h' t' k a b => by rw [txt_slice]; exact h h' t' k a b) hs ht hsz
theorem slice_B {l r : List UInt8} {lo hi : Value} {loI hiI : Option Int} (hF : Fr h₀ L s.heap m) (hN : News h₀ L s.heap news) (hl : IsPart lo loI) (hu : IsPart hi hiI) (hz : l.length ≤ 10000000) (e : cutS l loI hiI = r)
    (h : ∀ h' t' k, Fr h₀ L h' m → News h₀ L h' news → Q (.bytes r.toArray t') { s with heap := h', toks := k })
    (hs : subscripted slice false (.bytes l.toArray t) (.ref s.heap.objs.size) = operate [.ref s.heap.objs.size, .bytes l.toArray t] (getItem (.bytes l.toArray t) (.ref s.heap.objs.size)) := by with_unfolding_all rfl)
    (ht : ∀ r, letTemporaryGo value (.bytes l.toArray t) r = pure () := by intro _; with_unfolding_all rfl) :
    wpAny (model prog w) A (subscriptTail value slice (.bytes l.toArray t) (.ref s.heap.objs.size)) Q E { s with heap := s.heap.push { cls := .type "slice", data := .fields #[lo, hi, .none] } } := by
  refine KBc.slice_K hF hN rfl hl hu (by rw [KBw.ints_length]; simp; omega) (fun h' t' k a b _ => ?_) hs ht
  have e2 : KBy.picked l.toArray loI hiI = r.toArray := by
    rw [KBc.picked_eq, ← e]
    simp only [List.size_toArray]
    rfl
  rw [e2]
  exact h h' t' k a b
end

theorem len_S (l : List Nat) : (⟨l.toArray⟩ : PySem.Str).length = l.length := by simp [PySem.Str.length]
theorem app_S (a b : List Nat) : (⟨a.toArray⟩ : PySem.Str) ++ ⟨b.toArray⟩ = ⟨(a ++ b).toArray⟩ := by
  show PySem.Str.append _ _ = _
  simp [PySem.Str.append]
theorem noI_bytes_add : typeLookup (.type "bytes") (dunderI "add") = pure none := by rw [typeLookup_type, builtinLookup_eq_fast]; kernel_rfl
section
variable {prog : Program} {w : World} {A : Around} {E : Value → Shared → Prop} {s : Shared} {t u : Tok} {h₀ : Heap} {L : Addr} {m : PySem.Str → Option Value} {news : List (Addr × Obj)} {Q : Value → Shared → Prop}
theorem eq_S {a b : List Nat} {x y : PySem.Str} (hx : x = ⟨a.toArray⟩) (hy : y = ⟨b.toArray⟩) (h : Q (.bool (decide (a = b))) s) : wpAny (model prog w) A (compareOp .Eq (.str x t) (.str y u)) Q E s := by
  subst hx hy
  refine PySem.P.eq_str ?_
  have e : ((⟨a.toArray⟩ : PySem.Str).cps.toList == (⟨b.toArray⟩ : PySem.Str).cps.toList) = decide (a = b) := by simp [Bool.beq_eq_decide_eq]
  rw [e]; exact h
theorem ne_S {a b : List Nat} {x y : PySem.Str} (hx : x = ⟨a.toArray⟩) (hy : y = ⟨b.toArray⟩) (h : Q (.bool (decide (a ≠ b))) s) : wpAny (model prog w) A (compareOp .NotEq (.str x t) (.str y u)) Q E s := by
  subst hx hy
  refine PySem.P.ne_str ?_
  have e : ((⟨a.toArray⟩ : PySem.Str).cps.toList != (⟨b.toArray⟩ : PySem.Str).cps.toList) = decide (a ≠ b) := by simp [bne, Bool.beq_eq_decide_eq]
  rw [e]; exact h
theorem eq_B {a b : List UInt8} {x y : Array UInt8} (hx : x = a.toArray) (hy : y = b.toArray) (h : Q (.bool (decide (a = b))) s) : wpAny (model prog w) A (compareOp .Eq (.bytes x t) (.bytes y u)) Q E s := by
  subst hx hy
  refine eq_bytes ?_
  have e : (a.toArray.toList == b.toArray.toList) = decide (a = b) := by simp [Bool.beq_eq_decide_eq]
  rw [e]; exact h
theorem ne_B {a b : List UInt8} {x y : Array UInt8} (hx : x = a.toArray) (hy : y = b.toArray) (h : Q (.bool (decide (a ≠ b))) s) : wpAny (model prog w) A (compareOp .NotEq (.bytes x t) (.bytes y u)) Q E s := by
  subst hx hy
  refine ne_bytes ?_
  have e : (a.toArray.toList != b.toArray.toList) = decide (a ≠ b) := by simp [bne, Bool.beq_eq_decide_eq]
  rw [e]; exact h
theorem truthy_S {a : List Nat} {Q : Bool → Shared → Prop} (hz : a.length ≤ 10000000) (h : ∀ k, Q (decide (a ≠ [])) { s with toks := k }) : wpAny (model prog w) A (truthy (.str ⟨a.toArray⟩ t)) Q E s := by
  refine SBL.truthy (by rw [len_S]; omega) ?_
  have e : (((⟨a.toArray⟩ : PySem.Str).length : Int) != 0) = decide (a ≠ []) := by rw [len_S]; cases a <;> simp [bne]; omega
  rw [e]; exact h _
theorem truthy_B {a : List UInt8} {Q : Bool → Shared → Prop} (hz : a.length ≤ 10000000) (h : ∀ k, Q (decide (a ≠ [])) { s with toks := k }) : wpAny (model prog w) A (truthy (.bytes a.toArray t)) Q E s := by
  refine truthy_bytes (by simp; omega) ?_
  have e : ((a.toArray.size : Int) != 0) = decide (a ≠ []) := by cases a <;> simp [bne]; omega
  rw [e]; exact h _
theorem add_S {a b : List Nat} {x y : PySem.Str} (hx : x = ⟨a.toArray⟩) (hy : y = ⟨b.toArray⟩) (hz : a.length + b.length ≤ 10000000) (h : ∀ t' k, Q (.str ⟨(a ++ b).toArray⟩ t') { s with toks := k }) : wpAny (model prog w) A (binaryOp .Add (.str x t) (.str y u)) Q E s := by
  subst hx hy
  exact PyProof.Rows.add_str (fun t' k => by rw [app_S]; exact h t' k) (by rw [len_S, len_S, sizeLine_eq]; omega)
theorem iadd_S {a b : List Nat} {x y : PySem.Str} (hx : x = ⟨a.toArray⟩) (hy : y = ⟨b.toArray⟩) (hz : a.length + b.length ≤ 10000000) (h : ∀ t' k, Q (.str ⟨(a ++ b).toArray⟩ t') { s with toks := k }) : wpAny (model prog w) A (inplaceOp .Add (.str x t) (.str y u)) Q E s := by
  subst hx hy
  exact PyProof.Rows.iadd_str (fun t' k => by rw [app_S]; exact h t' k) (by rw [len_S, len_S, sizeLine_eq]; omega)
theorem add_B {a b : List UInt8} {x y : Array UInt8} (hx : x = a.toArray) (hy : y = b.toArray) (hz : a.length + b.length ≤ 10000000) (h : ∀ t' k, Q (.bytes (a ++ b).toArray t') { s with toks := k }) : wpAny (model prog w) A (binaryOp .Add (.bytes x t) (.bytes y u)) Q E s := by
  subst hx hy
  refine KBy.add_bytes (by simp; omega) fun t' k => ?_
  rw [List.append_toArray]
  exact h t' k
theorem iadd_B {a b : List UInt8} {x y : Array UInt8} (hx : x = a.toArray) (hy : y = b.toArray) (hz : a.length + b.length ≤ 10000000) (h : ∀ t' k, Q (.bytes (a ++ b).toArray t') { s with toks := k }) : wpAny (model prog w) A (inplaceOp .Add (.bytes x t) (.bytes y u)) Q E s := by
  subst hx hy
  refine iconcat_gives (typeIs_bytes s _ t) (typeIs_bytes s _ u) noI_bytes_add KBy.noFill_bytes_add KBy.seq_bytes_add FB.slot_bytes_add FB.entry_bytes_add (FB.args_bytes_add_2 _ _) (KBy.gives_bytes_add (KBy.tooLong_not (by simp; omega))) ?_
  by_cases hb : a.toArray.isEmpty = true
  · rw [if_pos hb]
    have e : a = [] := by simpa using hb
    have h' := h u s.toks
    rw [e, List.nil_append] at h'
    exact h'
  · rw [if_neg hb]
    by_cases hc : b.toArray.isEmpty = true
    · rw [if_pos hc]
      have e : b = [] := by simpa using hc
      have h' := h t s.toks
      rw [e, List.append_nil] at h'
      exact h'
    · rw [if_neg hc]
      refine ⟨by rw [Array.size_append, sizeLine_eq]; simp; omega, ?_⟩
      rw [List.append_toArray]
      exact h _ _
theorem starts_S {l : List Nat} {c : Nat} {y : PySem.Str} (hy : y = ⟨[c].toArray⟩) (h : Q (.bool (l.head? == some c)) s) : wpAny (model prog w) A (call (.builtin "str.startswith") [.str ⟨l.toArray⟩ t, .str y u]) Q E s := by
  subst hy
  refine SC.startswith ?_
  have e : Txt.startswith ⟨l.toArray⟩ ⟨[c].toArray⟩ = (l.head? == some c) := by
    unfold Txt.startswith
    rw [StrLaws.subAt_eq, len_S]
    show (decide (0 + 1 ≤ l.length) && (((l.toArray.toList.drop 0).take 1) == [c])) = _
    cases l with
    | nil => rfl
    | cons a r => by_cases hc : a = c <;> simp [hc]
  rw [e]; exact h
theorem ends_S {l : List Nat} {c : Nat} {y : PySem.Str} (hy : y = ⟨[c].toArray⟩) (h : Q (.bool (l.getLast? == some c)) s) : wpAny (model prog w) A (call (.builtin "str.endswith") [.str ⟨l.toArray⟩ t, .str y u]) Q E s := by
  subst hy
  refine SC.endswith ?_
  have e : Txt.endswith ⟨l.toArray⟩ ⟨[c].toArray⟩ = (l.getLast? == some c) := by
    unfold Txt.endswith
    rw [StrLaws.subAt_eq, len_S]
    show (decide (0 + 1 ≤ l.length) && (((l.toArray.toList.drop (l.length - 1)).take 1) == [c])) = _
    rcases List.eq_nil_or_concat l with rfl | ⟨r, a, rfl⟩
    · rfl
    · rw [List.concat_eq_append]
      by_cases hc : a = c <;> simp [hc]
  rw [e]; exact h
theorem join_S {sep : List Nat} {y : PySem.Str} {D : Addr} {vs : List Value} {cs : List (List Nat)} {n : Nat} (hy : y = ⟨sep.toArray⟩) (hl : s.heap.get? D = some (lstObj vs n)) (hv : All2 SItem vs cs) (hz : (cs.map (·.length)).sum + cs.length * sep.length ≤ 10000000)
    (h : ∀ t' k, Q (.str ⟨(joinL sep cs).toArray⟩ t') { s with toks := k }) : wpAny (model prog w) A (call (.builtin "str.join") [.str y t, .ref D]) Q E s := by
  subst hy
  refine join_list (isList_lst hl) (ys := cs.map fun c => (⟨c.toArray⟩ : PySem.Str)) (strsOf hv) ?_ fun t' k => ?_
  · have e1 : ((cs.map fun c => (⟨c.toArray⟩ : PySem.Str)).map (·.length)) = cs.map (·.length) := by
      rw [List.map_map]
      exact List.map_congr_left fun a _ => List.size_toArray
    rw [e1, len_S, List.length_map]
    omega
  · rw [txt_join]; exact h t' k
end

section
open StrLaws
variable {L : List Nat} {c : Nat} {r : List Nat}
theorem at_S (k : Nat) : At ⟨L.toArray⟩ ⟨(c :: r).toArray⟩ L.length k ↔ (L.drop k).take (r.length + 1) = c :: r := by
  unfold At
  rw [subAt_eq, len_S]
  show (k + (r.length + 1) ≤ L.length ∧ ((L.toArray.toList.drop k).take (r.length + 1) == c :: r) = true) ↔ _
  constructor
  · rintro ⟨_, h⟩
    simpa using h
  · intro h
    refine ⟨?_, by simpa using h⟩
    have := congrArg List.length h
    simp at this
    omega
theorem sub_S (a b : Nat) : strSub ⟨L.toArray⟩ a b = ⟨((L.drop a).take (b - a)).toArray⟩ := by
  unfold strSub
  congr 1
  apply Array.toList_inj.mp
  simp
theorem parts_rows (cuts : List Nat) (f : Nat) : ∀ (rows : List (List Nat)) (a : Nat) (cuts : List Nat), rows ≠ [] → (∀ p ∈ rows, c ∉ p) → L.drop a = joinL (c :: r) rows → ChainG ⟨L.toArray⟩ ⟨(c :: r).toArray⟩ L.length a cuts f → (∀ k, f ≤ k → ¬ At ⟨L.toArray⟩ ⟨(c :: r).toArray⟩ L.length k) →
    partsFrom ⟨L.toArray⟩ (r.length + 1) a cuts = rows.map fun p => ⟨p.toArray⟩
  | [], _, _, h, _, _, _, _ => absurd rfl h
  | [p], a, cuts, _, hf, hd, hC, hn => by
    have hd' : L.drop a = p := by rw [hd]; simp [joinL]
    have no : ∀ k, a ≤ k → ¬ At ⟨L.toArray⟩ ⟨(c :: r).toArray⟩ L.length k := by
      intro k hk hA
      rw [at_S] at hA
      have e : L.drop k = p.drop (k - a) := by rw [← hd', List.drop_drop]; congr 1; omega
      rw [e] at hA
      have hm : c ∈ (p.drop (k - a)).take (r.length + 1) := by rw [hA]; exact List.mem_cons_self
      exact hf p (.head _) (List.mem_of_mem_drop (List.mem_of_mem_take hm))
    cases cuts with
    | nil =>
      show [strSub ⟨L.toArray⟩ a (⟨L.toArray⟩ : PySem.Str).length] = _
      rw [sub_S, len_S, hd', List.take_of_length_le]
      · rfl
      · rw [← hd']; simp
    | cons d cs => exact absurd hC.2.1 (no d hC.1)
  | p :: q :: rest, a, cuts, _, hf, hd, hC, hn => by
    have hd' : L.drop a = p ++ (c :: r) ++ joinL (c :: r) (q :: rest) := by rw [hd, joinL_cons _ _ (by simp)]
    have hyes : At ⟨L.toArray⟩ ⟨(c :: r).toArray⟩ L.length (a + p.length) := by
      rw [at_S, ← List.drop_drop, hd', List.append_assoc, List.drop_left, List.take_left']
      simp
    have no : ∀ k, a ≤ k → k < a + p.length → ¬ At ⟨L.toArray⟩ ⟨(c :: r).toArray⟩ L.length k := by
      intro k hk hk2 hA
      rw [at_S] at hA
      have e : L.drop k = p.drop (k - a) ++ ((c :: r) ++ joinL (c :: r) (q :: rest)) := by
        have : L.drop k = (L.drop a).drop (k - a) := by rw [List.drop_drop]; congr 1; omega
        rw [this, hd', List.append_assoc, List.drop_append_of_le_length (by omega)]
      rw [e] at hA
      have hlt : k - a < p.length := by omega
      rw [List.drop_eq_getElem_cons hlt, List.cons_append, List.take_succ_cons] at hA
      have h1 := (List.cons.inj hA).1
      exact hf p (.head _) (h1 ▸ List.getElem_mem _)
    cases cuts with
    | nil =>
      have e : f = a := hC
      exact absurd hyes (hn _ (by omega))
    | cons d cs =>
      obtain ⟨c1, c2, c3, c4⟩ := hC
      have ed : d = a + p.length := by
        rcases Nat.lt_trichotomy d (a + p.length) with h | h | h
        · exact absurd c2 (no d c1 h)
        · exact h
        · exact absurd hyes (c3 _ (by omega) h)
      subst ed
      have ih := parts_rows cuts f (q :: rest) (a + p.length + (r.length + 1)) cs (by simp) (fun p' hp' => hf p' (.tail _ hp')) ?_ ?_ hn
      · show strSub ⟨L.toArray⟩ a (a + p.length) :: partsFrom ⟨L.toArray⟩ (r.length + 1) (a + p.length + (r.length + 1)) cs = _
        rw [ih, sub_S, hd']
        have e : a + p.length - a = p.length := by omega
        rw [e, List.append_assoc, List.take_left]
        rfl
      · have e : L.drop (a + p.length + (r.length + 1)) = (L.drop a).drop (p.length + (r.length + 1)) := by rw [List.drop_drop]; congr 1; omega
        rw [e, hd', List.drop_left']
        simp
      · have e : (⟨(c :: r).toArray⟩ : PySem.Str).length = r.length + 1 := by rw [len_S]; rfl
        rw [e] at c4
        exact c4

theorem split_rows {rows : List (List Nat)} (hne : rows ≠ []) (hfree : ∀ p ∈ rows, c ∉ p) (hk : ∀ y ∈ c :: r, y < 256) (hL : L = joinL (c :: r) rows) :
    Txt.split ⟨L.toArray⟩ ⟨(c :: r).toArray⟩ = rows.map fun p => ⟨p.toArray⟩ := by
  have hw : (⟨(c :: r).toArray⟩ : PySem.Str).length = r.length + 1 := by rw [len_S]; rfl
  obtain ⟨f, hG, hn⟩ := occ_tight ⟨L.toArray⟩ ⟨(c :: r).toArray⟩ (by rw [hw]; omega)
  rw [len_S] at hG hn
  have key := parts_rows (L := L) [] f rows 0 _ hne hfree (by rw [List.drop_zero, hL]) hG hn
  have kind : Str.strKind ⟨(c :: r).toArray⟩ = 1 := by
    unfold Str.strKind
    rw [if_pos]
    rw [← Array.all_toList, List.all_eq_true]
    intro y hy
    simpa using hk y (by simpa using hy)
  have kind1 : ∀ x : PySem.Str, 1 ≤ Str.strKind x := by
    intro x
    unfold Str.strKind
    split
    · exact Nat.le_refl _
    · split <;> omega
  have whole : (⟨L.toArray⟩ : PySem.Str) = strSub ⟨L.toArray⟩ 0 L.length := by
    have := sub_whole ⟨L.toArray⟩
    rw [len_S] at this
    exact this.symm
  unfold Txt.split
  rw [len_S]
  split
  · rename_i h
    rw [kind, Bool.or_eq_true, decide_eq_true_eq, decide_eq_true_eq] at h
    rcases h with h | h
    · rw [hw] at h
      cases rows with
      | nil => exact absurd rfl hne
      | cons p rest =>
        cases rest with
        | nil => rw [hL]; simp [joinL]
        | cons q rest =>
          rw [hL, joinL_cons _ _ (by simp)] at h
          simp at h
          omega
    · have := kind1 ⟨L.toArray⟩
      omega
  · split
    · rename_i he
      rw [List.isEmpty_iff.mp he] at key
      rw [← key]
      show [(⟨L.toArray⟩ : PySem.Str)] = [strSub ⟨L.toArray⟩ 0 (⟨L.toArray⟩ : PySem.Str).length]
      rw [len_S, ← whole]
    · rw [partsBetween_eq, hw, key]
end

section
variable {prog : Program} {w : World} {A : Around} {E : Value → Shared → Prop} {s : Shared} {t u : Tok} {h₀ : Heap} {L : Addr} {m : PySem.Str → Option Value} {news : List (Addr × Obj)} {Q : Value → Shared → Prop}
theorem all2_of_strs : ∀ {vs : List Value} {ys : List PySem.Str} {cs : List (List Nat)}, StrsAre vs ys → ys = cs.map (fun c => (⟨c.toArray⟩ : PySem.Str)) → All2 SItem vs cs
  | _, _, cs, .nil, e => by
    cases cs with
    | nil => exact .nil
    | cons c cs => cases e
  | _, _, cs, .cons y t hv, e => by
    cases cs with
    | nil => cases e
    | cons c cs =>
      rw [List.map_cons] at e
      obtain ⟨e1, e2⟩ := List.cons.inj e
      exact .cons ⟨t, by rw [e1]⟩ (all2_of_strs hv e2)
theorem split_S {l : List Nat} {y : PySem.Str} {sep : List Nat} {c : Nat} {r : List Nat} {rows : List (List Nat)} (hF : Fr h₀ L s.heap m) (hN : News h₀ L s.heap news) (hy : y = ⟨sep.toArray⟩) (hs : sep = c :: r) (hk : ∀ z ∈ sep, z < 256) (hz : l.length ≤ 10000000)
    (hl : l = joinL sep rows) (hne : rows ≠ []) (hfree : ∀ p ∈ rows, c ∉ p)
    (h : ∀ D vs h' k, All2 SItem vs rows → Fr h₀ L h' m → News h₀ L h' ((D, W.listOf vs.toArray 0) :: news) → (∀ p ∈ news, p.1 < D) → Q (.ref D) { s with heap := h', toks := k }) :
    wpAny (model prog w) A (call (.builtin "str.split") [.str ⟨l.toArray⟩ t, .str y u]) Q E s := by
  subst hy hs
  refine KSpl.split1 hF hN (by rw [len_S]; rfl) (fun D lst h' k e1 e2 F' N' l1 => ?_) (by rw [len_S, sizeLine_eq]; omega)
  rw [split_rows hne hfree hk hl] at e1
  exact h D _ h' k (all2_of_strs e2 e1) F' N' l1
end
end Mine
end
section
local macro_rules | `(tactic| walk_at $s:str) => `(tactic| k_extra $s)
section
open PySem PySem.W PyProof.Rows PySem.Calls
namespace Mine
theorem kf_fn1 : PySem.Challenge.rw_ik0040_01 = PySem.Challenge.rw_ik0040_01 ∧ hd.heap_39 = hd.heap_39 := by
  k_with_none
  k_with "call builtin:issubclass" => (k_here; refine' issub_tuple ?qba0_ho ?qba0_hc ?qba0_hd ?qba0_hX ?_; (case qba0_ho => (refine' News.get ?qba0_nn ?qba0_mm; (case qba0_nn => k_asm); (case qba0_mm => k_mem))); (case qba0_hc => exact rfl); (case qba0_hd => exact rfl); (case qba0_hX => first | exact .inl IS.ss | exact .inr ⟨IS.bs, IS.bb⟩))
  k_with "call type:type" => (k_here; (with_reducible show wpAny _ _ (call _ [Value.bytes _ _]) _ _ _); refine call_type_of (Tx := "bytes") rfl (by decide +kernel) ?_)
  k_fill
  exact ⟨rfl, rfl⟩
section
variable (w : World) (mean : ExcName → Option Value) (mg mb : Str → Option Value)
set_option maxRecDepth 100000
set_option maxHeartbeats 8000000
theorem fspath_str (x : Str) (t : Tok) : Spec w mean mg mb 147 [.str x t] 1 8 (fun _ => True) (fun _ _ v => v = .str x t) := by
  refine' spec_of [(Str.ofString "path", .str x t)] ?ho ?hcd ?hbind ?hloc ?c1 ?c2 ?c3 ?c4 ?_
  case ho => k_is
  case hcd => k_is
  case hbind => exact rfl
  case c1 => decide
  case hloc => exact rfl
  case c2 => exact rfl
  case c3 => exact rfl
  case c4 => exact rfl
  intro A h₀ L s hR X T hp F N
  (try dsimp only); (try k_fold)
  k_steps
  all_goals (first | (dsimp only; k_unfold) | k_unfold)
  all_goals (refine Back.ret (by assumption) ?_)
  all_goals exact rfl
theorem getsep_str (x : Str) (t : Tok) : Spec w mean mg mb 161 [.str x t] 1 8 (fun _ => True) (fun _ _ v => ∃ t', v = .str (Str.ofString "/") t') := by
  refine' spec_of [(Str.ofString "path", .str x t)] ?ho ?hcd ?hbind ?hloc ?c1 ?c2 ?c3 ?c4 ?_
  case ho => k_is
  case hcd => k_is
  case hbind => exact rfl
  case c1 => decide
  case hloc => exact rfl
  case c2 => exact rfl
  case c3 => exact rfl
  case c4 => exact rfl
  intro A h₀ L s hR X T hp F N
  (try dsimp only); (try k_fold)
  k_steps
  all_goals (first | (dsimp only; k_unfold) | k_unfold)
  all_goals (refine Back.ret (by assumption) ?_)
  all_goals exact ⟨_, rfl⟩
theorem fspath_bytes (x : Array UInt8) (t : Tok) : Spec w mean mg mb 147 [.bytes x t] 1 8 (fun _ => True) (fun _ _ v => v = .bytes x t) := by
  refine' spec_of [(Str.ofString "path", .bytes x t)] ?ho ?hcd ?hbind ?hloc ?c1 ?c2 ?c3 ?c4 ?_
  case ho => k_is
  case hcd => k_is
  case hbind => exact rfl
  case c1 => decide
  case hloc => exact rfl
  case c2 => exact rfl
  case c3 => exact rfl
  case c4 => exact rfl
  intro A h₀ L s hR X T hp F N
  (try dsimp only); (try k_fold)
  k_steps
  all_goals (first | (dsimp only; k_unfold) | k_unfold)
  all_goals (refine Back.ret (by assumption) ?_)
  all_goals exact rfl
theorem getsep_bytes (x : Array UInt8) (t : Tok) : Spec w mean mg mb 161 [.bytes x t] 1 8 (fun _ => True) (fun _ _ v => ∃ t', v = .bytes #[47] t') := by
  refine' spec_of [(Str.ofString "path", .bytes x t)] ?ho ?hcd ?hbind ?hloc ?c1 ?c2 ?c3 ?c4 ?_
  case ho => k_is
  case hcd => k_is
  case hbind => exact rfl
  case c1 => decide
  case hloc => exact rfl
  case c2 => exact rfl
  case c3 => exact rfl
  case c4 => exact rfl
  intro A h₀ L s hR X T hp F N
  (try dsimp only); (try k_fold)
  k_steps
  all_goals (first | (dsimp only; k_unfold) | k_unfold)
  all_goals (refine Back.ret (by assumption) ?_)
  all_goals exact ⟨_, rfl⟩
end
end Mine
end
section
open PySem PySem.W PyProof.Rows PySem.Calls
namespace Mine
theorem kf_fn2 : PySem.Challenge.rw_ik0040_01 = PySem.Challenge.rw_ik0040_01 ∧ hd.heap_39 = hd.heap_39 := by
  k_with_none
  k_with "subscriptTail Name Slice str ref" => (k_here; k_dflt (refine' slice_S (s := ⟨_, _, _, _, _⟩) ?qbb0_F ?qbb0_N ?qbb0_hl ?qbb0_hu ?qbb0_hz ?qbb0_e ?_; (case qbb0_F => k_asm); (case qbb0_N => k_asm); (case qbb0_hl => constructor); (case qbb0_hu => constructor); (case qbb0_hz => first | omega | ((try simp only [List.length_take, List.length_drop, List.length_append, List.length_cons, List.length_nil]); omega)); (case qbb0_e => first | with_reducible exact cut_h1 _ | with_reducible exact cut_h2 _ | with_reducible exact cut_l1 _ | with_reducible exact cut_l2 _ | with_reducible exact cut_12 _ | with_reducible exact cut_23 _ | with_reducible exact cut_m1 _); (intro h' t' k' F' N'; try k_sweep)))
  k_with "subscriptTail Name Slice bytes ref" => (k_here; k_dflt (refine' slice_B (s := ⟨_, _, _, _, _⟩) ?qbb1_F ?qbb1_N ?qbb1_hl ?qbb1_hu ?qbb1_hz ?qbb1_e ?_; (case qbb1_F => k_asm); (case qbb1_N => k_asm); (case qbb1_hl => constructor); (case qbb1_hu => constructor); (case qbb1_hz => first | omega | ((try simp only [List.length_take, List.length_drop, List.length_append, List.length_cons, List.length_nil]); omega)); (case qbb1_e => first | with_reducible exact cut_h1 _ | with_reducible exact cut_h2 _ | with_reducible exact cut_l1 _ | with_reducible exact cut_l2 _ | with_reducible exact cut_12 _ | with_reducible exact cut_23 _ | with_reducible exact cut_m1 _); (intro h' t' k' F' N'; try k_sweep)))
  k_with "compareOp Eq str str" => (k_here; k_dflt (refine' eq_S ?qbb2_hx ?qbb2_hy ?_; (case qbb2_hx => first | with_reducible exact lit_slash | with_reducible exact lit_dot | with_reducible exact lit_dd | with_reducible exact lit_empty | with_reducible exact lit_nl | with_reducible exact lit_crlf | with_reducible exact lit_cr | with_reducible exact rfl); (case qbb2_hy => first | with_reducible exact lit_slash | with_reducible exact lit_dot | with_reducible exact lit_dd | with_reducible exact lit_empty | with_reducible exact lit_nl | with_reducible exact lit_crlf | with_reducible exact lit_cr | with_reducible exact rfl)))
  k_with "compareOp Eq bytes bytes" => (k_here; k_dflt (refine' eq_B ?qbb3_hx ?qbb3_hy ?_; (case qbb3_hx => first | with_reducible exact blit_slash | with_reducible exact blit_dot | with_reducible exact blit_dd | with_reducible exact blit_empty | with_reducible exact blit_nl | with_reducible exact rfl); (case qbb3_hy => first | with_reducible exact blit_slash | with_reducible exact blit_dot | with_reducible exact blit_dd | with_reducible exact blit_empty | with_reducible exact blit_nl | with_reducible exact rfl)))
  k_with "compareOp NotEq str str" => (k_here; k_dflt (refine' ne_S ?qbb4_hx ?qbb4_hy ?_; (case qbb4_hx => first | with_reducible exact lit_slash | with_reducible exact lit_dot | with_reducible exact lit_dd | with_reducible exact lit_empty | with_reducible exact lit_nl | with_reducible exact lit_crlf | with_reducible exact lit_cr | with_reducible exact rfl); (case qbb4_hy => first | with_reducible exact lit_slash | with_reducible exact lit_dot | with_reducible exact lit_dd | with_reducible exact lit_empty | with_reducible exact lit_nl | with_reducible exact lit_crlf | with_reducible exact lit_cr | with_reducible exact rfl)))
  k_with "compareOp NotEq bytes bytes" => (k_here; k_dflt (refine' ne_B ?qbb5_hx ?qbb5_hy ?_; (case qbb5_hx => first | with_reducible exact blit_slash | with_reducible exact blit_dot | with_reducible exact blit_dd | with_reducible exact blit_empty | with_reducible exact blit_nl | with_reducible exact rfl); (case qbb5_hy => first | with_reducible exact blit_slash | with_reducible exact blit_dot | with_reducible exact blit_dd | with_reducible exact blit_empty | with_reducible exact blit_nl | with_reducible exact rfl)))
  k_with "truthy str" => (k_here; k_dflt (refine' truthy_S ?qbb6_hz ?_; (case qbb6_hz => first | omega | ((try simp only [List.length_take, List.length_drop, List.length_append, List.length_cons, List.length_nil]); omega)); intro k'))
  k_with "truthy bytes" => (k_here; k_dflt (refine' truthy_B ?qbb7_hz ?_; (case qbb7_hz => first | omega | ((try simp only [List.length_take, List.length_drop, List.length_append, List.length_cons, List.length_nil]); omega)); intro k'))
  k_with "binaryOp Add str str" => (k_here; k_dflt (refine' add_S ?qbb8_hx ?qbb8_hy ?qbb8_hz ?_; (case qbb8_hx => first | with_reducible exact lit_slash | with_reducible exact lit_dot | with_reducible exact lit_dd | with_reducible exact lit_empty | with_reducible exact lit_nl | with_reducible exact lit_crlf | with_reducible exact lit_cr | with_reducible exact rfl); (case qbb8_hy => first | with_reducible exact lit_slash | with_reducible exact lit_dot | with_reducible exact lit_dd | with_reducible exact lit_empty | with_reducible exact lit_nl | with_reducible exact lit_crlf | with_reducible exact lit_cr | with_reducible exact rfl); (case qbb8_hz => first | omega | ((try simp only [List.length_take, List.length_drop, List.length_append, List.length_cons, List.length_nil]); omega)); intro t' k'))
  k_with "binaryOp Add bytes bytes" => (k_here; k_dflt (refine' add_B ?qbb9_hx ?qbb9_hy ?qbb9_hz ?_; (case qbb9_hx => first | with_reducible exact blit_slash | with_reducible exact blit_dot | with_reducible exact blit_dd | with_reducible exact blit_empty | with_reducible exact blit_nl | with_reducible exact rfl); (case qbb9_hy => first | with_reducible exact blit_slash | with_reducible exact blit_dot | with_reducible exact blit_dd | with_reducible exact blit_empty | with_reducible exact blit_nl | with_reducible exact rfl); (case qbb9_hz => first | omega | ((try simp only [List.length_take, List.length_drop, List.length_append, List.length_cons, List.length_nil]); omega)); intro t' k'))
  k_with "inplaceOp Add str str" => (k_here; k_dflt (refine' iadd_S ?qbb10_hx ?qbb10_hy ?qbb10_hz ?_; (case qbb10_hx => first | with_reducible exact lit_slash | with_reducible exact lit_dot | with_reducible exact lit_dd | with_reducible exact lit_empty | with_reducible exact lit_nl | with_reducible exact lit_crlf | with_reducible exact lit_cr | with_reducible exact rfl); (case qbb10_hy => first | with_reducible exact lit_slash | with_reducible exact lit_dot | with_reducible exact lit_dd | with_reducible exact lit_empty | with_reducible exact lit_nl | with_reducible exact lit_crlf | with_reducible exact lit_cr | with_reducible exact rfl); (case qbb10_hz => first | omega | ((try simp only [List.length_take, List.length_drop, List.length_append, List.length_cons, List.length_nil]); omega)); intro t' k'))
  k_with "inplaceOp Add bytes bytes" => (k_here; k_dflt (refine' iadd_B ?qbb11_hx ?qbb11_hy ?qbb11_hz ?_; (case qbb11_hx => first | with_reducible exact blit_slash | with_reducible exact blit_dot | with_reducible exact blit_dd | with_reducible exact blit_empty | with_reducible exact blit_nl | with_reducible exact rfl); (case qbb11_hy => first | with_reducible exact blit_slash | with_reducible exact blit_dot | with_reducible exact blit_dd | with_reducible exact blit_empty | with_reducible exact blit_nl | with_reducible exact rfl); (case qbb11_hz => first | omega | ((try simp only [List.length_take, List.length_drop, List.length_append, List.length_cons, List.length_nil]); omega)); intro t' k'))
  k_with "call builtin:str.startswith" => (k_here; k_dflt (refine' starts_S ?qbb12_hy ?_; (case qbb12_hy => first | with_reducible exact lit_slash | with_reducible exact lit_dot | with_reducible exact lit_dd | with_reducible exact lit_empty | with_reducible exact lit_nl | with_reducible exact lit_crlf | with_reducible exact lit_cr | with_reducible exact rfl)))
  k_with "call builtin:str.endswith" => (k_here; k_dflt (refine' ends_S ?qbb13_hy ?_; (case qbb13_hy => first | with_reducible exact lit_slash | with_reducible exact lit_dot | with_reducible exact lit_dd | with_reducible exact lit_empty | with_reducible exact lit_nl | with_reducible exact lit_crlf | with_reducible exact lit_cr | with_reducible exact rfl)))
  k_with "call builtin:bytes.startswith" => (k_here; k_dflt (refine' starts_B ?qbb14_hy ?_; (case qbb14_hy => first | with_reducible exact blit_slash | with_reducible exact blit_dot | with_reducible exact blit_dd | with_reducible exact blit_empty | with_reducible exact blit_nl | with_reducible exact rfl)))
  k_with "call builtin:bytes.endswith" => (k_here; k_dflt (refine' ends_B ?qbb15_hy ?_; (case qbb15_hy => first | with_reducible exact blit_slash | with_reducible exact blit_dot | with_reducible exact blit_dd | with_reducible exact blit_empty | with_reducible exact blit_nl | with_reducible exact rfl)))
  k_with "getMethod bytes" => (k_here; k_dflt (first | with_reducible refine' gm_bytes FB.slot_bytes_startswith FB.type_bytes_startswith ?_ | with_reducible refine' gm_bytes FB.slot_bytes_endswith FB.type_bytes_endswith ?_ | with_reducible refine' gm_bytes BF.slot_split BF.type_split ?_ | with_reducible refine' gm_bytes BF.slot_join BF.type_join ?_))
  k_with "call ref" => (k_here; refine' call_spec ?qbb17_F ?qbb17_X ?qbb17_N ?qbb17_T (fspath_str _ _ _ _ _ _) ?qbb17_R ?qbb17_p ?_; (case qbb17_F => k_asm); (case qbb17_X => k_asm); (case qbb17_N => k_asm); (case qbb17_T => k_asm); (case qbb17_R => exact Room.less (by assumption) (by decide) (by decide)); (case qbb17_p => trivial); (intro v h' tk' F' N' kk o; (clear kk; (try dsimp only at o); subst o; try dsimp only)))
  k_with "call ref" => (k_here; refine' call_spec ?qbb18_F ?qbb18_X ?qbb18_N ?qbb18_T (fspath_bytes _ _ _ _ _ _) ?qbb18_R ?qbb18_p ?_; (case qbb18_F => k_asm); (case qbb18_X => k_asm); (case qbb18_N => k_asm); (case qbb18_T => k_asm); (case qbb18_R => exact Room.less (by assumption) (by decide) (by decide)); (case qbb18_p => trivial); (intro v h' tk' F' N' kk o; (clear kk; (try dsimp only at o); subst o; try dsimp only)))
  k_fill
  exact ⟨rfl, rfl⟩
section

theorem lit_slash : Str.ofString "/" = ⟨[47].toArray⟩ := by decide +kernel
theorem lit_dot : Str.ofString "." = ⟨[46].toArray⟩ := by decide +kernel
theorem lit_dd : Str.ofString ".." = ⟨[46, 46].toArray⟩ := by decide +kernel
theorem lit_empty : Str.ofString "" = ⟨([] : List Nat).toArray⟩ := by decide +kernel
theorem lit_nl : Str.ofString "\n" = ⟨[10].toArray⟩ := by decide +kernel
theorem lit_crlf : Str.ofString "\r\n" = ⟨[13, 10].toArray⟩ := by decide +kernel
theorem lit_cr : Str.ofString "\r" = ⟨[13].toArray⟩ := by decide +kernel
theorem cut_h1 {α : Type} (l : List α) : cutS l none (some 1) = l.take 1 := cut_hi l 1
theorem cut_h2 {α : Type} (l : List α) : cutS l none (some 2) = l.take 2 := cut_hi l 2
theorem cut_l1 {α : Type} (l : List α) : cutS l (some 1) none = l.drop 1 := cut_lo l 1
theorem cut_l2 {α : Type} (l : List α) : cutS l (some 2) none = l.drop 2 := cut_lo l 2
theorem cut_12 {α : Type} (l : List α) : cutS l (some 1) (some 2) = (l.drop 1).take 1 := cut_mid l 1 2
theorem cut_23 {α : Type} (l : List α) : cutS l (some 2) (some 3) = (l.drop 2).take 1 := cut_mid l 2 3
theorem cut_m1 {α : Type} (l : List α) : cutS l (some (-1)) none = l.drop (l.length - 1) := cut_last l
theorem blit_slash : (#[47] : Array UInt8) = [47].toArray := rfl
theorem blit_dot : (#[46] : Array UInt8) = [46].toArray := rfl
theorem blit_dd : (#[46, 46] : Array UInt8) = [46, 46].toArray := rfl
theorem blit_empty : (#[] : Array UInt8) = ([] : List UInt8).toArray := rfl
theorem blit_nl : (#[10] : Array UInt8) = [10].toArray := rfl
variable (w : World) (mean : ExcName → Option Value) (mg mb : Str → Option Value)
set_option maxRecDepth 100000
set_option maxHeartbeats 8000000
theorem starts_B {prog : Program} {w : World} {A : Around} {E : Value → Shared → Prop} {s : Shared} {t u : Tok} {Q : Value → Shared → Prop} {l : List UInt8} {c : UInt8} {y : Array UInt8} (hy : y = [c].toArray) (h : Q (.bool (l.head? == some c)) s) : wpAny (model prog w) A (call (.builtin "bytes.startswith") [.bytes l.toArray t, .bytes y u]) Q E s := by
  subst hy; exact starts_bytes h
theorem ends_B {prog : Program} {w : World} {A : Around} {E : Value → Shared → Prop} {s : Shared} {t u : Tok} {Q : Value → Shared → Prop} {l : List UInt8} {c : UInt8} {y : Array UInt8} (hy : y = [c].toArray) (h : Q (.bool (l.getLast? == some c)) s) : wpAny (model prog w) A (call (.builtin "bytes.endswith") [.bytes l.toArray t, .bytes y u]) Q E s := by
  subst hy; exact ends_bytes h

/-- the leading slashes that count, and the rest -/
def rootL {α : Type} [DecidableEq α] (sl : α) (x : List α) : List α := if x.take 1 ≠ [sl] then [] else if (x.drop 1).take 1 ≠ [sl] then [sl] else if (x.drop 2).take 1 = [sl] then [sl] else x.take 2
def tailL {α : Type} [DecidableEq α] (sl : α) (x : List α) : List α := if x.take 1 ≠ [sl] then x else if (x.drop 1).take 1 ≠ [sl] then x.drop 1 else if (x.drop 2).take 1 = [sl] then x.drop 1 else x.drop 2
abbrev tup3 (a b c : Value) : Obj := { cls := .type "tuple", data := .seq [a, b, c].toArray }
def Three (mk : List α → Tok → Value) (r t : List α) (h h' : Heap) (v : Value) : Prop := ∃ a t1 t2 t3, v = .ref a ∧ h.get? a = none ∧ h'.get? a = some (tup3 (mk [] t1) (mk r t2) (mk t t3))
abbrev mkS (l : List Nat) (t : Tok) : Value := .str ⟨l.toArray⟩ t
abbrev mkB (l : List UInt8) (t : Tok) : Value := .bytes l.toArray t
theorem three_S {h₀ h' : Heap} {L D : Addr} {ns : List (Addr × Obj)} {x1 x2 x3 : Str} {t1 t2 t3 : Tok} {r t : List Nat} (N : News h₀ L h' ((D, { cls := .type "tuple", data := .seq [.str x1 t1, .str x2 t2, .str x3 t3].toArray }) :: ns)) (h1 : x1 = ⟨([] : List Nat).toArray⟩) (h2 : x2 = ⟨r.toArray⟩) (h3 : x3 = ⟨t.toArray⟩) : Three mkS r t h₀ h' (.ref D) := by
  subst h1 h2 h3
  exact ⟨D, t1, t2, t3, rfl, (N _ (.head _)).2.2, (N _ (.head _)).1⟩
theorem three_B {h₀ h' : Heap} {L D : Addr} {ns : List (Addr × Obj)} {x1 x2 x3 : Array UInt8} {t1 t2 t3 : Tok} {r t : List UInt8} (N : News h₀ L h' ((D, { cls := .type "tuple", data := .seq [.bytes x1 t1, .bytes x2 t2, .bytes x3 t3].toArray }) :: ns)) (h1 : x1 = ([] : List UInt8).toArray) (h2 : x2 = r.toArray) (h3 : x3 = t.toArray) : Three mkB r t h₀ h' (.ref D) := by
  subst h1 h2 h3
  exact ⟨D, t1, t2, t3, rfl, (N _ (.head _)).2.2, (N _ (.head _)).1⟩
theorem splitroot_str (l : List Nat) (t : Tok) : Spec w mean mg mb 175 [.str ⟨l.toArray⟩ t] 2 11 (fun _ => l.length ≤ 1000000) (Three mkS (rootL 47 l) (tailL 47 l)) := by
  refine' spec_of [(Str.ofString "p", .str ⟨l.toArray⟩ t)] ?ho ?hcd ?hbind ?hloc ?c1 ?c2 ?c3 ?c4 ?_
  case ho => k_is
  case hcd => k_is
  case hbind => exact rfl
  case c1 => decide
  case hloc => exact rfl
  case c2 => exact rfl
  case c3 => exact rfl
  case c4 => exact rfl
  intro A h₀ L s hR X T hp F N
  (try dsimp only); (try k_fold)
  k_steps
  all_goals (refine Back.ret (by assumption) ?_)
  all_goals (refine' three_S (by assumption) ?_ ?_ ?_ <;> simp_all [lit_empty, lit_slash, rootL, tailL])
theorem splitroot_bytes (l : List UInt8) (t : Tok) : Spec w mean mg mb 175 [.bytes l.toArray t] 2 11 (fun _ => l.length ≤ 1000000) (Three mkB (rootL 47 l) (tailL 47 l)) := by
  refine' spec_of [(Str.ofString "p", .bytes l.toArray t)] ?ho ?hcd ?hbind ?hloc ?c1 ?c2 ?c3 ?c4 ?_
  case ho => k_is
  case hcd => k_is
  case hbind => exact rfl
  case c1 => decide
  case hloc => exact rfl
  case c2 => exact rfl
  case c3 => exact rfl
  case c4 => exact rfl
  intro A h₀ L s hR X T hp F N
  (try dsimp only); (try k_fold)
  k_steps
  all_goals (refine Back.ret (by assumption) ?_)
  all_goals (refine' three_B (by assumption) ?_ ?_ ?_ <;> simp_all [lit_empty, lit_slash, rootL, tailL])
end
end Mine
end
section
open PySem PySem.W PyProof.Rows PySem.Calls PyProof.V
namespace Mine
set_option maxRecDepth 100000
section
variable {prog : Program} {w : World} {A : Around} {E : Value → Shared → Prop} {s : Shared} {env : Env} {h₀ : Heap} {x : Str} {body : List Stmt} {Q : Flow → Shared → Prop}

/-- where a turn of a loop comes to: the letters' next values -/
def TurnS {σ : Type} (h₀ : Heap) (L : Addr) (x : Str) (I : Addr) (it : Obj) (R : σ → Prop) (Mp : σ → Str → Option Value) (Ld : σ → List (Addr × Obj)) (s₁ : Shared) (Q : Flow → Shared → Prop) (f : Flow) (s₂ : Shared) : Prop :=
  match f with
  | .ret v => Q (.ret v) s₂
  | .brk => Q .next s₂
  | _ => ∃ h' tk m' n₂ σ', s₂ = { s₁ with heap := h', toks := tk } ∧ Fr h₀ L h' m' ∧ News h₀ L h' n₂ ∧ (∀ p ∈ (I, it) :: Ld σ', p ∈ n₂) ∧ (∀ p ∈ Ld σ', p.1 ≠ I) ∧ R σ' ∧ ∀ y, y ≠ x → m' y = Mp σ' y
theorem TurnS.next {σ : Type} {L : Addr} {I : Addr} {it : Obj} {R : σ → Prop} {Mp : σ → Str → Option Value} {Ld : σ → List (Addr × Obj)} {s₁ : Shared} {h' : Heap} {tk : Nat} {m' : Str → Option Value} {n₂ : List (Addr × Obj)} (σ' : σ)
    (F : Fr h₀ L h' m') (N : News h₀ L h' n₂) (hr : R σ') (hm : ∀ y, y ≠ x → m' y = Mp σ' y) (hn : ∀ p ∈ (I, it) :: Ld σ', p ∈ n₂) (hi : ∀ p ∈ Ld σ', p.1 ≠ I) : TurnS h₀ L x I it R Mp Ld s₁ Q .next { s₁ with heap := h', toks := tk } :=
  ⟨h', tk, m', n₂, σ', rfl, F, N, hn, hi, hr, hm⟩
theorem TurnS.cont {σ : Type} {L : Addr} {I : Addr} {it : Obj} {R : σ → Prop} {Mp : σ → Str → Option Value} {Ld : σ → List (Addr × Obj)} {s₁ : Shared} {h' : Heap} {tk : Nat} {m' : Str → Option Value} {n₂ : List (Addr × Obj)} (σ' : σ)
    (F : Fr h₀ L h' m') (N : News h₀ L h' n₂) (hr : R σ') (hm : ∀ y, y ≠ x → m' y = Mp σ' y) (hn : ∀ p ∈ (I, it) :: Ld σ', p ∈ n₂) (hi : ∀ p ∈ Ld σ', p.1 ≠ I) : TurnS h₀ L x I it R Mp Ld s₁ Q .cont { s₁ with heap := h', toks := tk } :=
  ⟨h', tk, m', n₂, σ', rfl, F, N, hn, hi, hr, hm⟩

theorem loop_J {σ : Type} {ax : Addr} {items : Array Value} {St : Nat → Heap → Prop} {o₀ : Obj} (R : Nat → σ → Prop) (Mp : σ → Str → Option Value) (Ld : σ → List (Addr × Obj)) (σ₀ : σ)
    (W : Walks prog w A s.heap.objs.size [s.heap.objs.size, ax] [s.heap.objs.size] items.size (fun i v => items[i]? = some v) St)
    (hst0 : St 0 (s.heap.push o₀)) (hit : ∀ i h, St i h → ∃ o, h.get? s.heap.objs.size = some o)
    (hL : ax ≠ env.locals) (F : Fr h₀ env.locals s.heap (Mp σ₀)) (N : News h₀ env.locals s.heap (Ld σ₀)) (hr : R 0 σ₀)
    (hpers : ∀ i σ m h, R i σ → Fr h₀ env.locals h m → News h₀ env.locals h (Ld σ) → h.get? ax = s.heap.get? ax)
    (turn : ∀ i v σ it h tk, items[i]? = some v → R i σ → Fr h₀ env.locals h (fun y => if y = x then some v else Mp σ y) → News h₀ env.locals h ((s.heap.objs.size, it) :: Ld σ) → (∀ p ∈ Ld σ, p.1 ≠ s.heap.objs.size) →
      wpAny (model prog w) A (execs body env) (TurnS h₀ env.locals x s.heap.objs.size it (R (i + 1)) Mp Ld { s with heap := h, toks := tk } Q) E { s with heap := h, toks := tk })
    (done : ∀ σ (u : Option Value) h tk, R items.size σ → Fr h₀ env.locals h (fun y => if y = x then u else Mp σ y) → News h₀ env.locals h (Ld σ) → Q .next { s with heap := h, toks := tk }) :
    LoopAtV prog w A h₀ env x body Q E (.ref s.heap.objs.size) { s with heap := s.heap.push o₀ } := by
  let J' : Nat → (Str → Option Value) → List (Addr × Obj) → Prop := fun i m₁ news₁ => ∃ σ, news₁ = Ld σ ∧ R i σ ∧ ∀ y, y ≠ x → m₁ y = Mp σ y
  have mapEq : ∀ {m₁ : Str → Option Value} {σ : σ} (u : Option Value), (∀ y, y ≠ x → m₁ y = Mp σ y) → (fun y => if y = x then u else m₁ y) = fun y => if y = x then u else Mp σ y := by
    intro m₁ σ u h
    funext y
    by_cases hy : y = x
    · simp [hy]
    · simp only [if_neg hy]; exact h y hy
  refine ⟨_, _, _, items.size, _, _, Mp σ₀, Ld σ₀, J', rfl, W, ?_, ?_, ?_, hst0, F.push _, (fun p hp => ⟨Heap.get?_push_of_some _ (N p hp).1, (N p hp).2⟩), ⟨σ₀, rfl, hr, fun _ _ => rfl⟩, ?_, ?_⟩
  · intro hm
    rcases List.mem_cons.mp hm with e | hm
    · exact absurd F.ns.lt (e ▸ Nat.lt_irrefl _)
    · exact hL (List.mem_singleton.mp hm).symm
  · intro b hb
    rw [List.mem_singleton.mp hb]
    exact next_is_new F
  · intro p hp hI
    exact absurd (Heap.lt_size (N p hp).1) ((List.mem_singleton.mp hI) ▸ Nat.lt_irrefl _)
  · rintro i v m₁ news₁ s₁ own ⟨hh', tk', rfl⟩ hin hP ⟨σ, rfl, hR, hm⟩ hoff hown hget hall hst F₁ N₁
    obtain ⟨it, hI⟩ := hit _ _ hst
    have hmem := hall s.heap.objs.size (List.mem_cons_self ..) (next_is_new F) _ hI
    rw [mapEq (some v) hm] at F₁
    have N₂ : News h₀ env.locals hh' ((s.heap.objs.size, it) :: Ld σ) := fun p hp => by
      rcases List.mem_cons.mp hp with rfl | hp
      · exact N₁ _ (List.mem_append_left _ hmem)
      · exact N₁ _ (List.mem_append_right _ hp)
    have hne : ∀ p ∈ Ld σ, p.1 ≠ s.heap.objs.size := fun p hp e => hoff p hp (by rw [e]; exact List.mem_singleton.mpr rfl)
    refine wpAny_mono (turn i v σ it hh' tk' hP hR F₁ N₂ hne) (fun f s₂ p => ?_) fun _ _ e => e
    have fin : (∃ h' tk m' n₂ σ', s₂ = { s with heap := h', toks := tk } ∧ Fr h₀ env.locals h' m' ∧ News h₀ env.locals h' n₂ ∧ (∀ p ∈ (s.heap.objs.size, it) :: Ld σ', p ∈ n₂) ∧ (∀ p ∈ Ld σ', p.1 ≠ s.heap.objs.size) ∧ R (i + 1) σ' ∧ ∀ y, y ≠ x → m' y = Mp σ' y) →
        LoopStepU h₀ env.locals [s.heap.objs.size] own (J' (i + 1)) { s with heap := hh', toks := tk' } .next s₂ := by
      rintro ⟨h', tk, m', n₂, σ', e, F', N', hn, hi, hr', hm'⟩
      have N3 : News h₀ env.locals h' (Ld σ') := fun p hp => N' p (hn p (List.mem_cons_of_mem _ hp))
      have F3 : Fr h₀ env.locals h' (fun y => if y = x then m' x else Mp σ' y) := by
        have := mapEq (m' x) hm'
        rw [← this]
        have e2 : (fun y => if y = x then m' x else m' y) = m' := by
          funext y
          by_cases hy : y = x
          · simp [hy]
          · simp [hy]
        rw [e2]; exact F'
      refine ⟨rfl, h', tk, m', Ld σ', e, F', fun p hp => ?_, fun p hp hq => hi p hp (List.mem_singleton.mp hq), σ', rfl, hr', hm'⟩
      rcases List.mem_append.mp hp with hp | hp
      · have h1 := hown p hp
        rcases List.mem_cons.mp h1 with h1 | h1
        · have h2 : hh'.get? p.1 = some p.2 := hget p hp
          have h3 : p = (s.heap.objs.size, it) := by
            rw [h1, hI] at h2
            exact Prod.ext h1 (Option.some.inj h2).symm
          rw [h3]; exact N' _ (hn _ (List.mem_cons_self ..))
        · have h1 := List.mem_singleton.mp h1
          have h2 : hh'.get? p.1 = some p.2 := hget p hp
          have h4 := hpers i σ _ hh' hR F₁ fun p hp => N₂ p (List.mem_cons_of_mem _ hp)
          have h5 := hpers (i + 1) σ' m' h' hr' F' N3
          exact ⟨by rw [h1, h5, ← h4, ← h1]; exact h2, (N₁ p (List.mem_append_left _ hp)).2⟩
      · exact N3 p hp
    cases f with
    | ret v => exact .ret p
    | brk => exact .brk p
    | next => exact .next (fin p)
    | cont => exact .cont (fin p)
  · rintro h' tk m' news' F' N' _ ⟨σ, rfl, hR, hm⟩
    have e2 : (fun y => if y = x then m' x else m' y) = m' := by
      funext y
      by_cases hy : y = x
      · simp [hy]
      · simp [hy]
    refine done σ (m' x) h' tk hR ?_ N'
    rw [← mapEq (m' x) hm, e2]
    exact F'

theorem ne_locals {h : Heap} {L ax : Addr} {m : Str → Option Value} {o : Obj} {xs : Array Value} {n : Nat} (F : Fr h₀ L h m) (e : h.get? ax = some o) (hd : o.data = .seq xs n) : ax ≠ L := by
  rintro rfl
  obtain ⟨o', es, ep, h1, h2, _⟩ := F.ns
  rw [e] at h1
  cases h1
  rw [hd] at h2
  cases h2

theorem iter_list {σ : Type} {l : Addr} {vs : List Value} {n : Nat} (R : Nat → σ → Prop) (Mp : σ → Str → Option Value) (Ld : σ → List (Addr × Obj)) (σ₀ : σ)
    (hh : A.handled = none) (hl : s.heap.get? l = some (lstObj vs n)) (F : Fr h₀ env.locals s.heap (Mp σ₀)) (N : News h₀ env.locals s.heap (Ld σ₀)) (hr : R 0 σ₀)
    (hpers : ∀ i σ m h, R i σ → Fr h₀ env.locals h m → News h₀ env.locals h (Ld σ) → h.get? l = some (lstObj vs n))
    (turn : ∀ i v σ I it h tk, (∀ p ∈ Ld σ₀, p.1 < I) → vs[i]? = some v → R i σ → Fr h₀ env.locals h (fun y => if y = x then some v else Mp σ y) → News h₀ env.locals h ((I, it) :: Ld σ) → (∀ p ∈ Ld σ, p.1 ≠ I) →
      wpAny (model prog w) A (execs body env) (TurnS h₀ env.locals x I it (R (i + 1)) Mp Ld { s with heap := h, toks := tk } Q) E { s with heap := h, toks := tk })
    (done : ∀ σ (u : Option Value) h tk, R vs.length σ → Fr h₀ env.locals h (fun y => if y = x then u else Mp σ y) → News h₀ env.locals h (Ld σ) → Q .next { s with heap := h, toks := tk }) :
    wpAny (model prog w) A (pyIter (.ref l)) (fun it s₂ => LoopAtV prog w A h₀ env x body Q E it s₂) E s := by
  have hlt : l < s.heap.objs.size := Heap.lt_size hl
  refine wpAny_pyIter_list (isList_lst hl) ?_
  have W := Walks.list (prog := prog) (w := w) (A := A) hh s.heap.objs.size l (Nat.ne_of_lt hlt) vs.toArray
  refine loop_J R Mp Ld σ₀ W ⟨⟨_, Heap.get?_push_size _ rfl, rfl, rfl⟩, (isList_lst hl).at fun o e => Heap.get?_push_of_some _ e⟩ (fun i h q => ?_) (ne_locals F hl rfl) F N hr (fun i σ m h a b c => (hpers i σ m h a b c).trans hl.symm) (fun i v σ it h tk hv => turn i v σ _ it h tk (fun p hp => Heap.lt_size (N p hp).1) (by simpa using hv)) (fun σ u h tk hR => done σ u h tk (by simpa using hR))
  obtain ⟨o, ho, _⟩ := q.1
  exact ⟨o, ho⟩
theorem iter_tuple {σ : Type} {l : Addr} {vs : List Value} {o : Obj} {n : Nat} (R : Nat → σ → Prop) (Mp : σ → Str → Option Value) (Ld : σ → List (Addr × Obj)) (σ₀ : σ)
    (hh : A.handled = none) (hl : s.heap.get? l = some o) (hc : o.cls = .type "tuple") (hd : o.data = .seq vs.toArray n) (F : Fr h₀ env.locals s.heap (Mp σ₀)) (N : News h₀ env.locals s.heap (Ld σ₀)) (hr : R 0 σ₀)
    (hpers : ∀ i σ m h, R i σ → Fr h₀ env.locals h m → News h₀ env.locals h (Ld σ) → h.get? l = some o)
    (turn : ∀ i v σ I it h tk, (∀ p ∈ Ld σ₀, p.1 < I) → vs[i]? = some v → R i σ → Fr h₀ env.locals h (fun y => if y = x then some v else Mp σ y) → News h₀ env.locals h ((I, it) :: Ld σ) → (∀ p ∈ Ld σ, p.1 ≠ I) →
      wpAny (model prog w) A (execs body env) (TurnS h₀ env.locals x I it (R (i + 1)) Mp Ld { s with heap := h, toks := tk } Q) E { s with heap := h, toks := tk })
    (done : ∀ σ (u : Option Value) h tk, R vs.length σ → Fr h₀ env.locals h (fun y => if y = x then u else Mp σ y) → News h₀ env.locals h (Ld σ) → Q .next { s with heap := h, toks := tk }) :
    wpAny (model prog w) A (pyIter (.ref l)) (fun it s₂ => LoopAtV prog w A h₀ env x body Q E it s₂) E s := by
  have hlt : l < s.heap.objs.size := Heap.lt_size hl
  have ht : s.heap.IsTuple l vs.toArray := ⟨o, hl, hc, n, hd⟩
  refine wpAny_pyIter_tuple ht ?_
  have W := Walks.tuple (prog := prog) (w := w) (A := A) hh s.heap.objs.size l (Nat.ne_of_lt hlt) vs.toArray
  refine loop_J R Mp Ld σ₀ W ⟨⟨_, Heap.get?_push_size _ rfl, rfl, rfl⟩, ht.at fun o e => Heap.get?_push_of_some _ e⟩ (fun i h q => ?_) (ne_locals F hl hd) F N hr (fun i σ m h a b c => (hpers i σ m h a b c).trans hl.symm) (fun i v σ it h tk hv => turn i v σ _ it h tk (fun p hp => Heap.lt_size (N p hp).1) (by simpa using hv)) (fun σ u h tk hR => done σ u h tk (by simpa using hR))
  obtain ⟨o, ho, _⟩ := q.1
  exact ⟨o, ho⟩

theorem All2.at {α β : Type} {R : α → β → Prop} : ∀ {l : List α} {r : List β} {i : Nat} {a : α}, All2 R l r → l[i]? = some a → ∃ b, r = r.take i ++ b :: r.drop (i + 1) ∧ R a b ∧ r.take (i + 1) = r.take i ++ [b]
  | _, _, i, _, .nil, h => by simp at h
  | _, _, 0, a, .cons (a := a₀) (b := b) x y, h => by
    have e : a₀ = a := by simpa using h
    subst e
    exact ⟨b, rfl, x, rfl⟩
  | _, _, i + 1, a, .cons (b := b₀) (r := r) x y, h => by
    obtain ⟨b, h1, h2, h3⟩ := All2.at y (by simpa using h)
    refine ⟨b, ?_, h2, ?_⟩
    · show b₀ :: r = b₀ :: (r.take i ++ b :: r.drop (i + 1))
      rw [← h1]
    · show b₀ :: r.take (i + 1) = b₀ :: (r.take i ++ [b])
      rw [h3]

/-- a loop over a list: the letters σ, and what holds of them behind the items taken so far -/
theorem iter_P {σ γ : Type} {Item : Value → γ → Prop} {l : Addr} {vs : List Value} {cs : List γ} {n : Nat} (R : List γ → σ → Prop) (Mp : σ → Str → Option Value) (Ld : σ → List (Addr × Obj)) (σ₀ : σ)
    (hh : A.handled = none) (hv : All2 Item vs cs) (hl : s.heap.get? l = some (lstObj vs n)) (F : Fr h₀ env.locals s.heap (Mp σ₀)) (N : News h₀ env.locals s.heap (Ld σ₀)) (hr : R [] σ₀)
    (hpers : ∀ pre σ m h, R pre σ → Fr h₀ env.locals h m → News h₀ env.locals h (Ld σ) → h.get? l = some (lstObj vs n))
    (turn : ∀ pre c post v σ I it h tk, cs = pre ++ c :: post → Item v c → (∀ p ∈ Ld σ₀, p.1 < I) → R pre σ → Fr h₀ env.locals h (fun y => if y = x then some v else Mp σ y) → News h₀ env.locals h ((I, it) :: Ld σ) → (∀ p ∈ Ld σ, p.1 ≠ I) →
      wpAny (model prog w) A (execs body env) (TurnS h₀ env.locals x I it (R (pre ++ [c])) Mp Ld { s with heap := h, toks := tk } Q) E { s with heap := h, toks := tk })
    (done : ∀ σ (u : Option Value) h tk, R cs σ → Fr h₀ env.locals h (fun y => if y = x then u else Mp σ y) → News h₀ env.locals h (Ld σ) → Q .next { s with heap := h, toks := tk }) :
    wpAny (model prog w) A (pyIter (.ref l)) (fun it s₂ => LoopAtV prog w A h₀ env x body Q E it s₂) E s := by
  refine iter_list (fun i σ => R (cs.take i) σ) Mp Ld σ₀ hh hl F N (by simpa using hr) (fun i σ m h a b c => hpers _ σ m h a b c) ?_ ?_
  · intro i v σ I it h tk hlt hvi hR F' N' hI
    obtain ⟨c, h1, h2, h3⟩ := hv.at hvi
    rw [h3]
    exact turn _ c _ v σ I it h tk h1 h2 hlt hR F' N' hI
  · intro σ u h tk hR
    refine done σ u h tk ?_
    rw [hv.length, List.take_length] at hR
    exact hR
theorem iter_PT {σ γ : Type} {Item : Value → γ → Prop} {l : Addr} {vs : List Value} {cs : List γ} {o : Obj} {n : Nat} (R : List γ → σ → Prop) (Mp : σ → Str → Option Value) (Ld : σ → List (Addr × Obj)) (σ₀ : σ)
    (hh : A.handled = none) (hv : All2 Item vs cs) (hl : s.heap.get? l = some o) (hc : o.cls = .type "tuple") (hd : o.data = .seq vs.toArray n) (F : Fr h₀ env.locals s.heap (Mp σ₀)) (N : News h₀ env.locals s.heap (Ld σ₀)) (hr : R [] σ₀)
    (hpers : ∀ pre σ m h, R pre σ → Fr h₀ env.locals h m → News h₀ env.locals h (Ld σ) → h.get? l = some o)
    (turn : ∀ pre c post v σ I it h tk, cs = pre ++ c :: post → Item v c → (∀ p ∈ Ld σ₀, p.1 < I) → R pre σ → Fr h₀ env.locals h (fun y => if y = x then some v else Mp σ y) → News h₀ env.locals h ((I, it) :: Ld σ) → (∀ p ∈ Ld σ, p.1 ≠ I) →
      wpAny (model prog w) A (execs body env) (TurnS h₀ env.locals x I it (R (pre ++ [c])) Mp Ld { s with heap := h, toks := tk } Q) E { s with heap := h, toks := tk })
    (done : ∀ σ (u : Option Value) h tk, R cs σ → Fr h₀ env.locals h (fun y => if y = x then u else Mp σ y) → News h₀ env.locals h (Ld σ) → Q .next { s with heap := h, toks := tk }) :
    wpAny (model prog w) A (pyIter (.ref l)) (fun it s₂ => LoopAtV prog w A h₀ env x body Q E it s₂) E s := by
  refine iter_tuple (fun i σ => R (cs.take i) σ) Mp Ld σ₀ hh hl hc hd F N (by simpa using hr) (fun i σ m h a b c => hpers _ σ m h a b c) ?_ ?_
  · intro i v σ I it h tk hlt hvi hR F' N' hI
    obtain ⟨c, h1, h2, h3⟩ := hv.at hvi
    rw [h3]
    exact turn _ c _ v σ I it h tk h1 h2 hlt hR F' N' hI
  · intro σ u h tk hR
    refine done σ u h tk ?_
    rw [hv.length, List.take_length] at hR
    exact hR

/-- where a turn comes to that changes one list alone -/
def TurnG (h₀ : Heap) (L : Addr) (x : Str) (I : Addr) (it : Obj) (nc : Addr) (rest : List (Addr × Obj)) (m₀ : Str → Option Value) (R : List Value → Prop) (s₁ : Shared) (Q : Flow → Shared → Prop) (f : Flow) (s₂ : Shared) : Prop :=
  match f with
  | .ret v => Q (.ret v) s₂
  | .brk => Q .next s₂
  | _ => ∃ h' tk m' ys k, s₂ = { s₁ with heap := h', toks := tk } ∧ Fr h₀ L h' m' ∧ News h₀ L h' ((I, it) :: (nc, lstObj ys k) :: rest) ∧ R ys ∧ ∀ y, y ≠ x → m' y = m₀ y
theorem TurnG.next {L : Addr} {I nc : Addr} {it : Obj} {rest : List (Addr × Obj)} {m₀ m' : Str → Option Value} {R : List Value → Prop} {s₁ : Shared} {h' : Heap} {tk : Nat} {ys : List Value} {k : Nat}
    (F : Fr h₀ L h' m') (N : News h₀ L h' ((I, it) :: (nc, lstObj ys k) :: rest)) (hr : R ys) (hm : ∀ y, y ≠ x → m' y = m₀ y) : TurnG h₀ L x I it nc rest m₀ R s₁ Q .next { s₁ with heap := h', toks := tk } :=
  ⟨h', tk, m', ys, k, rfl, F, N, hr, hm⟩
theorem TurnG.cont {L : Addr} {I nc : Addr} {it : Obj} {rest : List (Addr × Obj)} {m₀ m' : Str → Option Value} {R : List Value → Prop} {s₁ : Shared} {h' : Heap} {tk : Nat} {ys : List Value} {k : Nat}
    (F : Fr h₀ L h' m') (N : News h₀ L h' ((I, it) :: (nc, lstObj ys k) :: rest)) (hr : R ys) (hm : ∀ y, y ≠ x → m' y = m₀ y) : TurnG h₀ L x I it nc rest m₀ R s₁ Q .cont { s₁ with heap := h', toks := tk } :=
  ⟨h', tk, m', ys, k, rfl, F, N, hr, hm⟩
/-- a loop that turns one list of the call's own alone -/
theorem iter_grow {γ : Type} {Item : Value → γ → Prop} {l nc : Addr} {vs ys₀ : List Value} {cs : List γ} {n k₀ : Nat} {rest : List (Addr × Obj)} {m₀ : Str → Option Value} (R : List γ → List Value → Prop)
    (hh : A.handled = none) (hv : All2 Item vs cs) (F : Fr h₀ env.locals s.heap m₀) (N : News h₀ env.locals s.heap ((nc, lstObj ys₀ k₀) :: rest)) (hl : (l, lstObj vs n) ∈ rest ∨ h₀.get? l = some (lstObj vs n)) (hr : R [] ys₀)
    (turn : ∀ pre c post v ys k I it h tk, cs = pre ++ c :: post → Item v c → nc < I → (∀ p ∈ rest, p.1 < I) → R pre ys → Fr h₀ env.locals h (fun y => if y = x then some v else m₀ y) → News h₀ env.locals h ((I, it) :: (nc, lstObj ys k) :: rest) →
      wpAny (model prog w) A (execs body env) (TurnG h₀ env.locals x I it nc rest m₀ (R (pre ++ [c])) { s with heap := h, toks := tk } Q) E { s with heap := h, toks := tk })
    (done : ∀ ys k (u : Option Value) h tk, R cs ys → Fr h₀ env.locals h (fun y => if y = x then u else m₀ y) → News h₀ env.locals h ((nc, lstObj ys k) :: rest) → Q .next { s with heap := h, toks := tk }) :
    wpAny (model prog w) A (pyIter (.ref l)) (fun it s₂ => LoopAtV prog w A h₀ env x body Q E it s₂) E s := by
  have hl' : ∀ m h, Fr h₀ env.locals h m → ∀ ys k, News h₀ env.locals h ((nc, lstObj ys k) :: rest) → h.get? l = some (lstObj vs n) := fun m h F ys k N =>
    hl.elim (fun hm => (N _ (List.mem_cons_of_mem _ hm)).1) (fun e => F.keep _ _ e)
  refine iter_P (σ := List Value × Nat) (fun pre ys => R pre ys.1) (fun _ => m₀) (fun ys => (nc, lstObj ys.1 ys.2) :: rest) (ys₀, k₀) hh hv (hl' _ _ F _ _ N) F N hr (fun pre ys m h _ F N => hl' _ _ F _ _ N) ?_ ?_
  · intro pre c post v ys I it h tk e hi hlt hR F' N' hne
    refine wpAny_mono (turn pre c post v ys.1 ys.2 I it h tk e hi (hlt _ (List.mem_cons_self ..)) (fun p hp => hlt p (List.mem_cons_of_mem _ hp)) hR F' N') (fun f s₂ q => ?_) fun _ _ e => e
    have key : ∀ ys' k', ∀ p ∈ ((nc, lstObj ys' k') :: rest : List (Addr × Obj)), p.1 ≠ I := by
      intro ys' k' p hp
      rcases List.mem_cons.mp hp with rfl | hp
      · exact hne (nc, lstObj ys.1 ys.2) (List.mem_cons_self ..)
      · exact hne p (List.mem_cons_of_mem _ hp)
    cases f with
    | ret v => exact q
    | brk => exact q
    | next =>
      obtain ⟨h', tk', m', ys', k', rfl, F2, N2, r2, m2⟩ := q
      exact ⟨h', tk', m', _, (ys', k'), rfl, F2, N2, fun p hp => hp, key ys' k', r2, m2⟩
    | cont =>
      obtain ⟨h', tk', m', ys', k', rfl, F2, N2, r2, m2⟩ := q
      exact ⟨h', tk', m', _, (ys', k'), rfl, F2, N2, fun p hp => hp, key ys' k', r2, m2⟩
  · intro ys u h tk hR F' N'
    exact done ys.1 ys.2 u h tk hR F' N'
/-- where a turn comes to that changes one letter alone -/
def TurnV (h₀ : Heap) (L : Addr) (x z : Str) (I : Addr) (it : Obj) (news : List (Addr × Obj)) (m₀ : Str → Option Value) (R : Value → Prop) (s₁ : Shared) (Q : Flow → Shared → Prop) (f : Flow) (s₂ : Shared) : Prop :=
  match f with
  | .ret v => Q (.ret v) s₂
  | .brk => Q .next s₂
  | _ => ∃ h' tk m' v, s₂ = { s₁ with heap := h', toks := tk } ∧ Fr h₀ L h' m' ∧ News h₀ L h' ((I, it) :: news) ∧ R v ∧ m' z = some v ∧ ∀ y, y ≠ x → y ≠ z → m' y = m₀ y
theorem TurnV.next {L : Addr} {z : Str} {I : Addr} {it : Obj} {news : List (Addr × Obj)} {m₀ m' : Str → Option Value} {R : Value → Prop} {s₁ : Shared} {h' : Heap} {tk : Nat} {v : Value}
    (F : Fr h₀ L h' m') (N : News h₀ L h' ((I, it) :: news)) (hz : m' z = some v) (hr : R v) (hm : ∀ y, y ≠ x → y ≠ z → m' y = m₀ y) : TurnV h₀ L x z I it news m₀ R s₁ Q .next { s₁ with heap := h', toks := tk } :=
  ⟨h', tk, m', v, rfl, F, N, hr, hz, hm⟩
/-- a loop over a tuple of the base heap that turns one letter alone -/
theorem iter_letter {γ : Type} {Item : Value → γ → Prop} {l : Addr} {vs : List Value} {cs : List γ} {o : Obj} {n : Nat} {news : List (Addr × Obj)} {m₀ : Str → Option Value} {z : Str} {v₀ : Value} (R : List γ → Value → Prop)
    (hh : A.handled = none) (hv : All2 Item vs cs) (hl : h₀.get? l = some o) (hc : o.cls = .type "tuple") (hd : o.data = .seq vs.toArray n) (F : Fr h₀ env.locals s.heap (fun y => if y = z then some v₀ else m₀ y)) (N : News h₀ env.locals s.heap news) (hr : R [] v₀)
    (turn : ∀ pre c post v u I it h tk, cs = pre ++ c :: post → Item v c → (∀ p ∈ news, p.1 < I) → R pre u → Fr h₀ env.locals h (fun y => if y = x then some v else if y = z then some u else m₀ y) → News h₀ env.locals h ((I, it) :: news) →
      wpAny (model prog w) A (execs body env) (TurnV h₀ env.locals x z I it news m₀ (R (pre ++ [c])) { s with heap := h, toks := tk } Q) E { s with heap := h, toks := tk })
    (done : ∀ v (u : Option Value) h tk, R cs v → Fr h₀ env.locals h (fun y => if y = x then u else if y = z then some v else m₀ y) → News h₀ env.locals h news → Q .next { s with heap := h, toks := tk }) :
    wpAny (model prog w) A (pyIter (.ref l)) (fun it s₂ => LoopAtV prog w A h₀ env x body Q E it s₂) E s := by
  refine iter_PT (σ := Value) R (fun v y => if y = z then some v else m₀ y) (fun _ => news) v₀ hh hv (F.keep _ _ hl) hc hd F N hr (fun pre u m h _ F N => F.keep _ _ hl) ?_ done
  intro pre c post v u I it h tk e hi hlt hR F' N' hne
  refine wpAny_mono (turn pre c post v u I it h tk e hi hlt hR F' N') (fun f s₂ q => ?_) fun _ _ e => e
  have key : ∀ {m' : Str → Option Value} {v' : Value}, m' z = some v' → (∀ y, y ≠ x → y ≠ z → m' y = m₀ y) → ∀ y, y ≠ x → m' y = if y = z then some v' else m₀ y := by
    intro m' v' h1 h2 y hy
    by_cases hz : y = z
    · rw [if_pos hz, hz, h1]
    · rw [if_neg hz, h2 y hy hz]
  cases f with
  | ret v => exact q
  | brk => exact q
  | next =>
    obtain ⟨h', tk', m', v', rfl, F2, N2, r2, z2, m2⟩ := q
    exact ⟨h', tk', m', _, v', rfl, F2, N2, fun p hp => hp, hne, r2, key z2 m2⟩
  | cont =>
    obtain ⟨h', tk', m', v', rfl, F2, N2, r2, z2, m2⟩ := q
    exact ⟨h', tk', m', _, v', rfl, F2, N2, fun p hp => hp, hne, r2, key z2 m2⟩
end
end Mine
end
section
namespace Mine
section
variable {α : Type} [DecidableEq α]
/-- one piece of a path, behind the pieces that stand -/
def nstep (dt : α) (root : List α) (acc : List (List α)) (c : List α) : List (List α) :=
  if c = [] ∨ c = [dt] then acc
  else if c ≠ [dt, dt] ∨ (root = [] ∧ acc = []) ∨ acc.getLast? = some [dt, dt] then acc ++ [c]
  else acc.dropLast
def normL (sl dt : α) (x : List α) : List α :=
  if x = [] then [dt]
  else if rootL sl x ++ joinL [sl] ((cutL sl (tailL sl x)).foldl (nstep dt (rootL sl x)) []) = [] then [dt]
  else rootL sl x ++ joinL [sl] ((cutL sl (tailL sl x)).foldl (nstep dt (rootL sl x)) [])
def jstep (sl : α) (acc c : List α) : List α :=
  if c.head? = some sl ∨ acc = [] then c
  else if acc.getLast? = some sl then acc ++ c
  else acc ++ (sl :: c)
theorem nstep_length (dt : α) (root : List α) (acc : List (List α)) (c : List α) : (nstep dt root acc c).length ≤ acc.length + 1 := by
  unfold nstep
  split
  · omega
  · split
    · simp
    · rw [List.length_dropLast]; omega
theorem nstep_sum (dt : α) (root : List α) (acc : List (List α)) (c : List α) : ((nstep dt root acc c).map (·.length)).sum ≤ (acc.map (·.length)).sum + c.length := by
  unfold nstep
  split
  · omega
  · split
    · simp
    · rcases List.eq_nil_or_concat acc with rfl | ⟨r, a, rfl⟩
      · simp
      · rw [List.concat_eq_append, List.dropLast_concat]
        simp
        omega
theorem nfold_length (dt : α) (root : List α) : ∀ (cs acc : List (List α)), (cs.foldl (nstep dt root) acc).length ≤ acc.length + cs.length
  | [], acc => by simp
  | c :: cs, acc => by
    have h1 := nfold_length dt root cs (nstep dt root acc c)
    have h2 := nstep_length dt root acc c
    show (cs.foldl (nstep dt root) (nstep dt root acc c)).length ≤ _
    rw [List.length_cons]
    omega
theorem nfold_sum (dt : α) (root : List α) : ∀ (cs acc : List (List α)), ((cs.foldl (nstep dt root) acc).map (·.length)).sum ≤ (acc.map (·.length)).sum + (cs.map (·.length)).sum
  | [], acc => by simp
  | c :: cs, acc => by
    have h1 := nfold_sum dt root cs (nstep dt root acc c)
    have h2 := nstep_sum dt root acc c
    show ((cs.foldl (nstep dt root) (nstep dt root acc c)).map (·.length)).sum ≤ _
    rw [List.map_cons, List.sum_cons]
    omega
theorem rootL_length (sl : α) (x : List α) : (rootL sl x).length ≤ x.length := by
  unfold rootL
  split
  · exact Nat.zero_le _
  · rename_i h
    have h : x.take 1 = [sl] := by simpa using h
    have h1 : 1 ≤ x.length := by
      have := congrArg List.length h
      simp at this
      omega
    split
    · exact h1
    · split
      · exact h1
      · rw [List.length_take]; omega
theorem tailL_length (sl : α) (x : List α) : (tailL sl x).length ≤ x.length := by
  unfold tailL
  split
  · omega
  · split
    · rw [List.length_drop]; omega
    · split <;> (rw [List.length_drop]; omega)
theorem normL_length (sl dt : α) (x : List α) : (normL sl dt x).length ≤ 3 * x.length + 4 := by
  have h1 := joinL_length [sl] ((cutL sl (tailL sl x)).foldl (nstep dt (rootL sl x)) [])
  have h2 := nfold_length dt (rootL sl x) (cutL sl (tailL sl x)) []
  have h3 := nfold_sum dt (rootL sl x) (cutL sl (tailL sl x)) []
  have h4 := cutL_length_sum sl (tailL sl x)
  have h5 := rootL_length sl x
  have h6 := tailL_length sl x
  simp at h1 h2 h3 h4
  unfold normL
  split
  · simp
  · split
    · simp
    · rw [List.length_append]
      omega
end
end Mine
namespace Mine
section
variable {α : Type} [DecidableEq α] {dt : α} {root c : List α} {acc : List (List α)}
theorem nstep_skip (h : c = [] ∨ c = [dt]) : nstep dt root acc c = acc := if_pos h
theorem nstep_push (h : ¬ (c = [] ∨ c = [dt])) (h2 : c ≠ [dt, dt] ∨ (root = [] ∧ acc = []) ∨ acc.getLast? = some [dt, dt]) : nstep dt root acc c = acc ++ [c] := by
  unfold nstep; rw [if_neg h, if_pos h2]
theorem nstep_pop (h : ¬ (c = [] ∨ c = [dt])) (h2 : ¬ (c ≠ [dt, dt] ∨ (root = [] ∧ acc = []) ∨ acc.getLast? = some [dt, dt])) : nstep dt root acc c = acc.dropLast := by
  unfold nstep; rw [if_neg h, if_neg h2]
theorem normL_nil {sl : α} {x : List α} (h : ¬ x ≠ []) : normL sl dt x = [dt] := if_pos (Classical.not_not.mp h)
theorem normL_dot {sl : α} {x : List α} (h : x ≠ []) (h2 : ¬ rootL sl x ++ joinL [sl] ((cutL sl (tailL sl x)).foldl (nstep dt (rootL sl x)) []) ≠ []) : normL sl dt x = [dt] := by
  unfold normL; rw [if_neg h, if_pos (Classical.not_not.mp h2)]
theorem normL_path {sl : α} {x : List α} (h : x ≠ []) (h2 : rootL sl x ++ joinL [sl] ((cutL sl (tailL sl x)).foldl (nstep dt (rootL sl x)) []) ≠ []) : normL sl dt x = rootL sl x ++ joinL [sl] ((cutL sl (tailL sl x)).foldl (nstep dt (rootL sl x)) []) := by
  unfold normL; rw [if_neg h, if_neg h2]
end
end Mine
namespace Mine
section
variable {α : Type} [DecidableEq α]
theorem jstep_length (sl : α) (a c : List α) : (jstep sl a c).length ≤ a.length + c.length + 1 := by
  unfold jstep
  split
  · omega
  · split
    · rw [List.length_append]; omega
    · rw [List.length_append, List.length_cons]; omega
theorem jfold_length (sl : α) : ∀ (cs : List (List α)) (a : List α), (cs.foldl (jstep sl) a).length ≤ a.length + (cs.map (·.length)).sum + cs.length
  | [], a => by simp
  | c :: cs, a => by
    have h1 := jfold_length sl cs (jstep sl a c)
    have h2 := jstep_length sl a c
    show (cs.foldl (jstep sl) (jstep sl a c)).length ≤ _
    rw [List.map_cons, List.sum_cons, List.length_cons]
    omega
theorem jstep_new {sl : α} {a c : List α} (h : c.head? = some sl ∨ a = []) : jstep sl a c = c := if_pos h
theorem jstep_on {sl : α} {a c : List α} (h : ¬ (c.head? = some sl ∨ a = [])) (h2 : a.getLast? = some sl) : jstep sl a c = a ++ c := by unfold jstep; rw [if_neg h, if_pos h2]
theorem jstep_sep {sl : α} {a c : List α} (h : ¬ (c.head? = some sl ∨ a = [])) (h2 : ¬ a.getLast? = some sl) : jstep sl a c = a ++ (sl :: c) := by unfold jstep; rw [if_neg h, if_neg h2]
end
end Mine
namespace Mine
section
variable {α : Type} [DecidableEq α]
theorem joinL_length1 (sl : α) : ∀ ps : List (List α), ps ≠ [] → (joinL [sl] ps).length + 1 = (ps.map (·.length)).sum + ps.length
  | [], h => absurd rfl h
  | [p], _ => by simp [joinL]
  | p :: q :: r, _ => by
    have ih := joinL_length1 sl (q :: r) (by simp)
    rw [joinL_cons [sl] p (by simp), List.length_append, List.length_append, List.map_cons, List.sum_cons, List.length_cons (a := p)]
    simp only [List.length_cons, List.length_nil] at ih ⊢
    omega
theorem nstep_size (dt : α) (root : List α) (acc : List (List α)) (c : List α) : ((nstep dt root acc c).map (·.length)).sum + (nstep dt root acc c).length ≤ (acc.map (·.length)).sum + acc.length + (c.length + 1) := by
  unfold nstep
  split
  · omega
  · split
    · simp; omega
    · rcases List.eq_nil_or_concat acc with rfl | ⟨r, a, rfl⟩
      · simp
      · rw [List.concat_eq_append, List.dropLast_concat]
        simp
        omega
theorem nfold_size (dt : α) (root : List α) : ∀ (cs acc : List (List α)), ((cs.foldl (nstep dt root) acc).map (·.length)).sum + (cs.foldl (nstep dt root) acc).length ≤ (acc.map (·.length)).sum + acc.length + ((cs.map (·.length)).sum + cs.length)
  | [], acc => by simp
  | c :: cs, acc => by
    have h1 := nfold_size dt root cs (nstep dt root acc c)
    have h2 := nstep_size dt root acc c
    show ((cs.foldl (nstep dt root) (nstep dt root acc c)).map (·.length)).sum + (cs.foldl (nstep dt root) (nstep dt root acc c)).length ≤ _
    rw [List.map_cons, List.sum_cons, List.length_cons]
    omega
theorem root_tail (sl : α) (x : List α) : (rootL sl x).length + (tailL sl x).length ≤ x.length := by
  unfold rootL tailL
  split
  · simp
  · rename_i h
    have h : x.take 1 = [sl] := by simpa using h
    have h1 : 1 ≤ x.length := by
      have := congrArg List.length h
      simp at this
      omega
    split
    · rw [List.length_drop]; simp; omega
    · rename_i h2
      have h2 : (x.drop 1).take 1 = [sl] := by simpa using h2
      have h3 : 2 ≤ x.length := by
        have := congrArg List.length h2
        simp at this
        omega
      split
      · rw [List.length_drop]; simp; omega
      · rw [List.length_drop, List.length_take]; omega
theorem normL_size (sl dt : α) (x : List α) : (normL sl dt x).length ≤ x.length + 1 := by
  have h1 := nfold_size dt (rootL sl x) (cutL sl (tailL sl x)) []
  have h2 := cutL_length_sum sl (tailL sl x)
  have h3 := root_tail sl x
  unfold normL
  split
  · simp
  · split
    · simp
    · rw [List.length_append]
      generalize (cutL sl (tailL sl x)).foldl (nstep dt (rootL sl x)) [] = acc at *
      by_cases ha : acc = []
      · subst ha
        simp [joinL]
        omega
      · have h4 := joinL_length1 sl acc ha
        simp at h1
        omega
/-- the places, one behind each row -/
def gstep (sl dt : α) (acc : List (List α)) (c : List α) : List (List α) := acc ++ [normL sl dt (jstep sl (acc.getLast?.getD []) c)]
def goneL (sl dt : α) (root : List α) (cs : List (List α)) : List (List α) :=
  (cs.foldl (gstep sl dt) [root]).drop 1 ++ [normL sl dt (cs.foldl (jstep sl) root), cs.foldl (jstep sl) root]
theorem gfold_last (sl dt : α) : ∀ (cs : List (List α)) (acc : List (List α)), acc ≠ [] → ∃ acc' p, cs.foldl (gstep sl dt) acc = acc' ++ [p] ∧ p.length ≤ (acc.getLast?.getD []).length + (cs.map (·.length)).sum + 2 * cs.length ∧ acc'.length + 1 = acc.length + cs.length
  | [], acc, h => by
    rcases List.eq_nil_or_concat acc with rfl | ⟨r, a, rfl⟩
    · exact absurd rfl h
    · exact ⟨r, a, by simp, by simp, by simp⟩
  | c :: cs, acc, _ => by
    obtain ⟨acc', p, h1, h2, h3⟩ := gfold_last sl dt cs (gstep sl dt acc c) (by simp [gstep])
    have h4 := normL_size sl dt (jstep sl (acc.getLast?.getD []) c)
    have h5 := jstep_length sl (acc.getLast?.getD []) c
    refine ⟨acc', p, h1, ?_, ?_⟩
    · rw [List.map_cons, List.sum_cons, List.length_cons]
      simp only [gstep, List.getLast?_append, List.getLast?_singleton, Option.some_or, Option.getD_some] at h2
      omega
    · simp only [gstep, List.length_append, List.length_cons, List.length_nil] at h3
      rw [List.length_cons]
      omega
end
end Mine
namespace Mine
theorem gfold_step {α : Type} [DecidableEq α] {sl dt : α} {pre : List (List α)} {a acc' : List (List α)} {p c : List α} (h : pre.foldl (gstep sl dt) a = acc' ++ [p]) : (pre ++ [c]).foldl (gstep sl dt) a = (acc' ++ [p]) ++ [normL sl dt ([c].foldl (jstep sl) p)] := by
  rw [List.foldl_append, h]
  show gstep sl dt (acc' ++ [p]) c = _
  simp [gstep]
end Mine
end
section
open PySem PySem.W PyProof.Rows PySem.Calls PyProof.V
namespace Mine
set_option maxRecDepth 100000
section
variable {prog : Program} {w : World} {A : Around} {E : Value → Shared → Prop} {s : Shared} {h₀ : Heap} {L D a b : Addr} {m : Str → Option Value} {news news' : List (Addr × Obj)} {n n2 : Nat} {vs us zs : List Value} {v : Value} {value slice : PySem.Expr} {u : Tok} {Q : Value → Shared → Prop}
theorem truthy_L {Q : Bool → Shared → Prop} {t : Bool} (N : News h₀ L s.heap news) (hm : (D, listOf vs.toArray n) ∈ news) (hz : vs.length ≤ 1000000) (e : (!vs.isEmpty) = t) (h : ∀ k, Q t { s with toks := k }) : wpAny (model prog w) A (truthy (.ref D)) Q E s := by
  refine wpAny_truthy_list (isList_lst (N _ hm).1) (by rw [List.size_toArray]; omega) ?_
  rw [List.isEmpty_toArray, e]
  exact h _
theorem last_L (N : News h₀ L s.heap news) (hm : (D, listOf us.toArray n) ∈ news) (e : us = vs ++ [v]) (hz : us.length ≤ 1000000) (h : Q v s)
    (hs : subscripted slice false (.ref D) (.int (-1) u) = operate [.ref D, .int (-1) u] (getItem (.ref D) (.int (-1) u)) := by with_unfolding_all rfl) :
    wpAny (model prog w) A (subscriptTail value slice (.ref D) (.int (-1) u)) Q E s := by
  subst e
  refine kde_neg (isList_lst (N _ hm).1) (by decide) (by decide) (j := vs.length) ?_ ?_ h hs
  · rw [List.length_append]
    simp [seqIndex?]
    omega
  · simp
theorem pop_L (F : Fr h₀ L s.heap m) (N : News h₀ L s.heap news) (hm : (D, listOf us.toArray n) ∈ news) (e : us = vs ++ [v]) (U : Upd D (listOf us.toArray n) (listOf vs.toArray (n + 1)) news news') (hz : us.length ≤ 1000000) (h : ∀ h', Fr h₀ L h' m → News h₀ L h' news' → Q v { s with heap := h' }) :
    wpAny (model prog w) A (call (.builtin "list.pop") [.ref D]) Q E s := by
  subst e
  refine kl_pop F N (p := vs) (y := v) ?_ U (by simpa [sizeLine_eq] using (by simp at hz; omega)) h
  have := kpa_last v vs
  simpa using this
theorem app_L (F : Fr h₀ L s.heap m) (N : News h₀ L s.heap news) (U : Upd D (listOf vs.toArray n) (listOf (vs ++ [v]).toArray (n + 1)) news news') (hz : vs.length ≤ 1000000) (h : ∀ h', Fr h₀ L h' m → News h₀ L h' news' → Q .none { s with heap := h' }) :
    wpAny (model prog w) A (call (.builtin "list.append") [.ref D, v]) Q E s := by
  obtain ⟨pre, post, rfl, rfl, a, b⟩ := U.split
  have z := N (D, listOf vs.toArray n) (List.mem_append.mpr (.inr (.head _)))
  refine call_meets PySem.F.slot_list_append ⟨_, z.1, rfl⟩ PySem.F.entry_list_append (PySem.F.args_list_append_2 _ _) (PySem.list_append D _ n v (by rw [List.size_toArray, sizeLine_eq]; omega)) ⟨z.1, h _ (F.change (Heap.SameBut.update ..) z.2.1 z.2.2) (kl_turn _ N a b ?_ ?_)⟩
  · simp
  · simp
theorem add_L (F : Fr h₀ L s.heap m) (N : News h₀ L s.heap news) (ha : (a, listOf vs.toArray n) ∈ news) (hb : (b, listOf us.toArray n2) ∈ news) (hz : vs.length + us.length ≤ 1000000)
    (h : ∀ D h', Fr h₀ L h' m → News h₀ L h' ((D, listOf (vs ++ us).toArray 0) :: news) → (∀ p ∈ news, p.1 < D) → Q (.ref D) { s with heap := h' }) : wpAny (model prog w) A (binaryOp .Add (.ref a) (.ref b)) Q E s :=
  kmk_add_lit F N (isList_lst (N _ ha).1) (isList_lst (N _ hb).1) rfl h (by rw [sizeLine_eq]; simp; omega)

theorem rev_L {vk : Value} {ops : List Value} (F : Fr h₀ L s.heap m) (N : News h₀ L s.heap news) (ha : (a, listOf vs.toArray n) ∈ news) (pk : IsPart vk (some (-1))) (hz : vs.length ≤ 1000000)
    (h : ∀ D h', Fr h₀ L h' m → News h₀ L h' ((D, listOf vs.reverse.toArray 0) :: news) → (∀ p ∈ news, p.1 < D) → Q (.ref D) { s with heap := h' })
    (hs : subscripted slice false (.ref a) (.ref s.heap.objs.size) = operate ops (getItem (.ref a) (.ref s.heap.objs.size)) := by with_unfolding_all rfl) (ht : ∀ r, letTemporaryGo value (.ref a) r = pure () := by intro _; with_unfolding_all rfl) :
    wpAny (model prog w) A (subscriptTail value slice (.ref a) (.ref s.heap.objs.size)) Q E { s with heap := s.heap.push { cls := .type "slice", data := .fields #[.none, .none, vk] } } :=
  krv_lit (its := vs.toArray) (zs := vs.reverse) F N (isList_lst (N _ ha).1) pk rfl h hs ht (by rw [List.size_toArray, sizeLine_eq]; omega)
theorem cut_L {vl vu : Value} {lo hi : Option Int} (F : Fr h₀ L s.heap m) (N : News h₀ L s.heap news) (ha : (a, listOf vs.toArray n) ∈ news) (pl : IsPart vl lo) (pu : IsPart vu hi) (hz : vs.length ≤ 1000000) (e : cutS vs lo hi = us)
    (h : ∀ D h', Fr h₀ L h' m → News h₀ L h' ((D, listOf us.toArray 0) :: news) → (∀ p ∈ news, p.1 < D) → Q (.ref D) { s with heap := h' })
    (hs : subscripted slice false (.ref a) (.ref s.heap.objs.size) = operate [.ref s.heap.objs.size, .ref a] (getItem (.ref a) (.ref s.heap.objs.size)) := by with_unfolding_all rfl) (ht : ∀ r, letTemporaryGo value (.ref a) r = pure () := by intro _; with_unfolding_all rfl) :
    wpAny (model prog w) A (subscriptTail value slice (.ref a) (.ref s.heap.objs.size)) Q E { s with heap := s.heap.push { cls := .type "slice", data := .fields #[vl, vu, .none] } } := by
  refine kmk_slice_lit F N (isList_lst (N _ ha).1) pl pu ?_ h hs ht (by rw [List.size_toArray, sizeLine_eq]; omega)
  subst e
  have e2 : slicePick vs.toArray lo hi none = (cutS vs lo hi).toArray := by
    rw [kmk_pick_nat _ (PySem.sliceBounds_plain ..)]
    rfl
  rw [e2]
end

/-- what a call hands back: one new object -/
def New (P : Obj → Prop) (h h' : Heap) (v : Value) : Prop := ∃ a o, v = .ref a ∧ h.get? a = none ∧ h'.get? a = some o ∧ P o
section
variable {w : World} {mean : ExcName → Option Value} {mg mb : Str → Option Value} {A : Around} {s : Shared} {h₀ : Heap} {L f : Addr} {m : Str → Option Value} {news : List (Addr × Obj)} {vs : List Value} {d u : Nat} {Pre : Heap → Prop} {Out : Heap → Heap → Value → Prop}
  {Q E : Value → Shared → Prop}
theorem call_new (P : Obj → Prop) (F : Fr h₀ L s.heap m) (X₀ : (hd.heap_39 w.params).In h₀) (N : News h₀ L s.heap news) (T : TopM mean mg mb h₀) (S : Spec w mean mg mb f vs d u Pre Out) (ho : ∀ h h' v, Out h h' v → New P h h' v) (hr : Room A d u) (pre : Pre s.heap)
    (h : ∀ a o h' tk', P o → Fr h₀ L h' m → News h₀ L h' ((a, o) :: news) → (∀ p ∈ news, p.1 ≠ a) → Q (.ref a) { s with heap := h', toks := tk' }) :
    wpAny (model PP w) A (call (.ref f) vs) Q E s := by
  refine call_spec F X₀ N T S hr pre fun v h' tk' F' N' kk q => ?_
  obtain ⟨a, o, rfl, hn, hs, hp⟩ := ho _ _ _ q
  have hne : ∀ b o, s.heap.get? b = some o → b ≠ a := by
    rintro b o e rfl
    rw [hn] at e; cases e
  have hL : a ≠ L := by
    obtain ⟨o', _, _, h1, _⟩ := F.ns
    exact (hne _ _ h1).symm
  have h0 : h₀.get? a = none := by
    cases e : h₀.get? a with
    | none => rfl
    | some o => exact absurd rfl (hne _ _ (F.keep _ _ e))
  refine h a o h' tk' hp F' (fun p hp => ?_) fun p hp => hne _ _ (N p hp).1
  rcases List.mem_cons.mp hp with rfl | hp
  · exact ⟨hs, hL, h0⟩
  · exact N' p hp
end
end Mine
namespace Mine
theorem All2.inv_nil {α β : Type} {R : α → β → Prop} {l : List α} (h : All2 R l []) : l = [] := by cases h; rfl
theorem All2.inv_snoc {α β : Type} {R : α → β → Prop} {b : β} : ∀ {r : List β} {l : List α}, All2 R l (r ++ [b]) → ∃ l' a, l = l' ++ [a] ∧ All2 R l' r ∧ R a b
  | [], _, .cons x .nil => ⟨[], _, rfl, .nil, x⟩
  | _ :: _, _, .cons x y =>
    let ⟨l', a, e, h1, h2⟩ := All2.inv_snoc y
    ⟨_ :: l', a, by rw [e]; rfl, .cons x h1, h2⟩
/-- the last of them, if any stands -/
theorem All2.ends {α β : Type} {R : α → β → Prop} {l : List α} {r : List β} (h : All2 R l r) : (l = [] ∧ r = []) ∨ ∃ l' a r' b, l = l' ++ [a] ∧ r = r' ++ [b] ∧ All2 R l' r' ∧ R a b := by
  rcases List.eq_nil_or_concat r with rfl | ⟨r', b, rfl⟩
  · exact .inl ⟨h.inv_nil, rfl⟩
  · rw [List.concat_eq_append] at h ⊢
    obtain ⟨l', a, e, h1, h2⟩ := h.inv_snoc
    exact .inr ⟨l', a, r', b, e, rfl, h1, h2⟩
end Mine
namespace Mine
theorem at_news {h₀ h : Heap} {L D : Addr} {news : List (Addr × Obj)} {o : Obj} (N : News h₀ L h news) (hm : (D, o) ∈ news) : h.get? D = some o := (N _ hm).1
end Mine
namespace Mine
theorem all2_eq {α β : Type} {R : α → β → Prop} {l : List α} {r r' : List β} (e : r = r') (h : All2 R l r') : All2 R l r := e ▸ h
end Mine
namespace Mine
theorem Back.S {h₀ h' : Heap} {L : Addr} {s₀ : Shared} {m : Str → Option Value} {x : Str} {l : List Nat} {t : Tok} {tk' : Nat} (F : Fr h₀ L h' m) (e : x = ⟨l.toArray⟩) : Back (fun _ _ v => ∃ t', v = mkS l t') h₀ s₀ (.ret (.str x t)) { s₀ with heap := h', toks := tk' } :=
  Back.ret F ⟨t, by rw [e]⟩
theorem Back.B {h₀ h' : Heap} {L : Addr} {s₀ : Shared} {m : Str → Option Value} {x : Array UInt8} {l : List UInt8} {t : Tok} {tk' : Nat} (F : Fr h₀ L h' m) (e : x = l.toArray) : Back (fun _ _ v => ∃ t', v = mkB l t') h₀ s₀ (.ret (.bytes x t)) { s₀ with heap := h', toks := tk' } :=
  Back.ret F ⟨t, by rw [e]⟩
end Mine
namespace Mine
section
variable {prog : Program} {w : World} {A : Around} {E : Value → Shared → Prop} {s : Shared} {h₀ : Heap} {L : Addr} {m : Str → Option Value} {news : List (Addr × Obj)} {t u : Tok} {Q : Value → Shared → Prop}
theorem split_B {l : List UInt8} {c : UInt8} {y : Array UInt8} (hF : Fr h₀ L s.heap m) (hN : News h₀ L s.heap news) (hy : y = [c].toArray) (hz : l.length ≤ 1000000)
    (h : ∀ D vs h' k, All2 BItem vs (cutL c l) → Fr h₀ L h' m → News h₀ L h' ((D, W.listOf vs.toArray 0) :: news) → (∀ p ∈ news, p.1 < D) → Q (.ref D) { s with heap := h', toks := k }) :
    wpAny (model prog w) A (call (.builtin "bytes.split") [.bytes l.toArray t, .bytes y u]) Q E s := by
  subst hy
  refine split_bytes hz fun vs k hv => h _ vs _ k hv (hF.push _) (fun p hp => ?_) fun p hp => Heap.lt_size (hN p hp).1
  rcases List.mem_cons.mp hp with rfl | hp
  · exact ⟨Heap.get?_push_size _ rfl, Nat.ne_of_gt hF.ns.lt, next_is_new hF⟩
  · exact ⟨Heap.get?_push_of_some _ (hN p hp).1, (hN p hp).2⟩
theorem join_B {sep : List UInt8} {y : Array UInt8} {D : Addr} {vs : List Value} {cs : List (List UInt8)} {n : Nat} (hy : y = sep.toArray) (hl : s.heap.get? D = some (lstObj vs n)) (hv : All2 BItem vs cs) (hz : (cs.map (·.length)).sum + cs.length * sep.length ≤ 10000000)
    (h : ∀ t' k, Q (.bytes (joinL sep cs).toArray t') { s with toks := k }) : wpAny (model prog w) A (call (.builtin "bytes.join") [.bytes y t, .ref D]) Q E s := by
  subst hy
  exact join_bytes hl hv hz h
end
end Mine
namespace Mine
theorem fold_S {f : List Nat → List Nat → List Nat} {l acc c x : List Nat} {pre : List (List Nat)} {t : Tok} (e : pre.foldl f l = acc) (e2 : f acc c = x) : ∃ t', Value.str ⟨x.toArray⟩ t = mkS ((pre ++ [c]).foldl f l) t' :=
  ⟨t, by rw [List.foldl_append, e]; show _ = mkS (f acc c) t; rw [e2]⟩
theorem fold_B {f : List UInt8 → List UInt8 → List UInt8} {l acc c x : List UInt8} {pre : List (List UInt8)} {t : Tok} (e : pre.foldl f l = acc) (e2 : f acc c = x) : ∃ t', Value.bytes x.toArray t = mkB ((pre ++ [c]).foldl f l) t' :=
  ⟨t, by rw [List.foldl_append, e]; show _ = mkB (f acc c) t; rw [e2]⟩
end Mine
namespace Mine
/-- what a call hands back: a new list -/
def ListOut {γ : Type} (Item : Value → γ → Prop) (cs : List γ) (h h' : Heap) (v : Value) : Prop := ∃ a ys k, v = .ref a ∧ h.get? a = none ∧ h'.get? a = some (lstObj ys k) ∧ All2 Item ys cs
theorem ListOut.new {γ : Type} {Item : Value → γ → Prop} {cs : List γ} (h h' : Heap) (v : Value) (q : ListOut Item cs h h' v) : New (fun o => ∃ ys k, o = lstObj ys k ∧ All2 Item ys cs) h h' v :=
  let ⟨a, ys, k, e, n, s, hv⟩ := q
  ⟨a, _, e, n, s, ys, k, rfl, hv⟩
theorem Back.L {γ : Type} {Item : Value → γ → Prop} {cs : List γ} {h₀ h' : Heap} {L D : Addr} {s₀ : Shared} {m : Str → Option Value} {ns : List (Addr × Obj)} {ys : List Value} {k : Nat} {tk' : Nat} (F : Fr h₀ L h' m) (N : News h₀ L h' ((D, W.listOf ys.toArray k) :: ns)) (hv : All2 Item ys cs) :
    Back (ListOut Item cs) h₀ s₀ (.ret (.ref D)) { s₀ with heap := h', toks := tk' } :=
  Back.ret F ⟨D, ys, k, rfl, (N _ (.head _)).2.2, (N _ (.head _)).1, hv⟩
theorem star_base {prog : Program} {w : World} {A : Around} {E : Value → Shared → Prop} {s : Shared} {h₀ : Heap} {L a : Addr} {m : Str → Option Value} {news : List (Addr × Obj)} {vs : List Value} {n : Nat} {Q : List Value → Shared → Prop} (F : Fr h₀ L s.heap m) (N : News h₀ L s.heap news) (ha : h₀.get? a = some (lstObj vs n))
    (hz : vs.length ≤ 1000000) (h : ∀ h', Fr h₀ L h' m → News h₀ L h' news → Q vs { s with heap := h' }) : StarOf (model prog w) A E (.ref a) Q s := by
  have D := F.keep _ _ ha
  have hT' : s.TypeIs (.ref a) "list" := ⟨_, D, rfl⟩
  have z : wpAny (model prog w) A (collect (.ref a)) Q E s := by
    refine wpAny_collect_seq (T := "list") (items := vs.toArray) a (.inl rfl) D rfl rfl (fun h' hk => ?_) (by rw [List.size_toArray, sizeLine_eq]; omega)
    have := h h' (F.keeps hk) (fun p hp => ⟨hk _ _ (N p hp).1, (N p hp).2⟩)
    simpa using this
  unfold StarOf notIterableAtAll
  exact wpAny_bind (wpAny_specialOf hT' PySem.F.slot_list_iter.lookup (wpAny_pure ⟨rfl, z⟩))
end Mine
namespace Mine
theorem All2.append {α β : Type} {R : α → β → Prop} {l' : List α} {r' : List β} : ∀ {l : List α} {r : List β}, All2 R l r → All2 R l' r' → All2 R (l ++ l') (r ++ r')
  | _, _, .nil, h => h
  | _, _, .cons a b, h => .cons a (All2.append b h)
theorem All2.drop1 {α β : Type} {R : α → β → Prop} {l : List α} {r : List β} (h : All2 R l r) : All2 R (l.drop 1) (r.drop 1) := by
  cases h
  · exact .nil
  · assumption
theorem All2.nil_on {α β : Type} {R : α → β → Prop} {l : List α} {r : List β} (h : All2 R l r) : All2 R (l ++ []) r := by rw [List.append_nil]; exact h
end Mine
end
section
open PySem PySem.W PyProof.Rows PySem.Calls
namespace Mine
theorem kf_rest : PySem.Challenge.rw_ik0040_01 = PySem.Challenge.rw_ik0040_01 ∧ hd.heap_39 = hd.heap_39 := by
  k_with_none
  k_fill
  exact ⟨rfl, rfl⟩
theorem try_calm {prog : Program} {w : World} {A : Around} {E : Value → Shared → Prop} {s : Shared} {env : Env} {body orelse : List Stmt} {h₀ : ExceptHandler} {hs : List ExceptHandler} {pos : Pos} {Q : Flow → Shared → Prop}
    (h : wpAny (model prog w) A (execs body env) (fun f s₁ => match f with | .next => wpAny (model prog w) A (execs orelse env) Q E s₁ | f => Q f s₁) (fun _ _ => False) s) :
    wpAny (model prog w) A (exec (.Try body (h₀ :: hs) orelse [] pos) env) Q E s :=
  wpAny_Try_except (wpAny_mono h (fun _ _ x => x) fun _ _ x => x.elim)
abbrev tupObj (vs : List Value) : Obj := { cls := .type "tuple", data := .seq vs.toArray }
section
variable {w : World} {mean : ExcName → Option Value} {mg mb : Str → Option Value} {name qual : Str} {params : Arguments} {body : List Stmt} {scope : Scope} {dV kV doc pm cdv ct oc : Value} {an od : Option Addr} {osl : Array (Option Value)} {f : Addr} {args : List Value} {vs : List Value} {d u : Nat} {Pre : Heap → Prop} {O : Value → Prop}
/-- a def with a star parameter: the tuple of the rest stands in the base heap of its body -/
theorem spec_rest (binds : Value → List (Str × Value)) (ho : (hd.heap_39 w.params).lookup f = some ⟨oc, od, .func (fnOf name qual params body scope dV kV doc pm an cdv ct), osl⟩) (hcd : codeIn (hd.heap_39 w.params) cdv qual = true)
    (hbind : bindArgs (fnOf name qual params body scope dV kV doc pm an cdv ct) ⟨args, []⟩ = (newTuple vs >>= fun t => pure (binds t))) (hz : vs.length ≤ 1000000) (hloc : ∀ D, ((binds (.ref D)).all fun x => decide (scope.names.lookup x.1 = some .local)) = true)
    (hcell : ∀ x ∈ scope.names, x.2 ≠ .cell) (hco : scope.isCoroutine = false) (hgen : scope.isGenerator = false) (hk : scope.kind = .function) (hpre : ∀ h h', Keeps h h' → Pre h → Pre h')
    (h : ∀ (A : Around) (h₀ : Heap) (L D : Addr) (s : Shared), Room (A.deeper (envOf qual scope L f cdv)) d u → (hd.heap_39 w.params).In h₀ → TopM mean mg mb h₀ → Pre h₀ → h₀.get? D = some (tupObj vs) → Fr h₀ L s.heap (fun y => (binds (.ref D)).reverse.lookup y) → News h₀ L s.heap [] →
      wpAny (model PP w) (A.deeper (envOf qual scope L f cdv)) (execs body (envOf qual scope L f cdv)) (Back (fun _ _ v => O v) h₀ s) (fun _ _ => False) s) :
    Spec w mean mg mb f args (d + 1) (u + 3) Pre (fun _ _ v => O v) := by
  intro A s R hR KX T hp hret
  have k0 : Keeps s.heap (s.heap.push (tupObj vs)) := fun b o e => Heap.get?_push_of_some _ e
  refine codeAny_call_function (fd := fnOf name qual params body scope dV kV doc pm an cdv ct) (body := body) (by have := hR.dep; omega) (KX _ _ ho) rfl hco hgen rfl (codeRec_of KX hcd) ?_
  rw [hbind]
  refine wpAny_bind (wpAny_newTuple (wpAny_pure ?_) (by rw [sizeLine_eq]; omega))
  have X' := KX.keeps k0
  have T' := T.keeps k0
  refine wpAny_newFunctionEnv hcell (locs (hloc _)) (fun h₁ hns hsb => ⟨T'.nolimit.fresh _ hsb, codeAny_func ?_⟩) hk
  have hk₁ : Keeps (s.heap.push (tupObj vs)) h₁ := fun b o e => hsb.extBut b o (Nat.ne_of_lt (Heap.lt_size e)) (Heap.get?_push_of_some _ e)
  refine wpAny_mono (h A (s.heap.push (tupObj vs)) _ s.heap.objs.size { s with heap := h₁, toks := s.toks + (binds (.ref s.heap.objs.size)).length } hR.deeper X' T' (hpre _ _ k0 hp) (Heap.get?_push_size _ rfl) ⟨hns, hk₁, Nat.le_refl _⟩ News.nil) (fun fl s' b => ?_) fun _ _ x => x.elim
  obtain ⟨h', tk', rfl, k, o⟩ := b
  exact hret _ h' tk' (k0.trans k) o
end
theorem join_binds (a : Value) (vs : List Value) {name qual : Str} {params : Arguments} {body : List Stmt} {scope : Scope} {dV kV doc pm cdv ct oc : Value} {an od : Option Addr} {osl : Array (Option Value)} {w : World} (ho : (hd.heap_39 w.params).lookup 168 = some ⟨oc, od, .func (fnOf name qual params body scope dV kV doc pm an cdv ct), osl⟩) :
    bindArgs (fnOf name qual params body scope dV kV doc pm an cdv ct) ⟨a :: vs, []⟩ = (newTuple vs >>= fun t => pure [(Str.ofString "a", a), (Str.ofString "p", t)]) := by
  have e := ho
  revert e
  intro e
  cases e
  cases vs
  · rfl
  · rfl
end Mine
end
section
open PySem PySem.W PyProof.Rows PySem.Calls PyProof.V
namespace Mine
set_option maxRecDepth 100000
theorem all2_of_paired {γ δ : Type} {Item : Value → γ → Prop} {Got : Value → δ → Prop} {f : γ → δ} {G : Value → Value → Prop} : ∀ {vs ys : List Value} {cs : List γ}, Paired G vs ys → All2 Item vs cs → (∀ v y c, c ∈ cs → Item v c → G v y → Got y (f c)) → All2 Got ys (cs.map f)
  | _, _, _, .nil, .nil, _ => .nil
  | _, _, _, .cons g p, .cons i a, h => .cons (h _ _ _ (.head _) i g) (all2_of_paired p a fun v y c hc => h v y c (.tail _ hc))
section
variable {prog : Program} {w : World} {A : Around} {E : Value → Shared → Prop} {s : Shared} {h₀ : Heap} {L : Addr} {m : Str → Option Value} {news : List (Addr × Obj)}
theorem comp_walk {γ δ : Type} {Item : Value → γ → Prop} {Got : Value → δ → Prop} {cs : List γ} (f : γ → δ) {env : Env} {elt : Expr} {x : Str} {scope : Scope} {Q : Value → Shared → Prop} {o₀ : Obj} {fp : List Addr} {P : Nat → Value → Prop} {St : Nat → Heap → Prop} {n : Nat}
    (W : Walks prog w A s.heap.objs.size fp [s.heap.objs.size] n P St) (hst : St 0 (s.heap.push o₀)) (hfp : ∀ b ∈ fp, b < (s.heap.push o₀).objs.size) (hz : n ≤ 1000000) (hn : cs.length = n)
    (hws : ∀ vs : List Value, vs.length = n → (∀ (j : Nat) v, vs[j]? = some v → P j v) → All2 Item vs cs) (hP : ∀ i v, P i v → ∃ c ∈ cs, Item v c)
    (hItem : ∀ v c c', Item v c → Item v c' → c = c')
    (F : Fr h₀ L s.heap m) (N : News h₀ L s.heap news)
    (g2 : ∀ C c v s₂ m₂ E', c ∈ cs → Item v c → s₂.heap.Ns C m₂ → m₂ x = some v → (∀ b o, s.heap.get? b = some o → s₂.heap.get? b = some o) → wpAny (model prog w) A (eval elt (compEnv scope C env)) (fun y s₃ => Got y (f c) ∧ PySem.Keeps s₂ s₃) E' s₂)
    (g3 : ∀ D ys k h' tk, All2 Got ys (cs.map f) → Fr h₀ L h' m → News h₀ L h' ((D, lstObj ys k) :: news) → (∀ p ∈ news, p.1 ≠ D) → Q (.ref D) { s with heap := h', toks := tk }) :
    CompPost prog w A env scope x [] elt Q (.ref s.heap.objs.size) { s with heap := s.heap.push o₀ } := by
  have up : ∀ (h' : Heap), (∀ b o', b ∉ [s.heap.objs.size] → (s.heap.push o₀).get? b = some o' → h'.get? b = some o') → ∀ b o', s.heap.get? b = some o' → h'.get? b = some o' :=
    fun h' hk b o' e => hk b o' (PyProof.Rows.not_iter_of_old e) (Heap.get?_push_of_some _ e)
  refine ⟨fun _ => true, fun v y => ∃ c ∈ cs, Item v c ∧ Got y (f c), s.heap.objs.size, fp, [s.heap.objs.size], n, P, St, rfl, W, by rw [sizeLine_eq]; omega, hst, hfp, ⟨?_, ?_⟩, ?_⟩
  · intro C i v s₃ m₃ E' _ _ _ _ _
    exact wpAny_pure ⟨rfl, _, _, rfl, fun _ _ e => e⟩
  · intro C i v s₃ m₃ E' hPi _ hn hm hk _
    obtain ⟨c, hc, hi⟩ := hP i v hPi
    exact wpAny_mono (g2 C c v s₃ m₃ E' hc hi hn hm (up _ hk)) (fun y s₄ q => ⟨⟨c, hc, hi, q.1⟩, q.2⟩) fun _ _ e => e
  · intro D h' tk ys vs hnew _ hpl hlen hPv hF hk
    obtain ⟨k, hpl⟩ := hpl
    have hF : Paired (fun v y => ∃ c ∈ cs, Item v c ∧ Got y (f c)) vs ys.toList := by
      have e : vs.filter (fun _ => true) = vs := List.filter_eq_self.mpr fun _ _ => rfl
      rw [e] at hF
      exact hF
    have hne : ∀ b o, s.heap.get? b = some o → b ≠ D := by
      rintro b o e rfl
      rw [Heap.get?_push_of_some _ e] at hnew
      cases hnew
    have hL : D ≠ L := by
      obtain ⟨o', _, _, h1, _⟩ := F.ns
      exact (hne _ _ h1).symm
    have h0 : h₀.get? D = none := by
      cases e : h₀.get? D with
      | none => rfl
      | some o => exact absurd rfl (hne _ _ (F.keep _ _ e))
    refine g3 D ys.toList k h' tk ?_ (F.keeps (up h' hk)) (fun p hp => ?_) fun p hp => hne _ _ (N p hp).1
    · refine all2_of_paired hF (hws vs hlen hPv) fun v y c hc hi q => ?_
      obtain ⟨c', _, hi', hg⟩ := q
      rw [hItem v c c' hi hi']
      exact hg
    · rcases List.mem_cons.mp hp with rfl | hp
      · refine ⟨?_, hL, h0⟩
        show h'.get? D = some (lstObj ys.toList k)
        unfold lstObj
        rw [Array.toArray_toList]
        exact hpl
      · exact ⟨up h' hk _ _ (N p hp).1, (N p hp).2⟩

/-- a comprehension over a text -/
theorem comp_S {δ : Type} {Got : Value → δ → Prop} {l : List Nat} {t : Tok} (f : Nat → δ) {env : Env} {elt : Expr} {x : Str} {scope : Scope} {Q : Value → Shared → Prop} (hh : A.handled = none) (hz : l.length ≤ 1000000)
    (F : Fr h₀ L s.heap m) (N : News h₀ L s.heap news)
    (g2 : ∀ C c v s₂ m₂ E', c ∈ l → (∃ u, v = .str ⟨#[c]⟩ u) → s₂.heap.Ns C m₂ → m₂ x = some v → (∀ b o, s.heap.get? b = some o → s₂.heap.get? b = some o) → wpAny (model prog w) A (eval elt (compEnv scope C env)) (fun y s₃ => Got y (f c) ∧ PySem.Keeps s₂ s₃) E' s₂)
    (g3 : ∀ D ys k h' tk, All2 Got ys (l.map f) → Fr h₀ L h' m → News h₀ L h' ((D, lstObj ys k) :: news) → (∀ p ∈ news, p.1 ≠ D) → Q (.ref D) { s with heap := h', toks := tk }) :
    wpAny (model prog w) A (pyIter (.str ⟨l.toArray⟩ t)) (CompPost prog w A env scope x [] elt Q) E s := by
  refine wpAny_pyIter_str fun o St W hst => ?_
  have hsz : (⟨l.toArray⟩ : PySem.Str).cps.size = l.length := List.size_toArray
  have key : ∀ (l : List Nat) (vs : List Value), vs.length = l.length → (∀ (j : Nat) v, vs[j]? = some v → SignAt ⟨l.toArray⟩ j v) → All2 (fun v c => ∃ u, v = .str ⟨#[c]⟩ u) vs l := by
    intro l
    induction l with
    | nil =>
      intro vs hl _
      rw [List.eq_nil_of_length_eq_zero hl]
      exact .nil
    | cons c r ih =>
      intro vs hl h
      cases vs with
      | nil => cases hl
      | cons v vs =>
        obtain ⟨c', u, e, hv⟩ := h 0 v rfl
        have e : c = c' := by simpa using e
        subst e
        refine .cons ⟨u, hv⟩ (ih vs (by simpa using hl) fun j v' hj => ?_)
        obtain ⟨c2, u2, e2, hv2⟩ := h (j + 1) v' (by simpa using hj)
        exact ⟨c2, u2, by simpa using e2, hv2⟩
  refine comp_walk (Item := fun v c => ∃ u, v = .str ⟨#[c]⟩ u) f (W A hh) hst (fun b hb => ?_) (by rw [hsz]; exact hz) hsz.symm (fun vs hl h => key l vs (hl.trans hsz) h) (fun i v hp => ?_) ?_ F N g2 g3
  · rw [List.mem_singleton.mp hb, Heap.size_push]; exact Nat.lt_succ_self _
  · obtain ⟨c, u, e, hv⟩ := hp
    have e : l[i]? = some c := by simpa using e
    exact ⟨c, List.mem_of_getElem? e, u, hv⟩
  · rintro v c c' ⟨u, rfl⟩ ⟨u', e⟩
    injection e with e _
    injection e with e
    simpa using e

/-- a comprehension over a list of the ledger -/
theorem comp_L {γ δ : Type} {Item : Value → γ → Prop} {Got : Value → δ → Prop} {a : Addr} {vs : List Value} {cs : List γ} {n : Nat} (f : γ → δ) {env : Env} {elt : Expr} {x : Str} {scope : Scope} {Q : Value → Shared → Prop} (hh : A.handled = none) (hv : All2 Item vs cs) (hz : cs.length ≤ 1000000)
    (hItem : ∀ v c c', Item v c → Item v c' → c = c')
    (F : Fr h₀ L s.heap m) (N : News h₀ L s.heap news) (ha : (a, listOf vs.toArray n) ∈ news)
    (g2 : ∀ C c v s₂ m₂ E', c ∈ cs → Item v c → s₂.heap.Ns C m₂ → m₂ x = some v → (∀ b o, s.heap.get? b = some o → s₂.heap.get? b = some o) → wpAny (model prog w) A (eval elt (compEnv scope C env)) (fun y s₃ => Got y (f c) ∧ PySem.Keeps s₂ s₃) E' s₂)
    (g3 : ∀ D ys k h' tk, All2 Got ys (cs.map f) → Fr h₀ L h' m → News h₀ L h' ((D, lstObj ys k) :: news) → (∀ p ∈ news, p.1 ≠ D) → Q (.ref D) { s with heap := h', toks := tk }) :
    wpAny (model prog w) A (pyIter (.ref a)) (CompPost prog w A env scope x [] elt Q) E s := by
  have hl := (N _ ha).1
  have hlt : a < s.heap.objs.size := Heap.lt_size hl
  refine wpAny_pyIter_list (isList_lst hl) ?_
  have hlen := hv.length
  have whole : ∀ us : List Value, us.length = vs.toArray.size → (∀ (j : Nat) v, us[j]? = some v → vs.toArray[j]? = some v) → us = vs := fun us h1 h2 => by
    have e := PyProof.Rows.walked_is h1 h2
    simpa using e
  refine comp_walk (Item := Item) (cs := cs) f (Walks.list hh _ a (Nat.ne_of_lt hlt) vs.toArray) ⟨⟨_, Heap.get?_push_size _ rfl, rfl, rfl⟩, (isList_lst hl).at fun o e => Heap.get?_push_of_some _ e⟩ (fun b hb => ?_) (by rw [List.size_toArray]; omega) (by rw [List.size_toArray]; omega) (fun us h1 h2 => (whole us h1 h2) ▸ hv) (fun i v hp => ?_) hItem F N g2 g3
  · rw [Heap.size_push]
    rcases List.mem_cons.mp hb with rfl | hb
    · exact Nat.lt_succ_self _
    · rw [List.mem_singleton.mp hb]; exact Nat.lt_succ_of_lt hlt
  · obtain ⟨c, h1, h2, _⟩ := hv.at (i := i) (by simpa using hp)
    exact ⟨c, h1 ▸ List.mem_append_right _ (List.mem_cons_self ..), h2⟩
end
end Mine
namespace Mine
theorem nameG_B {M : Model} {A : Around} {E : Value → Shared → Prop} {s : Shared} {h₀ : Heap} {L : Addr} {m : Str → Option Value} {env : Env} {K : Frag} {mg mb : Str → Option Value} {p : Program} {loose : List Str} {x : Str} {pos : Pos} {v : Value} {Q : Value → Shared → Prop} (F : Fr h₀ L s.heap m) (X : K.In h₀) (T : TopRead p loose mg mb h₀)
    (e : nsIn K mainGlobals x = some none) (hv : bootBuiltins x = some v) (hn : x ≠ "__name__") (h : Q v s) (hg : env.globals = mainGlobals) (hb : env.builtins = builtinsNs) (hk : env.scope.kind = .function) (hx : env.kindOf x = some .globalImplicit) (hd : (x == ("__debug__" : Str)) = false) :
    wpAny M A (eval (.Name x pos) env) Q E s :=
  Name_function_global hk hx (loadGlobal_builtin (env := env) (by rw [hg]; exact T.g.keeps F.keep) (mg_none_of X T.g e) (by rw [hb]; exact T.b.keeps F.keep) ((T.builtins x hn).trans hv) h) hd
end Mine
namespace Mine
theorem intsOf : ∀ {ys : List Value} {l : List Nat}, All2 (fun y (c : Nat) => ∃ u, y = .int (c : Nat) u) ys l → IntsAre ys (l.map fun (c : Nat) => (c : Int))
  | _, _, .nil => .nil
  | _, _, .cons ⟨u, e⟩ r => by subst e; exact .cons _ _ (intsOf r)
theorem bytes_L {prog : Program} {w : World} {A : Around} {E : Value → Shared → Prop} {s : Shared} {h₀ : Heap} {L D : Addr} {m : Str → Option Value} {news : List (Addr × Obj)} {Q : Value → Shared → Prop} {ys : List Value} {l l' : List Nat} {n : Nat} (F : Fr h₀ L s.heap m) (N : News h₀ L s.heap news) (hm : (D, listOf ys.toArray n) ∈ news)
    (hv : All2 (fun y (c : Nat) => ∃ u, y = .int (c : Nat) u) ys l') (e : l' = l) (hb : ∀ c ∈ l, c < 256) (hz : l.length ≤ 1000000) (hh : A.handled = none)
    (h : ∀ h' t k, Fr h₀ L h' m → News h₀ L h' news → Q (.bytes (l.map UInt8.ofNat).toArray t) { s with heap := h', toks := k }) : wpAny (model prog w) A (call (.type "bytes") [.ref D]) Q E s := by
  subst e
  have hlen := hv.length
  refine PySem.W.bytes_K F N (isList_lst (N _ hm).1) (intsOf hv) (fun n hn => ?_) (by rw [sizeLine_eq]; omega) hh (fun h' t k F' N' _ => ?_)
  · obtain ⟨c, hc, rfl⟩ := List.mem_map.mp hn
    have := hb c hc
    omega
  · rw [List.map_map]
    exact h h' t k F' N'
end Mine
end
section
open PySem PySem.W PyProof.Rows PySem.Calls
namespace Mine
theorem kf_fn3 : PySem.Challenge.rw_ik0040_01 = PySem.Challenge.rw_ik0040_01 ∧ hd.heap_39 = hd.heap_39 := by
  k_with_none
  k_with "own drop_all" => ((repeat (with_reducible rename Fr _ _ _ _ => F1; clear F1)); (repeat (with_reducible rename News _ _ _ _ => N1; clear N1)))
  k_with "own turn_end" => ((first | with_reducible refine' TurnG.next ?qbh1_F ?qbh1_N ?_ ?qbh1_hm | with_reducible refine' TurnG.cont ?qbh1_F ?qbh1_N ?_ ?qbh1_hm); (case qbh1_F => with_reducible assumption); (case qbh1_N => with_reducible assumption); (case qbh1_hm => exact fun y hy => if_neg hy))
  k_with "subscriptTail Name Slice str ref" => (k_here; k_dflt (refine' slice_S (s := ⟨_, _, _, _, _⟩) ?qbh2_F ?qbh2_N ?qbh2_hl ?qbh2_hu ?qbh2_hz ?qbh2_e ?_; (case qbh2_F => k_asm); (case qbh2_N => k_asm); (case qbh2_hl => constructor); (case qbh2_hu => constructor); (case qbh2_hz => first | omega | ((try simp only [List.length_take, List.length_drop, List.length_append, List.length_cons, List.length_nil]); omega)); (case qbh2_e => first | with_reducible exact cut_h1 _ | with_reducible exact cut_h2 _ | with_reducible exact cut_l1 _ | with_reducible exact cut_l2 _ | with_reducible exact cut_12 _ | with_reducible exact cut_23 _ | with_reducible exact cut_m1 _); (intro h' t' k' F' N'; try k_sweep)))
  k_with "subscriptTail Name Slice bytes ref" => (k_here; k_dflt (refine' slice_B (s := ⟨_, _, _, _, _⟩) ?qbh3_F ?qbh3_N ?qbh3_hl ?qbh3_hu ?qbh3_hz ?qbh3_e ?_; (case qbh3_F => k_asm); (case qbh3_N => k_asm); (case qbh3_hl => constructor); (case qbh3_hu => constructor); (case qbh3_hz => first | omega | ((try simp only [List.length_take, List.length_drop, List.length_append, List.length_cons, List.length_nil]); omega)); (case qbh3_e => first | with_reducible exact cut_h1 _ | with_reducible exact cut_h2 _ | with_reducible exact cut_l1 _ | with_reducible exact cut_l2 _ | with_reducible exact cut_12 _ | with_reducible exact cut_23 _ | with_reducible exact cut_m1 _); (intro h' t' k' F' N'; try k_sweep)))
  k_with "compareOp Eq str str" => (k_here; k_dflt (refine' eq_S ?qbh4_hx ?qbh4_hy ?_; (case qbh4_hx => first | with_reducible exact lit_slash | with_reducible exact lit_dot | with_reducible exact lit_dd | with_reducible exact lit_empty | with_reducible exact lit_nl | with_reducible exact lit_crlf | with_reducible exact lit_cr | with_reducible exact rfl); (case qbh4_hy => first | with_reducible exact lit_slash | with_reducible exact lit_dot | with_reducible exact lit_dd | with_reducible exact lit_empty | with_reducible exact lit_nl | with_reducible exact lit_crlf | with_reducible exact lit_cr | with_reducible exact rfl)))
  k_with "compareOp Eq bytes bytes" => (k_here; k_dflt (refine' eq_B ?qbh5_hx ?qbh5_hy ?_; (case qbh5_hx => first | with_reducible exact blit_slash | with_reducible exact blit_dot | with_reducible exact blit_dd | with_reducible exact blit_empty | with_reducible exact blit_nl | with_reducible exact rfl); (case qbh5_hy => first | with_reducible exact blit_slash | with_reducible exact blit_dot | with_reducible exact blit_dd | with_reducible exact blit_empty | with_reducible exact blit_nl | with_reducible exact rfl)))
  k_with "compareOp NotEq str str" => (k_here; k_dflt (refine' ne_S ?qbh6_hx ?qbh6_hy ?_; (case qbh6_hx => first | with_reducible exact lit_slash | with_reducible exact lit_dot | with_reducible exact lit_dd | with_reducible exact lit_empty | with_reducible exact lit_nl | with_reducible exact lit_crlf | with_reducible exact lit_cr | with_reducible exact rfl); (case qbh6_hy => first | with_reducible exact lit_slash | with_reducible exact lit_dot | with_reducible exact lit_dd | with_reducible exact lit_empty | with_reducible exact lit_nl | with_reducible exact lit_crlf | with_reducible exact lit_cr | with_reducible exact rfl)))
  k_with "compareOp NotEq bytes bytes" => (k_here; k_dflt (refine' ne_B ?qbh7_hx ?qbh7_hy ?_; (case qbh7_hx => first | with_reducible exact blit_slash | with_reducible exact blit_dot | with_reducible exact blit_dd | with_reducible exact blit_empty | with_reducible exact blit_nl | with_reducible exact rfl); (case qbh7_hy => first | with_reducible exact blit_slash | with_reducible exact blit_dot | with_reducible exact blit_dd | with_reducible exact blit_empty | with_reducible exact blit_nl | with_reducible exact rfl)))
  k_with "truthy str" => (k_here; k_dflt (refine' truthy_S ?qbh8_hz ?_; (case qbh8_hz => first | omega | ((try simp only [List.length_take, List.length_drop, List.length_append, List.length_cons, List.length_nil]); omega)); intro k'))
  k_with "truthy bytes" => (k_here; k_dflt (refine' truthy_B ?qbh9_hz ?_; (case qbh9_hz => first | omega | ((try simp only [List.length_take, List.length_drop, List.length_append, List.length_cons, List.length_nil]); omega)); intro k'))
  k_with "binaryOp Add str str" => (k_here; k_dflt (refine' add_S ?qbh10_hx ?qbh10_hy ?qbh10_hz ?_; (case qbh10_hx => first | with_reducible exact lit_slash | with_reducible exact lit_dot | with_reducible exact lit_dd | with_reducible exact lit_empty | with_reducible exact lit_nl | with_reducible exact lit_crlf | with_reducible exact lit_cr | with_reducible exact rfl); (case qbh10_hy => first | with_reducible exact lit_slash | with_reducible exact lit_dot | with_reducible exact lit_dd | with_reducible exact lit_empty | with_reducible exact lit_nl | with_reducible exact lit_crlf | with_reducible exact lit_cr | with_reducible exact rfl); (case qbh10_hz => first | omega | ((try simp only [List.length_take, List.length_drop, List.length_append, List.length_cons, List.length_nil]); omega)); intro t' k'))
  k_with "binaryOp Add bytes bytes" => (k_here; k_dflt (refine' add_B ?qbh11_hx ?qbh11_hy ?qbh11_hz ?_; (case qbh11_hx => first | with_reducible exact blit_slash | with_reducible exact blit_dot | with_reducible exact blit_dd | with_reducible exact blit_empty | with_reducible exact blit_nl | with_reducible exact rfl); (case qbh11_hy => first | with_reducible exact blit_slash | with_reducible exact blit_dot | with_reducible exact blit_dd | with_reducible exact blit_empty | with_reducible exact blit_nl | with_reducible exact rfl); (case qbh11_hz => first | omega | ((try simp only [List.length_take, List.length_drop, List.length_append, List.length_cons, List.length_nil]); omega)); intro t' k'))
  k_with "inplaceOp Add str str" => (k_here; k_dflt (refine' iadd_S ?qbh12_hx ?qbh12_hy ?qbh12_hz ?_; (case qbh12_hx => first | with_reducible exact lit_slash | with_reducible exact lit_dot | with_reducible exact lit_dd | with_reducible exact lit_empty | with_reducible exact lit_nl | with_reducible exact lit_crlf | with_reducible exact lit_cr | with_reducible exact rfl); (case qbh12_hy => first | with_reducible exact lit_slash | with_reducible exact lit_dot | with_reducible exact lit_dd | with_reducible exact lit_empty | with_reducible exact lit_nl | with_reducible exact lit_crlf | with_reducible exact lit_cr | with_reducible exact rfl); (case qbh12_hz => first | omega | ((try simp only [List.length_take, List.length_drop, List.length_append, List.length_cons, List.length_nil]); omega)); intro t' k'))
  k_with "inplaceOp Add bytes bytes" => (k_here; k_dflt (refine' iadd_B ?qbh13_hx ?qbh13_hy ?qbh13_hz ?_; (case qbh13_hx => first | with_reducible exact blit_slash | with_reducible exact blit_dot | with_reducible exact blit_dd | with_reducible exact blit_empty | with_reducible exact blit_nl | with_reducible exact rfl); (case qbh13_hy => first | with_reducible exact blit_slash | with_reducible exact blit_dot | with_reducible exact blit_dd | with_reducible exact blit_empty | with_reducible exact blit_nl | with_reducible exact rfl); (case qbh13_hz => first | omega | ((try simp only [List.length_take, List.length_drop, List.length_append, List.length_cons, List.length_nil]); omega)); intro t' k'))
  k_with "call builtin:str.startswith" => (k_here; k_dflt (refine' starts_S ?qbh14_hy ?_; (case qbh14_hy => first | with_reducible exact lit_slash | with_reducible exact lit_dot | with_reducible exact lit_dd | with_reducible exact lit_empty | with_reducible exact lit_nl | with_reducible exact lit_crlf | with_reducible exact lit_cr | with_reducible exact rfl)))
  k_with "call builtin:str.endswith" => (k_here; k_dflt (refine' ends_S ?qbh15_hy ?_; (case qbh15_hy => first | with_reducible exact lit_slash | with_reducible exact lit_dot | with_reducible exact lit_dd | with_reducible exact lit_empty | with_reducible exact lit_nl | with_reducible exact lit_crlf | with_reducible exact lit_cr | with_reducible exact rfl)))
  k_with "call builtin:bytes.startswith" => (k_here; k_dflt (refine' starts_B ?qbh16_hy ?_; (case qbh16_hy => first | with_reducible exact blit_slash | with_reducible exact blit_dot | with_reducible exact blit_dd | with_reducible exact blit_empty | with_reducible exact blit_nl | with_reducible exact rfl)))
  k_with "call builtin:bytes.endswith" => (k_here; k_dflt (refine' ends_B ?qbh17_hy ?_; (case qbh17_hy => first | with_reducible exact blit_slash | with_reducible exact blit_dot | with_reducible exact blit_dd | with_reducible exact blit_empty | with_reducible exact blit_nl | with_reducible exact rfl)))
  k_with "getMethod bytes" => (k_here; k_dflt (first | with_reducible refine' gm_bytes FB.slot_bytes_startswith FB.type_bytes_startswith ?_ | with_reducible refine' gm_bytes FB.slot_bytes_endswith FB.type_bytes_endswith ?_ | with_reducible refine' gm_bytes BF.slot_split BF.type_split ?_ | with_reducible refine' gm_bytes BF.slot_join BF.type_join ?_))
  k_with "truthy ref" => (k_here; k_dflt (refine' truthy_L ?qbh19_N ?qbh19_m ?qbh19_z ?qbh19_e ?_; (case qbh19_N => k_asm); (case qbh19_m => k_mem); (case qbh19_z => first | omega | ((try simp only [List.length_take, List.length_drop, List.length_append, List.length_cons, List.length_nil]); omega)); (case qbh19_e => first | exact rfl | simp); intro k'))
  k_with "subscriptTail Name UnaryOp ref int" => (k_here; k_dflt (refine' last_L ?qbh20_N ?qbh20_m ?qbh20_e ?qbh20_z ?_; (case qbh20_N => k_asm); (case qbh20_m => k_mem); (case qbh20_e => exact rfl); (case qbh20_z => first | omega | ((try simp only [List.length_take, List.length_drop, List.length_append, List.length_cons, List.length_nil]); omega))))
  k_with "call builtin:list.append" => (k_here; k_dflt (refine' app_L ?qbh21_F ?qbh21_N ?qbh21_U ?qbh21_z ?_; (case qbh21_F => k_asm); (case qbh21_N => k_asm); (case qbh21_U => k_upd); (case qbh21_z => first | omega | ((try simp only [List.length_take, List.length_drop, List.length_append, List.length_cons, List.length_nil]); omega)); (intro h' F' N'; try k_sweep)))
  k_with "call builtin:list.pop" => (k_here; k_dflt (refine' pop_L ?qbh22_F ?qbh22_N ?qbh22_m ?qbh22_e ?qbh22_U ?qbh22_z ?_; (case qbh22_F => k_asm); (case qbh22_N => k_asm); (case qbh22_m => k_mem); (case qbh22_e => exact rfl); (case qbh22_U => k_upd); (case qbh22_z => first | omega | ((try simp only [List.length_take, List.length_drop, List.length_append, List.length_cons, List.length_nil]); omega)); (intro h' F' N'; try k_sweep)))
  k_with "assign Tuple" => (k_here; k_dflt (refine' unpackN_ ?qbh23_F ?qbh23_N ?qbh23_T ?qbh23_k4 ?qbh23_k5 ?qbh23_k6 ?_; (case qbh23_F => k_asm); (case qbh23_N => k_asm); (case qbh23_T => exact News.isTup (by k_asm) (by k_mem)); (case qbh23_k4 => exact Room.hh (by assumption)); (case qbh23_k5 => exact rfl); (case qbh23_k6 => exact rfl); (intro h' F' N'; try k_sweep)))
  k_with "call builtin:str.join" => (k_here; k_dflt (refine' join_S ?qbh24_hy ?qbh24_hl ?qbh24_hv ?qbh24_hz ?_; (case qbh24_hy => first | with_reducible exact lit_slash | with_reducible exact lit_dot | with_reducible exact lit_dd | with_reducible exact lit_empty | with_reducible exact lit_nl | with_reducible exact lit_crlf | with_reducible exact lit_cr | with_reducible exact rfl); (case qbh24_hl => exact at_news (by k_asm) (by k_mem)); (case qbh24_hv => assumption); (case qbh24_hz => first | omega | ((try simp only [List.length_take, List.length_drop, List.length_append, List.length_cons, List.length_nil]); omega)); intro t' k'))
  k_with "call builtin:bytes.join" => (k_here; k_dflt (refine' join_B ?qbh25_hy ?qbh25_hl ?qbh25_hv ?qbh25_hz ?_; (case qbh25_hy => first | with_reducible exact blit_slash | with_reducible exact blit_dot | with_reducible exact blit_dd | with_reducible exact blit_empty | with_reducible exact blit_nl | with_reducible exact rfl); (case qbh25_hl => exact at_news (by k_asm) (by k_mem)); (case qbh25_hv => assumption); (case qbh25_hz => first | omega | ((try simp only [List.length_take, List.length_drop, List.length_append, List.length_cons, List.length_nil]); omega)); intro t' k'))
  k_with "call builtin:bytes.split" => (k_here; k_dflt (refine' split_B ?qbh26_F ?qbh26_N ?qbh26_hy ?qbh26_hz ?_; (case qbh26_F => k_asm); (case qbh26_N => k_asm); (case qbh26_hy => first | with_reducible exact blit_slash | with_reducible exact blit_dot | with_reducible exact blit_dd | with_reducible exact blit_empty | with_reducible exact blit_nl | with_reducible exact rfl); (case qbh26_hz => first | omega | ((try simp only [List.length_take, List.length_drop, List.length_append, List.length_cons, List.length_nil]); omega)); (intro D vs h' k' hv F' N' l1; (try k_lt l1); try k_sweep)))
  k_with "exec For" => (k_here; (with_reducible rename Fr _ _ _ _ => lF'); k_dflt (refine' For_invVF lF' ?qbh27_k1 ?qbh27_k2 ?_ ?qbh27_k3 ?qbh27_k4; (case qbh27_k1 => exact rfl); (case qbh27_k2 => exact rfl); (case qbh27_k3 => intro _; rfl); (case qbh27_k4 => exact PassesOwn.never); k_whole))
  k_with "call ref" => (k_here; refine' call_spec ?qbh28_F ?qbh28_X ?qbh28_N ?qbh28_T (fspath_str _ _ _ _ _ _) ?qbh28_R ?qbh28_p ?_; (case qbh28_F => k_asm); (case qbh28_X => k_asm); (case qbh28_N => k_asm); (case qbh28_T => k_asm); (case qbh28_R => exact Room.less (by assumption) (by decide) (by decide)); (case qbh28_p => trivial); (intro v h' tk' F' N' kk o; (clear kk; (try dsimp only at o); subst o; try dsimp only)))
  k_with "call ref" => (k_here; refine' call_new _ ?qbh29_F ?qbh29_X ?qbh29_N ?qbh29_T (splitroot_str _ _ _ _ _ _) (Three.new) ?qbh29_R ?qbh29_p ?_; (case qbh29_F => k_asm); (case qbh29_X => k_asm); (case qbh29_N => k_asm); (case qbh29_T => k_asm); (case qbh29_R => exact Room.less (by assumption) (by decide) (by decide)); (case qbh29_p => ((try dsimp only); first | omega | ((try simp only [List.length_take, List.length_drop, List.length_append, List.length_cons, List.length_nil]); omega))); (intro a' o' h' tk' P' F' N' l1; (have l2 := l1); (obtain ⟨t1, t2, t3, e1⟩ := P'); (subst e1)))
  k_with "call ref" => (k_here; refine' call_spec ?qbh30_F ?qbh30_X ?qbh30_N ?qbh30_T (fspath_bytes _ _ _ _ _ _) ?qbh30_R ?qbh30_p ?_; (case qbh30_F => k_asm); (case qbh30_X => k_asm); (case qbh30_N => k_asm); (case qbh30_T => k_asm); (case qbh30_R => exact Room.less (by assumption) (by decide) (by decide)); (case qbh30_p => trivial); (intro v h' tk' F' N' kk o; (clear kk; (try dsimp only at o); subst o; try dsimp only)))
  k_with "call ref" => (k_here; refine' call_new _ ?qbh31_F ?qbh31_X ?qbh31_N ?qbh31_T (splitroot_bytes _ _ _ _ _ _) (Three.new) ?qbh31_R ?qbh31_p ?_; (case qbh31_F => k_asm); (case qbh31_X => k_asm); (case qbh31_N => k_asm); (case qbh31_T => k_asm); (case qbh31_R => exact Room.less (by assumption) (by decide) (by decide)); (case qbh31_p => ((try dsimp only); first | omega | ((try simp only [List.length_take, List.length_drop, List.length_append, List.length_cons, List.length_nil]); omega))); (intro a' o' h' tk' P' F' N' l1; (have l2 := l1); (obtain ⟨t1, t2, t3, e1⟩ := P'); (subst e1)))
  k_with "call builtin:str.split" => (k_here; k_dflt (refine' split_S ?qbh32_F ?qbh32_N ?qbh32_hy ?qbh32_hs ?qbh32_hk ?qbh32_hz ?qbh32_hl ?qbh32_hne ?qbh32_hf ?_; (case qbh32_F => k_asm); (case qbh32_N => k_asm); (case qbh32_hy => exact lit_slash); (case qbh32_hs => exact rfl); (case qbh32_hk => decide); (case qbh32_hz => first | omega | ((try simp only [List.length_take, List.length_drop, List.length_append, List.length_cons, List.length_nil]); omega)); (case qbh32_hl => exact (joinL_cutL 47 _).symm); (case qbh32_hne => exact cutL_ne 47 _); (case qbh32_hf => exact cutL_free 47 _); (intro D vs h' k' hv F' N' l1; try k_sweep)))
  k_fill
  exact ⟨rfl, rfl⟩
section
variable (w : World) (mean : ExcName → Option Value) (mg mb : Str → Option Value)
set_option maxRecDepth 100000
set_option maxHeartbeats 8000000
theorem Three.new {α : Type} {mk : List α → Tok → Value} {r t : List α} (h h' : Heap) (v : Value) (q : Three mk r t h h' v) : New (fun o => ∃ t1 t2 t3, o = tup3 (mk [] t1) (mk r t2) (mk t t3)) h h' v :=
  let ⟨a, t1, t2, t3, e, n, s⟩ := q
  ⟨a, _, e, n, s, t1, t2, t3, rfl⟩
theorem normpath_str (l : List Nat) (t : Tok) : Spec w mean mg mb 182 [.str ⟨l.toArray⟩ t] 4 20 (fun _ => l.length ≤ 1000) (fun _ _ v => ∃ t', v = mkS (normL 47 46 l) t') := by
  refine' spec_of [(Str.ofString "path", .str ⟨l.toArray⟩ t)] ?ho ?hcd ?hbind ?hloc ?c1 ?c2 ?c3 ?c4 ?_
  case ho => k_is
  case hcd => k_is
  case hbind => exact rfl
  case c1 => decide
  case hloc => exact rfl
  case c2 => exact rfl
  case c3 => exact rfl
  case c4 => exact rfl
  intro A h₀ L s hR X T hp F N
  (try dsimp only); (try k_fold)
  have hzt := tailL_length 47 l
  have hzr := rootL_length 47 l
  repeat' (goal_lacks LoopAtV; first | (k_unfold; (try dsimp only)) | (k_end; wrow_close) | walk1 | (dsimp only; walk1) | (leave1; try dsimp only))
  · walk1
    (with_reducible rename News _ _ _ _ => N)
    (with_reducible rename Fr _ _ _ _ => F)
    (with_reducible rename All2 _ _ _ => hv)
    refine iter_grow (fun pre ys => All2 SItem ys (pre.foldl (nstep 46 (rootL 47 l)) [])) hR.hh hv F N (.inl (by k_mem)) .nil ?turn ?done
    case turn =>
      intro pre c post v ys k I it h tk hcs hvc hlt hlr hys F N
      (k_lt hlr)
      have hlt := PySem.W.ltN hlt
      obtain ⟨tc, rfl⟩ := hvc
      have hz1 := cutL_length_sum 47 (tailL 47 l)
      have hz2 := nfold_length 46 (rootL 47 l) pre []
      have hz3 := hys.length
      rw [hcs] at hz1
      simp only [List.map_append, List.map_cons, List.sum_append, List.sum_cons, List.length_append, List.length_cons, List.length_nil] at hz1 hz2
      rw [← hz3] at hz2
      generalize hacc : pre.foldl (nstep 46 (rootL 47 l)) [] = acc at hys
      rcases hys.ends with ⟨rfl, rfl⟩ | ⟨ys', v', acc', c', rfl, rfl, hy1, ⟨tv, rfl⟩⟩
      all_goals (try dsimp only); (try k_fold)
      all_goals repeat' (goal_lacks LoopAtV; first | (k_unfold; (try dsimp only)) | (k_end; wrow_close) | walk1 | (dsimp only; walk1) | (leave1; try dsimp only))
      all_goals (try ((try dsimp only); k_unfold))
      all_goals walk_at "own turn_end"
      all_goals (rw [List.foldl_append, hacc]; show All2 _ _ (nstep _ _ _ _))
      all_goals (first | (refine all2_eq (nstep_skip ?_) (by assumption) <;> (walk_at "own drop_all"; simp_all; done)) | (refine all2_eq (nstep_push ?_ ?_) (All2.snoc (by assumption) ⟨_, rfl⟩) <;> (walk_at "own drop_all"; simp_all; done)) | (refine all2_eq (nstep_pop ?_ ?_) (by first | assumption | (rw [List.dropLast_concat]; assumption)) <;> (walk_at "own drop_all"; simp_all; done)) | (exfalso; (walk_at "own drop_all"; simp_all; done)) | trace_state)
    case done =>
      intro ys k u h tk hys F N
      have hz1 := cutL_length_sum 47 (tailL 47 l)
      have hz2 := nfold_length 46 (rootL 47 l) (cutL 47 (tailL 47 l)) []
      have hz4 := nfold_sum 46 (rootL 47 l) (cutL 47 (tailL 47 l)) []
      have hz3 := joinL_length [47] ((cutL 47 (tailL 47 l)).foldl (nstep 46 (rootL 47 l)) [])
      simp only [List.map_nil, List.sum_nil, List.length_cons, List.length_nil] at hz1 hz2 hz3 hz4
      generalize hacc : (cutL 47 (tailL 47 l)).foldl (nstep 46 (rootL 47 l)) [] = acc at *
      (try dsimp only); (try k_fold)
      k_steps
      all_goals subst hacc
      all_goals (refine Back.S (by assumption) ?_)
      all_goals (first | (rw [normL_path (sl := 47) (dt := 46) (x := l) (by assumption) (by assumption)]; done) | (rw [normL_path (sl := 47) (dt := 46) (x := l) (by assumption) (by assumption)]; exact rfl) | (rw [normL_dot (sl := 47) (dt := 46) (x := l) (by assumption) (by assumption)]; first | done | exact lit_dot))
  all_goals (refine Back.S (by assumption) ?_)
  all_goals (rw [normL_nil (sl := 47) (dt := 46) (x := l) (by assumption)]; first | done | exact lit_dot)
theorem normpath_bytes (l : List UInt8) (t : Tok) : Spec w mean mg mb 182 [.bytes l.toArray t] 4 20 (fun _ => l.length ≤ 1000) (fun _ _ v => ∃ t', v = mkB (normL 47 46 l) t') := by
  refine' spec_of [(Str.ofString "path", .bytes l.toArray t)] ?ho ?hcd ?hbind ?hloc ?c1 ?c2 ?c3 ?c4 ?_
  case ho => k_is
  case hcd => k_is
  case hbind => exact rfl
  case c1 => decide
  case hloc => exact rfl
  case c2 => exact rfl
  case c3 => exact rfl
  case c4 => exact rfl
  intro A h₀ L s hR X T hp F N
  (try dsimp only); (try k_fold)
  have hzt := tailL_length 47 l
  have hzr := rootL_length 47 l
  repeat' (goal_lacks LoopAtV; first | (k_unfold; (try dsimp only)) | (k_end; wrow_close) | walk1 | (dsimp only; walk1) | (leave1; try dsimp only))
  · walk1
    (with_reducible rename News _ _ _ _ => N)
    (with_reducible rename Fr _ _ _ _ => F)
    (with_reducible rename All2 _ _ _ => hv)
    refine iter_grow (fun pre ys => All2 BItem ys (pre.foldl (nstep 46 (rootL 47 l)) [])) hR.hh hv F N (.inl (by k_mem)) .nil ?turn ?done
    case turn =>
      intro pre c post v ys k I it h tk hcs hvc hlt hlr hys F N
      (k_lt hlr)
      have hlt := PySem.W.ltN hlt
      obtain ⟨tc, rfl⟩ := hvc
      have hz1 := cutL_length_sum 47 (tailL 47 l)
      have hz2 := nfold_length 46 (rootL 47 l) pre []
      have hz3 := hys.length
      rw [hcs] at hz1
      simp only [List.map_append, List.map_cons, List.sum_append, List.sum_cons, List.length_append, List.length_cons, List.length_nil] at hz1 hz2
      rw [← hz3] at hz2
      generalize hacc : pre.foldl (nstep 46 (rootL 47 l)) [] = acc at hys
      rcases hys.ends with ⟨rfl, rfl⟩ | ⟨ys', v', acc', c', rfl, rfl, hy1, ⟨tv, rfl⟩⟩
      all_goals (try dsimp only); (try k_fold)
      all_goals repeat' (goal_lacks LoopAtV; first | (k_unfold; (try dsimp only)) | (k_end; wrow_close) | walk1 | (dsimp only; walk1) | (leave1; try dsimp only))
      all_goals (try ((try dsimp only); k_unfold))
      all_goals walk_at "own turn_end"
      all_goals (rw [List.foldl_append, hacc]; show All2 _ _ (nstep _ _ _ _))
      all_goals (first | (refine all2_eq (nstep_skip ?_) (by assumption) <;> (walk_at "own drop_all"; simp_all; done)) | (refine all2_eq (nstep_push ?_ ?_) (All2.snoc (by assumption) ⟨_, rfl⟩) <;> (walk_at "own drop_all"; simp_all; done)) | (refine all2_eq (nstep_pop ?_ ?_) (by first | assumption | (rw [List.dropLast_concat]; assumption)) <;> (walk_at "own drop_all"; simp_all; done)) | (exfalso; (walk_at "own drop_all"; simp_all; done)) | trace_state)
    case done =>
      intro ys k u h tk hys F N
      have hz1 := cutL_length_sum 47 (tailL 47 l)
      have hz2 := nfold_length 46 (rootL 47 l) (cutL 47 (tailL 47 l)) []
      have hz4 := nfold_sum 46 (rootL 47 l) (cutL 47 (tailL 47 l)) []
      have hz3 := joinL_length [47] ((cutL 47 (tailL 47 l)).foldl (nstep 46 (rootL 47 l)) [])
      simp only [List.map_nil, List.sum_nil, List.length_cons, List.length_nil] at hz1 hz2 hz3 hz4
      generalize hacc : (cutL 47 (tailL 47 l)).foldl (nstep 46 (rootL 47 l)) [] = acc at *
      (try dsimp only); (try k_fold)
      k_steps
      all_goals subst hacc
      all_goals (refine Back.B (by assumption) ?_)
      all_goals (first | (rw [normL_path (sl := 47) (dt := 46) (x := l) (by assumption) (by assumption)]; done) | (rw [normL_path (sl := 47) (dt := 46) (x := l) (by assumption) (by assumption)]; exact rfl) | (rw [normL_dot (sl := 47) (dt := 46) (x := l) (by assumption) (by assumption)]; first | done | exact blit_dot))
  all_goals (refine Back.B (by assumption) ?_)
  all_goals (rw [normL_nil (sl := 47) (dt := 46) (x := l) (by assumption)]; first | done | exact blit_dot)
end
end Mine
end
section
open PySem PySem.W PyProof.Rows PySem.Calls
namespace Mine
theorem kf_fn4 : PySem.Challenge.rw_ik0040_01 = PySem.Challenge.rw_ik0040_01 ∧ hd.heap_39 = hd.heap_39 := by
  k_with_none
  k_with "own drop_all" => ((repeat (with_reducible rename Fr _ _ _ _ => F1; clear F1)); (repeat (with_reducible rename News _ _ _ _ => N1; clear N1)))
  k_with "own letter_end" => ((with_reducible refine' TurnV.next ?qbi1_F ?qbi1_N ?qbi1_hz ?_ ?qbi1_hm); (case qbi1_F => assumption); (case qbi1_N => assumption); (case qbi1_hz => exact if_pos rfl); (case qbi1_hm => (intro y h1 h2; simp only [if_neg h1, if_neg h2])))
  k_with "exec For" => (k_here; (with_reducible rename Fr _ _ _ _ => lF'); k_dflt (refine' For_invVF lF' ?qbi2_k1 ?qbi2_k2 ?_ ?qbi2_k3 ?qbi2_k4; (case qbi2_k1 => exact rfl); (case qbi2_k2 => exact rfl); (case qbi2_k3 => intro _; rfl); (case qbi2_k4 => exact PassesOwn.never); k_whole))
  k_with "exec Try" => (k_here; k_dflt (refine' try_calm ?_; k_whole))
  k_with "subscriptTail Name Slice str ref" => (k_here; k_dflt (refine' slice_S (s := ⟨_, _, _, _, _⟩) ?qbi4_F ?qbi4_N ?qbi4_hl ?qbi4_hu ?qbi4_hz ?qbi4_e ?_; (case qbi4_F => k_asm); (case qbi4_N => k_asm); (case qbi4_hl => constructor); (case qbi4_hu => constructor); (case qbi4_hz => first | omega | ((try simp only [List.length_take, List.length_drop, List.length_append, List.length_cons, List.length_nil]); omega)); (case qbi4_e => first | with_reducible exact cut_h1 _ | with_reducible exact cut_h2 _ | with_reducible exact cut_l1 _ | with_reducible exact cut_l2 _ | with_reducible exact cut_12 _ | with_reducible exact cut_23 _ | with_reducible exact cut_m1 _); (intro h' t' k' F' N'; try k_sweep)))
  k_with "subscriptTail Name Slice bytes ref" => (k_here; k_dflt (refine' slice_B (s := ⟨_, _, _, _, _⟩) ?qbi5_F ?qbi5_N ?qbi5_hl ?qbi5_hu ?qbi5_hz ?qbi5_e ?_; (case qbi5_F => k_asm); (case qbi5_N => k_asm); (case qbi5_hl => constructor); (case qbi5_hu => constructor); (case qbi5_hz => first | omega | ((try simp only [List.length_take, List.length_drop, List.length_append, List.length_cons, List.length_nil]); omega)); (case qbi5_e => first | with_reducible exact cut_h1 _ | with_reducible exact cut_h2 _ | with_reducible exact cut_l1 _ | with_reducible exact cut_l2 _ | with_reducible exact cut_12 _ | with_reducible exact cut_23 _ | with_reducible exact cut_m1 _); (intro h' t' k' F' N'; try k_sweep)))
  k_with "compareOp Eq str str" => (k_here; k_dflt (refine' eq_S ?qbi6_hx ?qbi6_hy ?_; (case qbi6_hx => first | with_reducible exact lit_slash | with_reducible exact lit_dot | with_reducible exact lit_dd | with_reducible exact lit_empty | with_reducible exact lit_nl | with_reducible exact lit_crlf | with_reducible exact lit_cr | with_reducible exact rfl); (case qbi6_hy => first | with_reducible exact lit_slash | with_reducible exact lit_dot | with_reducible exact lit_dd | with_reducible exact lit_empty | with_reducible exact lit_nl | with_reducible exact lit_crlf | with_reducible exact lit_cr | with_reducible exact rfl)))
  k_with "compareOp Eq bytes bytes" => (k_here; k_dflt (refine' eq_B ?qbi7_hx ?qbi7_hy ?_; (case qbi7_hx => first | with_reducible exact blit_slash | with_reducible exact blit_dot | with_reducible exact blit_dd | with_reducible exact blit_empty | with_reducible exact blit_nl | with_reducible exact rfl); (case qbi7_hy => first | with_reducible exact blit_slash | with_reducible exact blit_dot | with_reducible exact blit_dd | with_reducible exact blit_empty | with_reducible exact blit_nl | with_reducible exact rfl)))
  k_with "compareOp NotEq str str" => (k_here; k_dflt (refine' ne_S ?qbi8_hx ?qbi8_hy ?_; (case qbi8_hx => first | with_reducible exact lit_slash | with_reducible exact lit_dot | with_reducible exact lit_dd | with_reducible exact lit_empty | with_reducible exact lit_nl | with_reducible exact lit_crlf | with_reducible exact lit_cr | with_reducible exact rfl); (case qbi8_hy => first | with_reducible exact lit_slash | with_reducible exact lit_dot | with_reducible exact lit_dd | with_reducible exact lit_empty | with_reducible exact lit_nl | with_reducible exact lit_crlf | with_reducible exact lit_cr | with_reducible exact rfl)))
  k_with "compareOp NotEq bytes bytes" => (k_here; k_dflt (refine' ne_B ?qbi9_hx ?qbi9_hy ?_; (case qbi9_hx => first | with_reducible exact blit_slash | with_reducible exact blit_dot | with_reducible exact blit_dd | with_reducible exact blit_empty | with_reducible exact blit_nl | with_reducible exact rfl); (case qbi9_hy => first | with_reducible exact blit_slash | with_reducible exact blit_dot | with_reducible exact blit_dd | with_reducible exact blit_empty | with_reducible exact blit_nl | with_reducible exact rfl)))
  k_with "truthy str" => (k_here; k_dflt (refine' truthy_S ?qbi10_hz ?_; (case qbi10_hz => first | omega | ((try simp only [List.length_take, List.length_drop, List.length_append, List.length_cons, List.length_nil]); omega)); intro k'))
  k_with "truthy bytes" => (k_here; k_dflt (refine' truthy_B ?qbi11_hz ?_; (case qbi11_hz => first | omega | ((try simp only [List.length_take, List.length_drop, List.length_append, List.length_cons, List.length_nil]); omega)); intro k'))
  k_with "binaryOp Add str str" => (k_here; k_dflt (refine' add_S ?qbi12_hx ?qbi12_hy ?qbi12_hz ?_; (case qbi12_hx => first | with_reducible exact lit_slash | with_reducible exact lit_dot | with_reducible exact lit_dd | with_reducible exact lit_empty | with_reducible exact lit_nl | with_reducible exact lit_crlf | with_reducible exact lit_cr | with_reducible exact rfl); (case qbi12_hy => first | with_reducible exact lit_slash | with_reducible exact lit_dot | with_reducible exact lit_dd | with_reducible exact lit_empty | with_reducible exact lit_nl | with_reducible exact lit_crlf | with_reducible exact lit_cr | with_reducible exact rfl); (case qbi12_hz => first | omega | ((try simp only [List.length_take, List.length_drop, List.length_append, List.length_cons, List.length_nil]); omega)); intro t' k'))
  k_with "binaryOp Add bytes bytes" => (k_here; k_dflt (refine' add_B ?qbi13_hx ?qbi13_hy ?qbi13_hz ?_; (case qbi13_hx => first | with_reducible exact blit_slash | with_reducible exact blit_dot | with_reducible exact blit_dd | with_reducible exact blit_empty | with_reducible exact blit_nl | with_reducible exact rfl); (case qbi13_hy => first | with_reducible exact blit_slash | with_reducible exact blit_dot | with_reducible exact blit_dd | with_reducible exact blit_empty | with_reducible exact blit_nl | with_reducible exact rfl); (case qbi13_hz => first | omega | ((try simp only [List.length_take, List.length_drop, List.length_append, List.length_cons, List.length_nil]); omega)); intro t' k'))
  k_with "inplaceOp Add str str" => (k_here; k_dflt (refine' iadd_S ?qbi14_hx ?qbi14_hy ?qbi14_hz ?_; (case qbi14_hx => first | with_reducible exact lit_slash | with_reducible exact lit_dot | with_reducible exact lit_dd | with_reducible exact lit_empty | with_reducible exact lit_nl | with_reducible exact lit_crlf | with_reducible exact lit_cr | with_reducible exact rfl); (case qbi14_hy => first | with_reducible exact lit_slash | with_reducible exact lit_dot | with_reducible exact lit_dd | with_reducible exact lit_empty | with_reducible exact lit_nl | with_reducible exact lit_crlf | with_reducible exact lit_cr | with_reducible exact rfl); (case qbi14_hz => first | omega | ((try simp only [List.length_take, List.length_drop, List.length_append, List.length_cons, List.length_nil]); omega)); intro t' k'))
  k_with "inplaceOp Add bytes bytes" => (k_here; k_dflt (refine' iadd_B ?qbi15_hx ?qbi15_hy ?qbi15_hz ?_; (case qbi15_hx => first | with_reducible exact blit_slash | with_reducible exact blit_dot | with_reducible exact blit_dd | with_reducible exact blit_empty | with_reducible exact blit_nl | with_reducible exact rfl); (case qbi15_hy => first | with_reducible exact blit_slash | with_reducible exact blit_dot | with_reducible exact blit_dd | with_reducible exact blit_empty | with_reducible exact blit_nl | with_reducible exact rfl); (case qbi15_hz => first | omega | ((try simp only [List.length_take, List.length_drop, List.length_append, List.length_cons, List.length_nil]); omega)); intro t' k'))
  k_with "call builtin:str.startswith" => (k_here; k_dflt (refine' starts_S ?qbi16_hy ?_; (case qbi16_hy => first | with_reducible exact lit_slash | with_reducible exact lit_dot | with_reducible exact lit_dd | with_reducible exact lit_empty | with_reducible exact lit_nl | with_reducible exact lit_crlf | with_reducible exact lit_cr | with_reducible exact rfl)))
  k_with "call builtin:str.endswith" => (k_here; k_dflt (refine' ends_S ?qbi17_hy ?_; (case qbi17_hy => first | with_reducible exact lit_slash | with_reducible exact lit_dot | with_reducible exact lit_dd | with_reducible exact lit_empty | with_reducible exact lit_nl | with_reducible exact lit_crlf | with_reducible exact lit_cr | with_reducible exact rfl)))
  k_with "call builtin:bytes.startswith" => (k_here; k_dflt (refine' starts_B ?qbi18_hy ?_; (case qbi18_hy => first | with_reducible exact blit_slash | with_reducible exact blit_dot | with_reducible exact blit_dd | with_reducible exact blit_empty | with_reducible exact blit_nl | with_reducible exact rfl)))
  k_with "call builtin:bytes.endswith" => (k_here; k_dflt (refine' ends_B ?qbi19_hy ?_; (case qbi19_hy => first | with_reducible exact blit_slash | with_reducible exact blit_dot | with_reducible exact blit_dd | with_reducible exact blit_empty | with_reducible exact blit_nl | with_reducible exact rfl)))
  k_with "getMethod bytes" => (k_here; k_dflt (first | with_reducible refine' gm_bytes FB.slot_bytes_startswith FB.type_bytes_startswith ?_ | with_reducible refine' gm_bytes FB.slot_bytes_endswith FB.type_bytes_endswith ?_ | with_reducible refine' gm_bytes BF.slot_split BF.type_split ?_ | with_reducible refine' gm_bytes BF.slot_join BF.type_join ?_))
  k_with "truthy ref" => (k_here; k_dflt (refine' truthy_L ?qbi21_N ?qbi21_m ?qbi21_z ?qbi21_e ?_; (case qbi21_N => k_asm); (case qbi21_m => k_mem); (case qbi21_z => first | omega | ((try simp only [List.length_take, List.length_drop, List.length_append, List.length_cons, List.length_nil]); omega)); (case qbi21_e => first | exact rfl | simp); intro k'))
  k_with "subscriptTail Name UnaryOp ref int" => (k_here; k_dflt (refine' last_L ?qbi22_N ?qbi22_m ?qbi22_e ?qbi22_z ?_; (case qbi22_N => k_asm); (case qbi22_m => k_mem); (case qbi22_e => exact rfl); (case qbi22_z => first | omega | ((try simp only [List.length_take, List.length_drop, List.length_append, List.length_cons, List.length_nil]); omega))))
  k_with "call builtin:list.append" => (k_here; k_dflt (refine' app_L ?qbi23_F ?qbi23_N ?qbi23_U ?qbi23_z ?_; (case qbi23_F => k_asm); (case qbi23_N => k_asm); (case qbi23_U => k_upd); (case qbi23_z => first | omega | ((try simp only [List.length_take, List.length_drop, List.length_append, List.length_cons, List.length_nil]); omega)); (intro h' F' N'; try k_sweep)))
  k_with "call builtin:list.pop" => (k_here; k_dflt (refine' pop_L ?qbi24_F ?qbi24_N ?qbi24_m ?qbi24_e ?qbi24_U ?qbi24_z ?_; (case qbi24_F => k_asm); (case qbi24_N => k_asm); (case qbi24_m => k_mem); (case qbi24_e => exact rfl); (case qbi24_U => k_upd); (case qbi24_z => first | omega | ((try simp only [List.length_take, List.length_drop, List.length_append, List.length_cons, List.length_nil]); omega)); (intro h' F' N'; try k_sweep)))
  k_with "assign Tuple" => (k_here; k_dflt (refine' unpackN_ ?qbi25_F ?qbi25_N ?qbi25_T ?qbi25_k4 ?qbi25_k5 ?qbi25_k6 ?_; (case qbi25_F => k_asm); (case qbi25_N => k_asm); (case qbi25_T => exact News.isTup (by k_asm) (by k_mem)); (case qbi25_k4 => exact Room.hh (by assumption)); (case qbi25_k5 => exact rfl); (case qbi25_k6 => exact rfl); (intro h' F' N'; try k_sweep)))
  k_with "call builtin:str.join" => (k_here; k_dflt (refine' join_S ?qbi26_hy ?qbi26_hl ?qbi26_hv ?qbi26_hz ?_; (case qbi26_hy => first | with_reducible exact lit_slash | with_reducible exact lit_dot | with_reducible exact lit_dd | with_reducible exact lit_empty | with_reducible exact lit_nl | with_reducible exact lit_crlf | with_reducible exact lit_cr | with_reducible exact rfl); (case qbi26_hl => exact at_news (by k_asm) (by k_mem)); (case qbi26_hv => assumption); (case qbi26_hz => first | omega | ((try simp only [List.length_take, List.length_drop, List.length_append, List.length_cons, List.length_nil]); omega)); intro t' k'))
  k_with "call builtin:bytes.join" => (k_here; k_dflt (refine' join_B ?qbi27_hy ?qbi27_hl ?qbi27_hv ?qbi27_hz ?_; (case qbi27_hy => first | with_reducible exact blit_slash | with_reducible exact blit_dot | with_reducible exact blit_dd | with_reducible exact blit_empty | with_reducible exact blit_nl | with_reducible exact rfl); (case qbi27_hl => exact at_news (by k_asm) (by k_mem)); (case qbi27_hv => assumption); (case qbi27_hz => first | omega | ((try simp only [List.length_take, List.length_drop, List.length_append, List.length_cons, List.length_nil]); omega)); intro t' k'))
  k_with "call builtin:bytes.split" => (k_here; k_dflt (refine' split_B ?qbi28_F ?qbi28_N ?qbi28_hy ?qbi28_hz ?_; (case qbi28_F => k_asm); (case qbi28_N => k_asm); (case qbi28_hy => first | with_reducible exact blit_slash | with_reducible exact blit_dot | with_reducible exact blit_dd | with_reducible exact blit_empty | with_reducible exact blit_nl | with_reducible exact rfl); (case qbi28_hz => first | omega | ((try simp only [List.length_take, List.length_drop, List.length_append, List.length_cons, List.length_nil]); omega)); (intro D vs h' k' hv F' N' l1; (try k_lt l1); try k_sweep)))
  k_with "call ref" => (k_here; refine' call_spec ?qbi29_F ?qbi29_X ?qbi29_N ?qbi29_T (fspath_str _ _ _ _ _ _) ?qbi29_R ?qbi29_p ?_; (case qbi29_F => k_asm); (case qbi29_X => k_asm); (case qbi29_N => k_asm); (case qbi29_T => k_asm); (case qbi29_R => exact Room.less (by assumption) (by decide) (by decide)); (case qbi29_p => trivial); (intro v h' tk' F' N' kk o; (clear kk; (try dsimp only at o); subst o; try dsimp only)))
  k_with "call ref" => (k_here; refine' call_spec ?qbi30_F ?qbi30_X ?qbi30_N ?qbi30_T (getsep_str _ _ _ _ _ _) ?qbi30_R ?qbi30_p ?_; (case qbi30_F => k_asm); (case qbi30_X => k_asm); (case qbi30_N => k_asm); (case qbi30_T => k_asm); (case qbi30_R => exact Room.less (by assumption) (by decide) (by decide)); (case qbi30_p => trivial); (intro v h' tk' F' N' kk o; (clear kk; (obtain ⟨t', o'⟩ := o); subst o'; try dsimp only)))
  k_with "call ref" => (k_here; refine' call_spec ?qbi31_F ?qbi31_X ?qbi31_N ?qbi31_T (fspath_bytes _ _ _ _ _ _) ?qbi31_R ?qbi31_p ?_; (case qbi31_F => k_asm); (case qbi31_X => k_asm); (case qbi31_N => k_asm); (case qbi31_T => k_asm); (case qbi31_R => exact Room.less (by assumption) (by decide) (by decide)); (case qbi31_p => trivial); (intro v h' tk' F' N' kk o; (clear kk; (try dsimp only at o); subst o; try dsimp only)))
  k_with "call ref" => (k_here; refine' call_spec ?qbi32_F ?qbi32_X ?qbi32_N ?qbi32_T (getsep_bytes _ _ _ _ _ _) ?qbi32_R ?qbi32_p ?_; (case qbi32_F => k_asm); (case qbi32_X => k_asm); (case qbi32_N => k_asm); (case qbi32_T => k_asm); (case qbi32_R => exact Room.less (by assumption) (by decide) (by decide)); (case qbi32_p => trivial); (intro v h' tk' F' N' kk o; (clear kk; (obtain ⟨t', o'⟩ := o); subst o'; try dsimp only)))
  k_fill
  exact ⟨rfl, rfl⟩
section
variable (w : World) (mean : ExcName → Option Value) (mg mb : Str → Option Value)
set_option maxRecDepth 100000
set_option maxHeartbeats 8000000
theorem pjoin_str (l : List Nat) (t : Tok) (vs : List Value) (cs : List (List Nat)) (hv : All2 SItem vs cs) (hz : l.length + (cs.map (·.length)).sum + cs.length ≤ 100000) : Spec w mean mg mb 168 (.str ⟨l.toArray⟩ t :: vs) 2 12 (fun _ => True) (fun _ _ v => ∃ t', v = mkS (cs.foldl (jstep 47) l) t') := by
  refine' spec_rest (fun p => [(Str.ofString "a", .str ⟨l.toArray⟩ t), (Str.ofString "p", p)]) ?ho ?hcd ?hbind ?hz ?hloc ?c1 ?c2 ?c3 ?c4 ?hpre ?_
  case ho => k_is
  case hcd => k_is
  case hbind => exact join_binds (w := w) _ _ (by k_is)
  case hz => (have := hv.length; omega)
  case c1 => decide
  case hloc => intro D; exact rfl
  case c2 => exact rfl
  case c3 => exact rfl
  case c4 => exact rfl
  case hpre => exact fun _ _ _ x => x
  intro A h₀ L D s hR X T hp hD F N
  (try dsimp only); (try k_fold)
  repeat' (goal_lacks LoopAtV; first | (k_unfold; (try dsimp only)) | (k_end; wrow_close) | walk1 | (dsimp only; walk1) | (leave1; try dsimp only))
  walk1
  (with_reducible rename News _ _ _ _ => N)
  (with_reducible rename Fr _ _ _ _ => F)
  refine iter_letter (z := Str.ofString "path") (fun pre v => ∃ t', v = mkS (pre.foldl (jstep 47) l) t') hR.hh hv hD rfl rfl F N ⟨_, rfl⟩ ?turn ?done
  case turn =>
    intro pre c post v u I it h tk hcs hvc hlr hu F N
    (k_lt hlr)
    obtain ⟨tc, rfl⟩ := hvc
    obtain ⟨tu, rfl⟩ := hu
    have hz1 := jfold_length 47 pre l
    have hz2 := jstep_length 47 (pre.foldl (jstep 47) l) c
    rw [hcs] at hz
    simp only [List.map_append, List.map_cons, List.sum_append, List.sum_cons, List.length_append, List.length_cons, List.length_nil] at hz
    generalize hacc : pre.foldl (jstep 47) l = acc at hz1 hz2 F
    (try dsimp only); (try k_fold)
    repeat' (goal_lacks LoopAtV; first | (k_unfold; (try dsimp only)) | (k_end; wrow_close) | walk1 | (dsimp only; walk1) | (leave1; try dsimp only))
    all_goals (try ((try dsimp only); k_unfold))
    all_goals walk_at "own letter_end"
    all_goals (first | (refine fold_S hacc (jstep_new ?_) <;> (walk_at "own drop_all"; simp_all; done)) | (refine fold_S hacc (jstep_on ?_ ?_) <;> (walk_at "own drop_all"; simp_all; done)) | (refine fold_S hacc (jstep_sep ?_ ?_) <;> (walk_at "own drop_all"; simp_all; done)) | trace_state)
  case done =>
    intro v u h tk hv F N
    obtain ⟨tu, rfl⟩ := hv
    (try dsimp only); (try k_fold)
    k_steps
    all_goals (refine Back.S (by assumption) ?_)
    all_goals (exact rfl)
theorem pjoin_bytes (l : List UInt8) (t : Tok) (vs : List Value) (cs : List (List UInt8)) (hv : All2 BItem vs cs) (hz : l.length + (cs.map (·.length)).sum + cs.length ≤ 100000) : Spec w mean mg mb 168 (.bytes l.toArray t :: vs) 2 12 (fun _ => True) (fun _ _ v => ∃ t', v = mkB (cs.foldl (jstep 47) l) t') := by
  refine' spec_rest (fun p => [(Str.ofString "a", .bytes l.toArray t), (Str.ofString "p", p)]) ?ho ?hcd ?hbind ?hz ?hloc ?c1 ?c2 ?c3 ?c4 ?hpre ?_
  case ho => k_is
  case hcd => k_is
  case hbind => exact join_binds (w := w) _ _ (by k_is)
  case hz => (have := hv.length; omega)
  case c1 => decide
  case hloc => intro D; exact rfl
  case c2 => exact rfl
  case c3 => exact rfl
  case c4 => exact rfl
  case hpre => exact fun _ _ _ x => x
  intro A h₀ L D s hR X T hp hD F N
  (try dsimp only); (try k_fold)
  repeat' (goal_lacks LoopAtV; first | (k_unfold; (try dsimp only)) | (k_end; wrow_close) | walk1 | (dsimp only; walk1) | (leave1; try dsimp only))
  walk1
  (with_reducible rename News _ _ _ _ => N)
  (with_reducible rename Fr _ _ _ _ => F)
  refine iter_letter (z := Str.ofString "path") (fun pre v => ∃ t', v = mkB (pre.foldl (jstep 47) l) t') hR.hh hv hD rfl rfl F N ⟨_, rfl⟩ ?turn ?done
  case turn =>
    intro pre c post v u I it h tk hcs hvc hlr hu F N
    (k_lt hlr)
    obtain ⟨tc, rfl⟩ := hvc
    obtain ⟨tu, rfl⟩ := hu
    have hz1 := jfold_length 47 pre l
    have hz2 := jstep_length 47 (pre.foldl (jstep 47) l) c
    rw [hcs] at hz
    simp only [List.map_append, List.map_cons, List.sum_append, List.sum_cons, List.length_append, List.length_cons, List.length_nil] at hz
    generalize hacc : pre.foldl (jstep 47) l = acc at hz1 hz2 F
    (try dsimp only); (try k_fold)
    repeat' (goal_lacks LoopAtV; first | (k_unfold; (try dsimp only)) | (k_end; wrow_close) | walk1 | (dsimp only; walk1) | (leave1; try dsimp only))
    all_goals (try ((try dsimp only); k_unfold))
    all_goals walk_at "own letter_end"
    all_goals (first | (refine fold_B hacc (jstep_new ?_) <;> (walk_at "own drop_all"; simp_all; done)) | (refine fold_B hacc (jstep_on ?_ ?_) <;> (walk_at "own drop_all"; simp_all; done)) | (refine fold_B hacc (jstep_sep ?_ ?_) <;> (walk_at "own drop_all"; simp_all; done)) | trace_state)
  case done =>
    intro v u h tk hv F N
    obtain ⟨tu, rfl⟩ := hv
    (try dsimp only); (try k_fold)
    k_steps
    all_goals (refine Back.B (by assumption) ?_)
    all_goals (exact rfl)
end
end Mine
end
section
open PySem PySem.W PyProof.Rows PySem.Calls
namespace Mine
theorem kf_fn5 : PySem.Challenge.rw_ik0040_01 = PySem.Challenge.rw_ik0040_01 ∧ hd.heap_39 = hd.heap_39 := by
  k_with_none
  k_with "exec For" => (k_here; (with_reducible rename Fr _ _ _ _ => lF'); k_dflt (refine' For_invVF lF' ?qbj0_k1 ?qbj0_k2 ?_ ?qbj0_k3 ?qbj0_k4; (case qbj0_k1 => exact rfl); (case qbj0_k2 => exact rfl); (case qbj0_k3 => intro _; rfl); (case qbj0_k4 => exact PassesOwn.never); k_whole))
  k_with "subscriptTail Name Slice str ref" => (k_here; k_dflt (refine' slice_S (s := ⟨_, _, _, _, _⟩) ?qbj1_F ?qbj1_N ?qbj1_hl ?qbj1_hu ?qbj1_hz ?qbj1_e ?_; (case qbj1_F => k_asm); (case qbj1_N => k_asm); (case qbj1_hl => constructor); (case qbj1_hu => constructor); (case qbj1_hz => first | omega | ((try simp only [List.length_take, List.length_drop, List.length_append, List.length_cons, List.length_nil]); omega)); (case qbj1_e => first | with_reducible exact cut_h1 _ | with_reducible exact cut_h2 _ | with_reducible exact cut_l1 _ | with_reducible exact cut_l2 _ | with_reducible exact cut_12 _ | with_reducible exact cut_23 _ | with_reducible exact cut_m1 _); (intro h' t' k' F' N'; try k_sweep)))
  k_with "subscriptTail Name Slice bytes ref" => (k_here; k_dflt (refine' slice_B (s := ⟨_, _, _, _, _⟩) ?qbj2_F ?qbj2_N ?qbj2_hl ?qbj2_hu ?qbj2_hz ?qbj2_e ?_; (case qbj2_F => k_asm); (case qbj2_N => k_asm); (case qbj2_hl => constructor); (case qbj2_hu => constructor); (case qbj2_hz => first | omega | ((try simp only [List.length_take, List.length_drop, List.length_append, List.length_cons, List.length_nil]); omega)); (case qbj2_e => first | with_reducible exact cut_h1 _ | with_reducible exact cut_h2 _ | with_reducible exact cut_l1 _ | with_reducible exact cut_l2 _ | with_reducible exact cut_12 _ | with_reducible exact cut_23 _ | with_reducible exact cut_m1 _); (intro h' t' k' F' N'; try k_sweep)))
  k_with "compareOp Eq str str" => (k_here; k_dflt (refine' eq_S ?qbj3_hx ?qbj3_hy ?_; (case qbj3_hx => first | with_reducible exact lit_slash | with_reducible exact lit_dot | with_reducible exact lit_dd | with_reducible exact lit_empty | with_reducible exact lit_nl | with_reducible exact lit_crlf | with_reducible exact lit_cr | with_reducible exact rfl); (case qbj3_hy => first | with_reducible exact lit_slash | with_reducible exact lit_dot | with_reducible exact lit_dd | with_reducible exact lit_empty | with_reducible exact lit_nl | with_reducible exact lit_crlf | with_reducible exact lit_cr | with_reducible exact rfl)))
  k_with "compareOp Eq bytes bytes" => (k_here; k_dflt (refine' eq_B ?qbj4_hx ?qbj4_hy ?_; (case qbj4_hx => first | with_reducible exact blit_slash | with_reducible exact blit_dot | with_reducible exact blit_dd | with_reducible exact blit_empty | with_reducible exact blit_nl | with_reducible exact rfl); (case qbj4_hy => first | with_reducible exact blit_slash | with_reducible exact blit_dot | with_reducible exact blit_dd | with_reducible exact blit_empty | with_reducible exact blit_nl | with_reducible exact rfl)))
  k_with "compareOp NotEq str str" => (k_here; k_dflt (refine' ne_S ?qbj5_hx ?qbj5_hy ?_; (case qbj5_hx => first | with_reducible exact lit_slash | with_reducible exact lit_dot | with_reducible exact lit_dd | with_reducible exact lit_empty | with_reducible exact lit_nl | with_reducible exact lit_crlf | with_reducible exact lit_cr | with_reducible exact rfl); (case qbj5_hy => first | with_reducible exact lit_slash | with_reducible exact lit_dot | with_reducible exact lit_dd | with_reducible exact lit_empty | with_reducible exact lit_nl | with_reducible exact lit_crlf | with_reducible exact lit_cr | with_reducible exact rfl)))
  k_with "compareOp NotEq bytes bytes" => (k_here; k_dflt (refine' ne_B ?qbj6_hx ?qbj6_hy ?_; (case qbj6_hx => first | with_reducible exact blit_slash | with_reducible exact blit_dot | with_reducible exact blit_dd | with_reducible exact blit_empty | with_reducible exact blit_nl | with_reducible exact rfl); (case qbj6_hy => first | with_reducible exact blit_slash | with_reducible exact blit_dot | with_reducible exact blit_dd | with_reducible exact blit_empty | with_reducible exact blit_nl | with_reducible exact rfl)))
  k_with "truthy str" => (k_here; k_dflt (refine' truthy_S ?qbj7_hz ?_; (case qbj7_hz => first | omega | ((try simp only [List.length_take, List.length_drop, List.length_append, List.length_cons, List.length_nil]); omega)); intro k'))
  k_with "truthy bytes" => (k_here; k_dflt (refine' truthy_B ?qbj8_hz ?_; (case qbj8_hz => first | omega | ((try simp only [List.length_take, List.length_drop, List.length_append, List.length_cons, List.length_nil]); omega)); intro k'))
  k_with "binaryOp Add str str" => (k_here; k_dflt (refine' add_S ?qbj9_hx ?qbj9_hy ?qbj9_hz ?_; (case qbj9_hx => first | with_reducible exact lit_slash | with_reducible exact lit_dot | with_reducible exact lit_dd | with_reducible exact lit_empty | with_reducible exact lit_nl | with_reducible exact lit_crlf | with_reducible exact lit_cr | with_reducible exact rfl); (case qbj9_hy => first | with_reducible exact lit_slash | with_reducible exact lit_dot | with_reducible exact lit_dd | with_reducible exact lit_empty | with_reducible exact lit_nl | with_reducible exact lit_crlf | with_reducible exact lit_cr | with_reducible exact rfl); (case qbj9_hz => first | omega | ((try simp only [List.length_take, List.length_drop, List.length_append, List.length_cons, List.length_nil]); omega)); intro t' k'))
  k_with "binaryOp Add bytes bytes" => (k_here; k_dflt (refine' add_B ?qbj10_hx ?qbj10_hy ?qbj10_hz ?_; (case qbj10_hx => first | with_reducible exact blit_slash | with_reducible exact blit_dot | with_reducible exact blit_dd | with_reducible exact blit_empty | with_reducible exact blit_nl | with_reducible exact rfl); (case qbj10_hy => first | with_reducible exact blit_slash | with_reducible exact blit_dot | with_reducible exact blit_dd | with_reducible exact blit_empty | with_reducible exact blit_nl | with_reducible exact rfl); (case qbj10_hz => first | omega | ((try simp only [List.length_take, List.length_drop, List.length_append, List.length_cons, List.length_nil]); omega)); intro t' k'))
  k_with "inplaceOp Add str str" => (k_here; k_dflt (refine' iadd_S ?qbj11_hx ?qbj11_hy ?qbj11_hz ?_; (case qbj11_hx => first | with_reducible exact lit_slash | with_reducible exact lit_dot | with_reducible exact lit_dd | with_reducible exact lit_empty | with_reducible exact lit_nl | with_reducible exact lit_crlf | with_reducible exact lit_cr | with_reducible exact rfl); (case qbj11_hy => first | with_reducible exact lit_slash | with_reducible exact lit_dot | with_reducible exact lit_dd | with_reducible exact lit_empty | with_reducible exact lit_nl | with_reducible exact lit_crlf | with_reducible exact lit_cr | with_reducible exact rfl); (case qbj11_hz => first | omega | ((try simp only [List.length_take, List.length_drop, List.length_append, List.length_cons, List.length_nil]); omega)); intro t' k'))
  k_with "inplaceOp Add bytes bytes" => (k_here; k_dflt (refine' iadd_B ?qbj12_hx ?qbj12_hy ?qbj12_hz ?_; (case qbj12_hx => first | with_reducible exact blit_slash | with_reducible exact blit_dot | with_reducible exact blit_dd | with_reducible exact blit_empty | with_reducible exact blit_nl | with_reducible exact rfl); (case qbj12_hy => first | with_reducible exact blit_slash | with_reducible exact blit_dot | with_reducible exact blit_dd | with_reducible exact blit_empty | with_reducible exact blit_nl | with_reducible exact rfl); (case qbj12_hz => first | omega | ((try simp only [List.length_take, List.length_drop, List.length_append, List.length_cons, List.length_nil]); omega)); intro t' k'))
  k_with "call builtin:str.startswith" => (k_here; k_dflt (refine' starts_S ?qbj13_hy ?_; (case qbj13_hy => first | with_reducible exact lit_slash | with_reducible exact lit_dot | with_reducible exact lit_dd | with_reducible exact lit_empty | with_reducible exact lit_nl | with_reducible exact lit_crlf | with_reducible exact lit_cr | with_reducible exact rfl)))
  k_with "call builtin:str.endswith" => (k_here; k_dflt (refine' ends_S ?qbj14_hy ?_; (case qbj14_hy => first | with_reducible exact lit_slash | with_reducible exact lit_dot | with_reducible exact lit_dd | with_reducible exact lit_empty | with_reducible exact lit_nl | with_reducible exact lit_crlf | with_reducible exact lit_cr | with_reducible exact rfl)))
  k_with "call builtin:bytes.startswith" => (k_here; k_dflt (refine' starts_B ?qbj15_hy ?_; (case qbj15_hy => first | with_reducible exact blit_slash | with_reducible exact blit_dot | with_reducible exact blit_dd | with_reducible exact blit_empty | with_reducible exact blit_nl | with_reducible exact rfl)))
  k_with "call builtin:bytes.endswith" => (k_here; k_dflt (refine' ends_B ?qbj16_hy ?_; (case qbj16_hy => first | with_reducible exact blit_slash | with_reducible exact blit_dot | with_reducible exact blit_dd | with_reducible exact blit_empty | with_reducible exact blit_nl | with_reducible exact rfl)))
  k_with "getMethod bytes" => (k_here; k_dflt (first | exact gm_bytes FB.slot_bytes_startswith FB.type_bytes_startswith (by assumption) | refine' gm_bytes FB.slot_bytes_startswith FB.type_bytes_startswith ?_ | refine' gm_bytes FB.slot_bytes_endswith FB.type_bytes_endswith ?_ | refine' gm_bytes BF.slot_split BF.type_split ?_ | refine' gm_bytes BF.slot_join BF.type_join ?_))
  k_with "truthy ref" => (k_here; k_dflt (refine' truthy_L ?qbj18_N ?qbj18_m ?qbj18_z ?qbj18_e ?_; (case qbj18_N => k_asm); (case qbj18_m => k_mem); (case qbj18_z => first | omega | ((try simp only [List.length_take, List.length_drop, List.length_append, List.length_cons, List.length_nil]); omega)); (case qbj18_e => first | exact rfl | simp); intro k'))
  k_with "subscriptTail Name UnaryOp ref int" => (k_here; k_dflt (refine' last_L ?qbj19_N ?qbj19_m ?qbj19_e ?qbj19_z ?_; (case qbj19_N => k_asm); (case qbj19_m => k_mem); (case qbj19_e => exact rfl); (case qbj19_z => first | omega | ((try simp only [List.length_take, List.length_drop, List.length_append, List.length_cons, List.length_nil]); omega))))
  k_with "call builtin:list.append" => (k_here; k_dflt (refine' app_L ?qbj20_F ?qbj20_N ?qbj20_U ?qbj20_z ?_; (case qbj20_F => k_asm); (case qbj20_N => k_asm); (case qbj20_U => k_upd); (case qbj20_z => first | omega | ((try simp only [List.length_take, List.length_drop, List.length_append, List.length_cons, List.length_nil]); omega)); (intro h' F' N'; try k_sweep)))
  k_with "call builtin:list.pop" => (k_here; k_dflt (refine' pop_L ?qbj21_F ?qbj21_N ?qbj21_m ?qbj21_e ?qbj21_U ?qbj21_z ?_; (case qbj21_F => k_asm); (case qbj21_N => k_asm); (case qbj21_m => k_mem); (case qbj21_e => exact rfl); (case qbj21_U => k_upd); (case qbj21_z => first | omega | ((try simp only [List.length_take, List.length_drop, List.length_append, List.length_cons, List.length_nil]); omega)); (intro h' F' N'; try k_sweep)))
  k_with "assign Tuple" => (k_here; k_dflt (refine' unpackN_ ?qbj22_F ?qbj22_N ?qbj22_T ?qbj22_k4 ?qbj22_k5 ?qbj22_k6 ?_; (case qbj22_F => k_asm); (case qbj22_N => k_asm); (case qbj22_T => exact News.isTup (by k_asm) (by k_mem)); (case qbj22_k4 => exact Room.hh (by assumption)); (case qbj22_k5 => exact rfl); (case qbj22_k6 => exact rfl); (intro h' F' N'; try k_sweep)))
  k_with "call builtin:str.join" => (k_here; k_dflt (refine' join_S ?qbj23_hy ?qbj23_hl ?qbj23_hv ?qbj23_hz ?_; (case qbj23_hy => first | with_reducible exact lit_slash | with_reducible exact lit_dot | with_reducible exact lit_dd | with_reducible exact lit_empty | with_reducible exact lit_nl | with_reducible exact lit_crlf | with_reducible exact lit_cr | with_reducible exact rfl); (case qbj23_hl => exact at_news (by k_asm) (by k_mem)); (case qbj23_hv => assumption); (case qbj23_hz => first | omega | ((try simp only [List.length_take, List.length_drop, List.length_append, List.length_cons, List.length_nil]); omega)); intro t' k'))
  k_with "call builtin:bytes.join" => (k_here; k_dflt (refine' join_B ?qbj24_hy ?qbj24_hl ?qbj24_hv ?qbj24_hz ?_; (case qbj24_hy => first | with_reducible exact blit_slash | with_reducible exact blit_dot | with_reducible exact blit_dd | with_reducible exact blit_empty | with_reducible exact blit_nl | with_reducible exact rfl); (case qbj24_hl => exact at_news (by k_asm) (by k_mem)); (case qbj24_hv => assumption); (case qbj24_hz => first | omega | ((try simp only [List.length_take, List.length_drop, List.length_append, List.length_cons, List.length_nil]); omega)); intro t' k'))
  k_with "call builtin:bytes.split" => (k_here; k_dflt (refine' split_B ?qbj25_F ?qbj25_N ?qbj25_hy ?qbj25_hz ?_; (case qbj25_F => k_asm); (case qbj25_N => k_asm); (case qbj25_hy => first | with_reducible exact blit_slash | with_reducible exact blit_dot | with_reducible exact blit_dd | with_reducible exact blit_empty | with_reducible exact blit_nl | with_reducible exact rfl); (case qbj25_hz => first | omega | ((try simp only [List.length_take, List.length_drop, List.length_append, List.length_cons, List.length_nil]); omega)); (intro D vs h' k' hv F' N' l1; (try k_lt l1); try k_sweep)))
  k_with "eval Name" => (k_here; k_inBlock; (with_reducible rename Fr _ _ _ _ => kF); k_dflt (refine' nameG_B kF ?qbj26_k1 ?qbj26_k2 ?qbj26_k3 ?qbj26_kv ?qbj26_kn ?_ ?qbj26_k4 ?qbj26_k8 ?qbj26_k5 ?qbj26_k6 ?qbj26_k7; (case qbj26_k4 => rfl); (case qbj26_k8 => rfl); (case qbj26_k5 => rfl); (case qbj26_k6 => rfl); (case qbj26_k7 => decide); (case qbj26_k1 => k_asm); (case qbj26_k2 => k_asm); (case qbj26_k3 => k_is); (case qbj26_kv => boot_fast); (case qbj26_kn => decide); k_whole))
  k_fill
  exact ⟨rfl, rfl⟩
section
variable (w : World) (mean : ExcName → Option Value) (mg mb : Str → Option Value)
set_option maxRecDepth 100000
set_option maxHeartbeats 8000000
theorem octets_str (l : List Nat) (t : Tok) (hb : ∀ c ∈ l, c < 256) (hz : l.length ≤ 100000) : Spec w mean mg mb 187 [.str ⟨l.toArray⟩ t] 1 12 (fun _ => True) (fun _ _ v => ∃ t', v = mkB (l.map UInt8.ofNat) t') := by
  refine' spec_of [(Str.ofString "text", .str ⟨l.toArray⟩ t)] ?ho ?hcd ?hbind ?hloc ?c1 ?c2 ?c3 ?c4 ?_
  case ho => k_is
  case hcd => k_is
  case hbind => exact rfl
  case c1 => decide
  case hloc => exact rfl
  case c2 => exact rfl
  case c3 => exact rfl
  case c4 => exact rfl
  intro A h₀ L s hR X T hp F N
  (try dsimp only); (try k_fold)
  repeat' (goal_lacks LoopAtV; first | (k_unfold; (try dsimp only)) | (k_end; wrow_close) | walk1 | (dsimp only; walk1) | (leave1; try dsimp only))
  (with_reducible rename News _ _ _ _ => N)
  (with_reducible rename Fr _ _ _ _ => F)
  refine comp_S (Got := fun y (c : Nat) => ∃ u, y = .int (c : Nat) u) (fun c => c) hR.hh (by omega) F N ?g2 ?g3
  case g2 =>
    intro C c v s₂ m₂ E' hc hv hns hm hk
    obtain ⟨u, rfl⟩ := hv
    k_steps
    exact ⟨_, _, rfl, fun _ _ e => e⟩
  case g3 =>
    intro D ys k h' tk hv F N hne
    (try dsimp only); (try k_fold)
    k_steps
    refine bytes_L (by assumption) (by assumption) (List.Mem.head _) hv (List.map_id' l) hb (by omega) hR.hh ?_
    intro h' t' k' F' N'
    (try dsimp only); (try k_fold)
    k_steps
    all_goals (refine Back.B (by assumption) ?_)
    all_goals (exact rfl)
end
end Mine
end
section
open PySem PySem.W PyProof.Rows PySem.Calls
namespace Mine
theorem kf_fn6 : PySem.Challenge.rw_ik0040_01 = PySem.Challenge.rw_ik0040_01 ∧ hd.heap_39 = hd.heap_39 := by
  k_with_none
  k_with "subscriptTail Name Slice str ref" => (k_here; k_dflt (refine' slice_S (s := ⟨_, _, _, _, _⟩) ?qca0_F ?qca0_N ?qca0_hl ?qca0_hu ?qca0_hz ?qca0_e ?_; (case qca0_F => k_asm); (case qca0_N => k_asm); (case qca0_hl => constructor); (case qca0_hu => constructor); (case qca0_hz => first | omega | ((try simp only [List.length_take, List.length_drop, List.length_append, List.length_cons, List.length_nil]); omega)); (case qca0_e => first | with_reducible exact cut_h1 _ | with_reducible exact cut_h2 _ | with_reducible exact cut_l1 _ | with_reducible exact cut_l2 _ | with_reducible exact cut_12 _ | with_reducible exact cut_23 _ | with_reducible exact cut_m1 _); (intro h' t' k' F' N'; try k_sweep)))
  k_with "subscriptTail Name Slice bytes ref" => (k_here; k_dflt (refine' slice_B (s := ⟨_, _, _, _, _⟩) ?qca1_F ?qca1_N ?qca1_hl ?qca1_hu ?qca1_hz ?qca1_e ?_; (case qca1_F => k_asm); (case qca1_N => k_asm); (case qca1_hl => constructor); (case qca1_hu => constructor); (case qca1_hz => first | omega | ((try simp only [List.length_take, List.length_drop, List.length_append, List.length_cons, List.length_nil]); omega)); (case qca1_e => first | with_reducible exact cut_h1 _ | with_reducible exact cut_h2 _ | with_reducible exact cut_l1 _ | with_reducible exact cut_l2 _ | with_reducible exact cut_12 _ | with_reducible exact cut_23 _ | with_reducible exact cut_m1 _); (intro h' t' k' F' N'; try k_sweep)))
  k_with "compareOp Eq str str" => (k_here; k_dflt (refine' eq_S ?qca2_hx ?qca2_hy ?_; (case qca2_hx => first | with_reducible exact lit_slash | with_reducible exact lit_dot | with_reducible exact lit_dd | with_reducible exact lit_empty | with_reducible exact lit_nl | with_reducible exact lit_crlf | with_reducible exact lit_cr | with_reducible exact rfl); (case qca2_hy => first | with_reducible exact lit_slash | with_reducible exact lit_dot | with_reducible exact lit_dd | with_reducible exact lit_empty | with_reducible exact lit_nl | with_reducible exact lit_crlf | with_reducible exact lit_cr | with_reducible exact rfl)))
  k_with "compareOp Eq bytes bytes" => (k_here; k_dflt (refine' eq_B ?qca3_hx ?qca3_hy ?_; (case qca3_hx => first | with_reducible exact blit_slash | with_reducible exact blit_dot | with_reducible exact blit_dd | with_reducible exact blit_empty | with_reducible exact blit_nl | with_reducible exact rfl); (case qca3_hy => first | with_reducible exact blit_slash | with_reducible exact blit_dot | with_reducible exact blit_dd | with_reducible exact blit_empty | with_reducible exact blit_nl | with_reducible exact rfl)))
  k_with "compareOp NotEq str str" => (k_here; k_dflt (refine' ne_S ?qca4_hx ?qca4_hy ?_; (case qca4_hx => first | with_reducible exact lit_slash | with_reducible exact lit_dot | with_reducible exact lit_dd | with_reducible exact lit_empty | with_reducible exact lit_nl | with_reducible exact lit_crlf | with_reducible exact lit_cr | with_reducible exact rfl); (case qca4_hy => first | with_reducible exact lit_slash | with_reducible exact lit_dot | with_reducible exact lit_dd | with_reducible exact lit_empty | with_reducible exact lit_nl | with_reducible exact lit_crlf | with_reducible exact lit_cr | with_reducible exact rfl)))
  k_with "compareOp NotEq bytes bytes" => (k_here; k_dflt (refine' ne_B ?qca5_hx ?qca5_hy ?_; (case qca5_hx => first | with_reducible exact blit_slash | with_reducible exact blit_dot | with_reducible exact blit_dd | with_reducible exact blit_empty | with_reducible exact blit_nl | with_reducible exact rfl); (case qca5_hy => first | with_reducible exact blit_slash | with_reducible exact blit_dot | with_reducible exact blit_dd | with_reducible exact blit_empty | with_reducible exact blit_nl | with_reducible exact rfl)))
  k_with "truthy str" => (k_here; k_dflt (refine' truthy_S ?qca6_hz ?_; (case qca6_hz => first | omega | ((try simp only [List.length_take, List.length_drop, List.length_append, List.length_cons, List.length_nil]); omega)); intro k'))
  k_with "truthy bytes" => (k_here; k_dflt (refine' truthy_B ?qca7_hz ?_; (case qca7_hz => first | omega | ((try simp only [List.length_take, List.length_drop, List.length_append, List.length_cons, List.length_nil]); omega)); intro k'))
  k_with "binaryOp Add str str" => (k_here; k_dflt (refine' add_S ?qca8_hx ?qca8_hy ?qca8_hz ?_; (case qca8_hx => first | with_reducible exact lit_slash | with_reducible exact lit_dot | with_reducible exact lit_dd | with_reducible exact lit_empty | with_reducible exact lit_nl | with_reducible exact lit_crlf | with_reducible exact lit_cr | with_reducible exact rfl); (case qca8_hy => first | with_reducible exact lit_slash | with_reducible exact lit_dot | with_reducible exact lit_dd | with_reducible exact lit_empty | with_reducible exact lit_nl | with_reducible exact lit_crlf | with_reducible exact lit_cr | with_reducible exact rfl); (case qca8_hz => first | omega | ((try simp only [List.length_take, List.length_drop, List.length_append, List.length_cons, List.length_nil]); omega)); intro t' k'))
  k_with "binaryOp Add bytes bytes" => (k_here; k_dflt (refine' add_B ?qca9_hx ?qca9_hy ?qca9_hz ?_; (case qca9_hx => first | with_reducible exact blit_slash | with_reducible exact blit_dot | with_reducible exact blit_dd | with_reducible exact blit_empty | with_reducible exact blit_nl | with_reducible exact rfl); (case qca9_hy => first | with_reducible exact blit_slash | with_reducible exact blit_dot | with_reducible exact blit_dd | with_reducible exact blit_empty | with_reducible exact blit_nl | with_reducible exact rfl); (case qca9_hz => first | omega | ((try simp only [List.length_take, List.length_drop, List.length_append, List.length_cons, List.length_nil]); omega)); intro t' k'))
  k_with "inplaceOp Add str str" => (k_here; k_dflt (refine' iadd_S ?qca10_hx ?qca10_hy ?qca10_hz ?_; (case qca10_hx => first | with_reducible exact lit_slash | with_reducible exact lit_dot | with_reducible exact lit_dd | with_reducible exact lit_empty | with_reducible exact lit_nl | with_reducible exact lit_crlf | with_reducible exact lit_cr | with_reducible exact rfl); (case qca10_hy => first | with_reducible exact lit_slash | with_reducible exact lit_dot | with_reducible exact lit_dd | with_reducible exact lit_empty | with_reducible exact lit_nl | with_reducible exact lit_crlf | with_reducible exact lit_cr | with_reducible exact rfl); (case qca10_hz => first | omega | ((try simp only [List.length_take, List.length_drop, List.length_append, List.length_cons, List.length_nil]); omega)); intro t' k'))
  k_with "inplaceOp Add bytes bytes" => (k_here; k_dflt (refine' iadd_B ?qca11_hx ?qca11_hy ?qca11_hz ?_; (case qca11_hx => first | with_reducible exact blit_slash | with_reducible exact blit_dot | with_reducible exact blit_dd | with_reducible exact blit_empty | with_reducible exact blit_nl | with_reducible exact rfl); (case qca11_hy => first | with_reducible exact blit_slash | with_reducible exact blit_dot | with_reducible exact blit_dd | with_reducible exact blit_empty | with_reducible exact blit_nl | with_reducible exact rfl); (case qca11_hz => first | omega | ((try simp only [List.length_take, List.length_drop, List.length_append, List.length_cons, List.length_nil]); omega)); intro t' k'))
  k_with "call builtin:str.startswith" => (k_here; k_dflt (refine' starts_S ?qca12_hy ?_; (case qca12_hy => first | with_reducible exact lit_slash | with_reducible exact lit_dot | with_reducible exact lit_dd | with_reducible exact lit_empty | with_reducible exact lit_nl | with_reducible exact lit_crlf | with_reducible exact lit_cr | with_reducible exact rfl)))
  k_with "call builtin:str.endswith" => (k_here; k_dflt (refine' ends_S ?qca13_hy ?_; (case qca13_hy => first | with_reducible exact lit_slash | with_reducible exact lit_dot | with_reducible exact lit_dd | with_reducible exact lit_empty | with_reducible exact lit_nl | with_reducible exact lit_crlf | with_reducible exact lit_cr | with_reducible exact rfl)))
  k_with "call builtin:bytes.startswith" => (k_here; k_dflt (refine' starts_B ?qca14_hy ?_; (case qca14_hy => first | with_reducible exact blit_slash | with_reducible exact blit_dot | with_reducible exact blit_dd | with_reducible exact blit_empty | with_reducible exact blit_nl | with_reducible exact rfl)))
  k_with "call builtin:bytes.endswith" => (k_here; k_dflt (refine' ends_B ?qca15_hy ?_; (case qca15_hy => first | with_reducible exact blit_slash | with_reducible exact blit_dot | with_reducible exact blit_dd | with_reducible exact blit_empty | with_reducible exact blit_nl | with_reducible exact rfl)))
  k_with "getMethod bytes" => (k_here; k_dflt (first | with_reducible refine' gm_bytes FB.slot_bytes_startswith FB.type_bytes_startswith ?_ | with_reducible refine' gm_bytes FB.slot_bytes_endswith FB.type_bytes_endswith ?_ | with_reducible refine' gm_bytes BF.slot_split BF.type_split ?_ | with_reducible refine' gm_bytes BF.slot_join BF.type_join ?_))
  k_with "truthy ref" => (k_here; k_dflt (refine' truthy_L ?qca17_N ?qca17_m ?qca17_z ?qca17_e ?_; (case qca17_N => k_asm); (case qca17_m => k_mem); (case qca17_z => first | omega | ((try simp only [List.length_take, List.length_drop, List.length_append, List.length_cons, List.length_nil]); omega)); (case qca17_e => first | exact rfl | simp); intro k'))
  k_with "subscriptTail Name UnaryOp ref int" => (k_here; k_dflt (refine' last_L ?qca18_N ?qca18_m ?qca18_e ?qca18_z ?_; (case qca18_N => k_asm); (case qca18_m => k_mem); (case qca18_e => exact rfl); (case qca18_z => first | omega | ((try simp only [List.length_take, List.length_drop, List.length_append, List.length_cons, List.length_nil]); omega))))
  k_with "call builtin:list.append" => (k_here; k_dflt (refine' app_L ?qca19_F ?qca19_N ?qca19_U ?qca19_z ?_; (case qca19_F => k_asm); (case qca19_N => k_asm); (case qca19_U => k_upd); (case qca19_z => first | omega | ((try simp only [List.length_take, List.length_drop, List.length_append, List.length_cons, List.length_nil]); omega)); (intro h' F' N'; try k_sweep)))
  k_with "call builtin:list.pop" => (k_here; k_dflt (refine' pop_L ?qca20_F ?qca20_N ?qca20_m ?qca20_e ?qca20_U ?qca20_z ?_; (case qca20_F => k_asm); (case qca20_N => k_asm); (case qca20_m => k_mem); (case qca20_e => exact rfl); (case qca20_U => k_upd); (case qca20_z => first | omega | ((try simp only [List.length_take, List.length_drop, List.length_append, List.length_cons, List.length_nil]); omega)); (intro h' F' N'; try k_sweep)))
  k_with "assign Tuple" => (k_here; k_dflt (refine' unpackN_ ?qca21_F ?qca21_N ?qca21_T ?qca21_k4 ?qca21_k5 ?qca21_k6 ?_; (case qca21_F => k_asm); (case qca21_N => k_asm); (case qca21_T => exact News.isTup (by k_asm) (by k_mem)); (case qca21_k4 => exact Room.hh (by assumption)); (case qca21_k5 => exact rfl); (case qca21_k6 => exact rfl); (intro h' F' N'; try k_sweep)))
  k_with "call builtin:str.join" => (k_here; k_dflt (refine' join_S ?qca22_hy ?qca22_hl ?qca22_hv ?qca22_hz ?_; (case qca22_hy => first | with_reducible exact lit_slash | with_reducible exact lit_dot | with_reducible exact lit_dd | with_reducible exact lit_empty | with_reducible exact lit_nl | with_reducible exact lit_crlf | with_reducible exact lit_cr | with_reducible exact rfl); (case qca22_hl => exact at_news (by k_asm) (by k_mem)); (case qca22_hv => assumption); (case qca22_hz => first | omega | ((try simp only [List.length_take, List.length_drop, List.length_append, List.length_cons, List.length_nil]); omega)); intro t' k'))
  k_with "call builtin:bytes.join" => (k_here; k_dflt (refine' join_B ?qca23_hy ?qca23_hl ?qca23_hv ?qca23_hz ?_; (case qca23_hy => first | with_reducible exact blit_slash | with_reducible exact blit_dot | with_reducible exact blit_dd | with_reducible exact blit_empty | with_reducible exact blit_nl | with_reducible exact rfl); (case qca23_hl => exact at_news (by k_asm) (by k_mem)); (case qca23_hv => assumption); (case qca23_hz => first | omega | ((try simp only [List.length_take, List.length_drop, List.length_append, List.length_cons, List.length_nil]); omega)); intro t' k'))
  k_with "call builtin:bytes.split" => (k_here; k_dflt (refine' split_B ?qca24_F ?qca24_N ?qca24_hy ?qca24_hz ?_; (case qca24_F => k_asm); (case qca24_N => k_asm); (case qca24_hy => first | with_reducible exact blit_slash | with_reducible exact blit_dot | with_reducible exact blit_dd | with_reducible exact blit_empty | with_reducible exact blit_nl | with_reducible exact rfl); (case qca24_hz => first | omega | ((try simp only [List.length_take, List.length_drop, List.length_append, List.length_cons, List.length_nil]); omega)); (intro D vs h' k' hv F' N' l1; (try k_lt l1); try k_sweep)))
  k_with "getMethod ref" => (k_here; k_dflt (first | (with_reducible refine' gm_pat (pat_lines (Frag.In.keeps ?qca25_X (Fr.keep ?qca25_F))) ?_; (case qca25_X => k_asm); (case qca25_F => k_asm)) | (with_reducible refine' gm_pat (pat_eols (Frag.In.keeps ?qca25_X (Fr.keep ?qca25_F))) ?_; (case qca25_X => k_asm); (case qca25_F => k_asm)) | (with_reducible refine' gm_pat (pat_blines (Frag.In.keeps ?qca25_X (Fr.keep ?qca25_F))) ?_; (case qca25_X => k_asm); (case qca25_F => k_asm))))
  k_with "call builtin:re.Pattern.sub" => (k_here; k_dflt (refine' sub_lines ?qca26_X ?qca26_F ?qca26_N ?qca26_hy ?qca26_hx ?_; (case qca26_X => k_asm); (case qca26_F => k_asm); (case qca26_N => k_asm); (case qca26_hy => first | with_reducible exact lit_slash | with_reducible exact lit_dot | with_reducible exact lit_dd | with_reducible exact lit_empty | with_reducible exact lit_nl | with_reducible exact lit_crlf | with_reducible exact lit_cr | with_reducible exact rfl); (case qca26_hx => first | omega | ((try simp only [List.length_take, List.length_drop, List.length_append, List.length_cons, List.length_nil]); omega)); (intro t' h' k' F' N'; try k_sweep)))
  k_with "call builtin:re.Pattern.sub" => (k_here; k_dflt (refine' sub_eols ?qca27_X ?qca27_F ?qca27_N ?qca27_hy ?qca27_hx ?_; (case qca27_X => k_asm); (case qca27_F => k_asm); (case qca27_N => k_asm); (case qca27_hy => first | with_reducible exact lit_slash | with_reducible exact lit_dot | with_reducible exact lit_dd | with_reducible exact lit_empty | with_reducible exact lit_nl | with_reducible exact lit_crlf | with_reducible exact lit_cr | with_reducible exact rfl); (case qca27_hx => first | omega | ((try simp only [List.length_take, List.length_drop, List.length_append, List.length_cons, List.length_nil]); omega)); (intro t' h' k' F' N'; try k_sweep)))
  k_with "call builtin:re.Pattern.sub" => (k_here; k_dflt (refine' sub_blines ?qca28_X ?qca28_F ?qca28_N ?qca28_hy ?qca28_hx ?_; (case qca28_X => k_asm); (case qca28_F => k_asm); (case qca28_N => k_asm); (case qca28_hy => first | with_reducible exact blit_slash | with_reducible exact blit_dot | with_reducible exact blit_dd | with_reducible exact blit_empty | with_reducible exact blit_nl | with_reducible exact rfl); (case qca28_hx => first | omega | ((try simp only [List.length_take, List.length_drop, List.length_append, List.length_cons, List.length_nil]); omega)); (intro t' h' k' F' N'; try k_sweep)))
  k_fill
  exact ⟨rfl, rfl⟩
section
variable (w : World) (mean : ExcName → Option Value) (mg mb : Str → Option Value)
set_option maxRecDepth 100000
set_option maxHeartbeats 8000000
theorem pat_lines {w : World} {h : Heap} (X : (hd.heap_39 w.params).In h) : IsPat h 43 codeQ 0 := ⟨_, _, _, _, _, _, X _ _ (by k_is), rfl, rfl, rfl, rfl, rfl, rfl, X _ _ (by k_is), rfl, by decide +kernel⟩
theorem pat_blines {w : World} {h : Heap} (X : (hd.heap_39 w.params).In h) : IsPat h 48 codeQ 1 := ⟨_, _, _, _, _, _, X _ _ (by k_is), rfl, rfl, rfl, rfl, rfl, rfl, X _ _ (by k_is), rfl, by decide +kernel⟩
theorem pat_eols {w : World} {h : Heap} (X : (hd.heap_39 w.params).In h) : IsPat h 53 codeE 0 := ⟨_, _, _, _, _, _, X _ _ (by k_is), rfl, rfl, rfl, rfl, rfl, rfl, X _ _ (by k_is), rfl, by decide +kernel⟩
theorem gm_pat {M : PySem.Model} {A : Around} {E : Value → Shared → Prop} {s : Shared} {P : Addr} {code : Array Nat} {kind : Nat} {pl : Sem Bool} {Q : Value × List Value → Shared → Prop} (I : IsPat s.heap P code kind) (h : Q (.builtin "re.Pattern.sub", [.ref P]) s) : wpAny M A (getMethod (.ref P) (Str.ofString "sub") pl) Q E s := by
  obtain ⟨o, vs, C, oc, items, n, a, b, c, _⟩ := I
  exact getMethod_builtin ⟨o, a, b⟩ PF.attrs PF.slot_sub PF.type_sub (fun x e => by cases e; exact ⟨o, a, c⟩) h
section
variable {w : World} {A : Around} {E : Value → Shared → Prop} {s : Shared} {h₀ : Heap} {L : Addr} {m : Str → Option Value} {news : List (Addr × Obj)} {t u : Tok} {Q : Value → Shared → Prop}
theorem sub_lines {x : List Nat} {y : Str} (X : (hd.heap_39 w.params).In h₀) (F : Fr h₀ L s.heap m) (N : News h₀ L s.heap news) (hy : y = ⟨[46, 46].toArray⟩) (hx : x.length ≤ 100000)
    (h : ∀ t' h' tk', Fr h₀ L h' m → News h₀ L h' news → Q (.str ⟨(dotsL 10 46 true x).toArray⟩ t') { s with heap := h', toks := tk' }) : wpAny (model PP w) A (call (.builtin "re.Pattern.sub") [.ref 43, .str y t, .str ⟨x.toArray⟩ u]) Q E s := by
  subst hy
  exact sub_str (pat_lines (X.keeps F.keep)) (findsQ x.toArray (by rw [List.size_toArray]; omega)) (subQ_str x) (by decide) (by omega) (by have := dotsL_length (10 : Nat) 46 true x; omega) fun t' h' tk' k => h t' h' tk' (Mine.Fr.on F k) (Mine.News.on N k)
theorem sub_eols {x : List Nat} {y : Str} (X : (hd.heap_39 w.params).In h₀) (F : Fr h₀ L s.heap m) (N : News h₀ L s.heap news) (hy : y = ⟨[13, 10].toArray⟩) (hx : x.length ≤ 100000)
    (h : ∀ t' h' tk', Fr h₀ L h' m → News h₀ L h' news → Q (.str ⟨(fixL x).toArray⟩ t') { s with heap := h', toks := tk' }) : wpAny (model PP w) A (call (.builtin "re.Pattern.sub") [.ref 53, .str y t, .str ⟨x.toArray⟩ u]) Q E s := by
  subst hy
  exact sub_str (pat_eols (X.keeps F.keep)) (findsE x) (subE x) (by decide) (by omega) (by have := fixL_length x; omega) fun t' h' tk' k => h t' h' tk' (Mine.Fr.on F k) (Mine.News.on N k)
theorem sub_blines {x : List UInt8} {y : Array UInt8} (X : (hd.heap_39 w.params).In h₀) (F : Fr h₀ L s.heap m) (N : News h₀ L s.heap news) (hy : y = [46, 46].toArray) (hx : x.length ≤ 100000)
    (h : ∀ t' h' tk', Fr h₀ L h' m → News h₀ L h' news → Q (.bytes (dotsL 10 46 true x).toArray t') { s with heap := h', toks := tk' }) : wpAny (model PP w) A (call (.builtin "re.Pattern.sub") [.ref 48, .bytes y t, .bytes x.toArray u]) Q E s := by
  subst hy
  exact sub_bytes (pat_blines (X.keeps F.keep)) (findsQ _ (by rw [Array.size_map, List.size_toArray]; omega)) (subQ_bytes x) (by decide) (by omega) (by have := dotsL_length (10 : UInt8) 46 true x; omega) fun t' h' tk' k => h t' h' tk' (Mine.Fr.on F k) (Mine.News.on N k)
end
theorem fixeols_spec (l : List Nat) (t : Tok) : Spec w mean mg mb 74 [.str ⟨l.toArray⟩ t] 1 12 (fun _ => l.length ≤ 10000) (fun _ _ v => ∃ t', v = mkS (fixL l) t') := by
  refine' spec_of [(Str.ofString "data", .str ⟨l.toArray⟩ t)] ?ho ?hcd ?hbind ?hloc ?c1 ?c2 ?c3 ?c4 ?_
  case ho => k_is
  case hcd => k_is
  case hbind => exact rfl
  case c1 => decide
  case hloc => exact rfl
  case c2 => exact rfl
  case c3 => exact rfl
  case c4 => exact rfl
  intro A h₀ L s hR X T hp F N
  (try dsimp only); (try k_fold)
  have hfx := fixL_length l
  k_steps
  all_goals (refine Back.S (by assumption) ?_)
  all_goals (exact rfl)
theorem quotedata_spec (l : List Nat) (t : Tok) : Spec w mean mg mb 60 [.str ⟨l.toArray⟩ t] 1 12 (fun _ => l.length ≤ 10000) (fun _ _ v => ∃ t', v = mkS (dotsL 10 46 true (fixL l)) t') := by
  refine' spec_of [(Str.ofString "data", .str ⟨l.toArray⟩ t)] ?ho ?hcd ?hbind ?hloc ?c1 ?c2 ?c3 ?c4 ?_
  case ho => k_is
  case hcd => k_is
  case hbind => exact rfl
  case c1 => decide
  case hloc => exact rfl
  case c2 => exact rfl
  case c3 => exact rfl
  case c4 => exact rfl
  intro A h₀ L s hR X T hp F N
  (try dsimp only); (try k_fold)
  have hfx := fixL_length l
  k_steps
  all_goals (refine Back.S (by assumption) ?_)
  all_goals (exact rfl)
theorem periods_spec (l : List UInt8) (t : Tok) : Spec w mean mg mb 67 [.bytes l.toArray t] 1 12 (fun _ => l.length ≤ 10000) (fun _ _ v => ∃ t', v = mkB (dotsL 10 46 true l) t') := by
  refine' spec_of [(Str.ofString "bindata", .bytes l.toArray t)] ?ho ?hcd ?hbind ?hloc ?c1 ?c2 ?c3 ?c4 ?_
  case ho => k_is
  case hcd => k_is
  case hbind => exact rfl
  case c1 => decide
  case hloc => exact rfl
  case c2 => exact rfl
  case c3 => exact rfl
  case c4 => exact rfl
  intro A h₀ L s hR X T hp F N
  (try dsimp only); (try k_fold)
  k_steps
  all_goals (refine Back.B (by assumption) ?_)
  all_goals (exact rfl)
end
end Mine
end
section
open PySem PySem.W PyProof.Rows PySem.Calls
namespace Mine
theorem kf_fn7 : PySem.Challenge.rw_ik0040_01 = PySem.Challenge.rw_ik0040_01 ∧ hd.heap_39 = hd.heap_39 := by
  k_with_none
  k_with "own turn_end" => ((first | with_reducible refine' TurnG.next ?qcb0_F ?qcb0_N ?_ ?qcb0_hm | with_reducible refine' TurnG.cont ?qcb0_F ?qcb0_N ?_ ?qcb0_hm); (case qcb0_F => with_reducible assumption); (case qcb0_N => with_reducible assumption); (case qcb0_hm => exact fun y hy => if_neg hy))
  k_with "exec For" => (k_here; (with_reducible rename Fr _ _ _ _ => lF'); k_dflt (refine' For_invVF lF' ?qcb1_k1 ?qcb1_k2 ?_ ?qcb1_k3 ?qcb1_k4; (case qcb1_k1 => exact rfl); (case qcb1_k2 => exact rfl); (case qcb1_k3 => intro _; rfl); (case qcb1_k4 => exact PassesOwn.never); k_whole))
  k_with "subscriptTail Name Slice str ref" => (k_here; k_dflt (refine' slice_S (s := ⟨_, _, _, _, _⟩) ?qcb2_F ?qcb2_N ?qcb2_hl ?qcb2_hu ?qcb2_hz ?qcb2_e ?_; (case qcb2_F => k_asm); (case qcb2_N => k_asm); (case qcb2_hl => constructor); (case qcb2_hu => constructor); (case qcb2_hz => first | omega | ((try simp only [List.length_take, List.length_drop, List.length_append, List.length_cons, List.length_nil]); omega)); (case qcb2_e => first | with_reducible exact cut_h1 _ | with_reducible exact cut_h2 _ | with_reducible exact cut_l1 _ | with_reducible exact cut_l2 _ | with_reducible exact cut_12 _ | with_reducible exact cut_23 _ | with_reducible exact cut_m1 _); (intro h' t' k' F' N'; try k_sweep)))
  k_with "subscriptTail Name Slice bytes ref" => (k_here; k_dflt (refine' slice_B (s := ⟨_, _, _, _, _⟩) ?qcb3_F ?qcb3_N ?qcb3_hl ?qcb3_hu ?qcb3_hz ?qcb3_e ?_; (case qcb3_F => k_asm); (case qcb3_N => k_asm); (case qcb3_hl => constructor); (case qcb3_hu => constructor); (case qcb3_hz => first | omega | ((try simp only [List.length_take, List.length_drop, List.length_append, List.length_cons, List.length_nil]); omega)); (case qcb3_e => first | with_reducible exact cut_h1 _ | with_reducible exact cut_h2 _ | with_reducible exact cut_l1 _ | with_reducible exact cut_l2 _ | with_reducible exact cut_12 _ | with_reducible exact cut_23 _ | with_reducible exact cut_m1 _); (intro h' t' k' F' N'; try k_sweep)))
  k_with "compareOp Eq str str" => (k_here; k_dflt (refine' eq_S ?qcb4_hx ?qcb4_hy ?_; (case qcb4_hx => first | with_reducible exact lit_slash | with_reducible exact lit_dot | with_reducible exact lit_dd | with_reducible exact lit_empty | with_reducible exact lit_nl | with_reducible exact lit_crlf | with_reducible exact lit_cr | with_reducible exact rfl); (case qcb4_hy => first | with_reducible exact lit_slash | with_reducible exact lit_dot | with_reducible exact lit_dd | with_reducible exact lit_empty | with_reducible exact lit_nl | with_reducible exact lit_crlf | with_reducible exact lit_cr | with_reducible exact rfl)))
  k_with "compareOp Eq bytes bytes" => (k_here; k_dflt (refine' eq_B ?qcb5_hx ?qcb5_hy ?_; (case qcb5_hx => first | with_reducible exact blit_slash | with_reducible exact blit_dot | with_reducible exact blit_dd | with_reducible exact blit_empty | with_reducible exact blit_nl | with_reducible exact rfl); (case qcb5_hy => first | with_reducible exact blit_slash | with_reducible exact blit_dot | with_reducible exact blit_dd | with_reducible exact blit_empty | with_reducible exact blit_nl | with_reducible exact rfl)))
  k_with "compareOp NotEq str str" => (k_here; k_dflt (refine' ne_S ?qcb6_hx ?qcb6_hy ?_; (case qcb6_hx => first | with_reducible exact lit_slash | with_reducible exact lit_dot | with_reducible exact lit_dd | with_reducible exact lit_empty | with_reducible exact lit_nl | with_reducible exact lit_crlf | with_reducible exact lit_cr | with_reducible exact rfl); (case qcb6_hy => first | with_reducible exact lit_slash | with_reducible exact lit_dot | with_reducible exact lit_dd | with_reducible exact lit_empty | with_reducible exact lit_nl | with_reducible exact lit_crlf | with_reducible exact lit_cr | with_reducible exact rfl)))
  k_with "compareOp NotEq bytes bytes" => (k_here; k_dflt (refine' ne_B ?qcb7_hx ?qcb7_hy ?_; (case qcb7_hx => first | with_reducible exact blit_slash | with_reducible exact blit_dot | with_reducible exact blit_dd | with_reducible exact blit_empty | with_reducible exact blit_nl | with_reducible exact rfl); (case qcb7_hy => first | with_reducible exact blit_slash | with_reducible exact blit_dot | with_reducible exact blit_dd | with_reducible exact blit_empty | with_reducible exact blit_nl | with_reducible exact rfl)))
  k_with "truthy str" => (k_here; k_dflt (refine' truthy_S ?qcb8_hz ?_; (case qcb8_hz => first | omega | ((try simp only [List.length_take, List.length_drop, List.length_append, List.length_cons, List.length_nil]); omega)); intro k'))
  k_with "truthy bytes" => (k_here; k_dflt (refine' truthy_B ?qcb9_hz ?_; (case qcb9_hz => first | omega | ((try simp only [List.length_take, List.length_drop, List.length_append, List.length_cons, List.length_nil]); omega)); intro k'))
  k_with "binaryOp Add str str" => (k_here; k_dflt (refine' add_S ?qcb10_hx ?qcb10_hy ?qcb10_hz ?_; (case qcb10_hx => first | with_reducible exact lit_slash | with_reducible exact lit_dot | with_reducible exact lit_dd | with_reducible exact lit_empty | with_reducible exact lit_nl | with_reducible exact lit_crlf | with_reducible exact lit_cr | with_reducible exact rfl); (case qcb10_hy => first | with_reducible exact lit_slash | with_reducible exact lit_dot | with_reducible exact lit_dd | with_reducible exact lit_empty | with_reducible exact lit_nl | with_reducible exact lit_crlf | with_reducible exact lit_cr | with_reducible exact rfl); (case qcb10_hz => first | omega | ((try simp only [List.length_take, List.length_drop, List.length_append, List.length_cons, List.length_nil]); omega)); intro t' k'))
  k_with "binaryOp Add bytes bytes" => (k_here; k_dflt (refine' add_B ?qcb11_hx ?qcb11_hy ?qcb11_hz ?_; (case qcb11_hx => first | with_reducible exact blit_slash | with_reducible exact blit_dot | with_reducible exact blit_dd | with_reducible exact blit_empty | with_reducible exact blit_nl | with_reducible exact rfl); (case qcb11_hy => first | with_reducible exact blit_slash | with_reducible exact blit_dot | with_reducible exact blit_dd | with_reducible exact blit_empty | with_reducible exact blit_nl | with_reducible exact rfl); (case qcb11_hz => first | omega | ((try simp only [List.length_take, List.length_drop, List.length_append, List.length_cons, List.length_nil]); omega)); intro t' k'))
  k_with "inplaceOp Add str str" => (k_here; k_dflt (refine' iadd_S ?qcb12_hx ?qcb12_hy ?qcb12_hz ?_; (case qcb12_hx => first | with_reducible exact lit_slash | with_reducible exact lit_dot | with_reducible exact lit_dd | with_reducible exact lit_empty | with_reducible exact lit_nl | with_reducible exact lit_crlf | with_reducible exact lit_cr | with_reducible exact rfl); (case qcb12_hy => first | with_reducible exact lit_slash | with_reducible exact lit_dot | with_reducible exact lit_dd | with_reducible exact lit_empty | with_reducible exact lit_nl | with_reducible exact lit_crlf | with_reducible exact lit_cr | with_reducible exact rfl); (case qcb12_hz => first | omega | ((try simp only [List.length_take, List.length_drop, List.length_append, List.length_cons, List.length_nil]); omega)); intro t' k'))
  k_with "inplaceOp Add bytes bytes" => (k_here; k_dflt (refine' iadd_B ?qcb13_hx ?qcb13_hy ?qcb13_hz ?_; (case qcb13_hx => first | with_reducible exact blit_slash | with_reducible exact blit_dot | with_reducible exact blit_dd | with_reducible exact blit_empty | with_reducible exact blit_nl | with_reducible exact rfl); (case qcb13_hy => first | with_reducible exact blit_slash | with_reducible exact blit_dot | with_reducible exact blit_dd | with_reducible exact blit_empty | with_reducible exact blit_nl | with_reducible exact rfl); (case qcb13_hz => first | omega | ((try simp only [List.length_take, List.length_drop, List.length_append, List.length_cons, List.length_nil]); omega)); intro t' k'))
  k_with "call builtin:str.startswith" => (k_here; k_dflt (refine' starts_S ?qcb14_hy ?_; (case qcb14_hy => first | with_reducible exact lit_slash | with_reducible exact lit_dot | with_reducible exact lit_dd | with_reducible exact lit_empty | with_reducible exact lit_nl | with_reducible exact lit_crlf | with_reducible exact lit_cr | with_reducible exact rfl)))
  k_with "call builtin:str.endswith" => (k_here; k_dflt (refine' ends_S ?qcb15_hy ?_; (case qcb15_hy => first | with_reducible exact lit_slash | with_reducible exact lit_dot | with_reducible exact lit_dd | with_reducible exact lit_empty | with_reducible exact lit_nl | with_reducible exact lit_crlf | with_reducible exact lit_cr | with_reducible exact rfl)))
  k_with "call builtin:bytes.startswith" => (k_here; k_dflt (refine' starts_B ?qcb16_hy ?_; (case qcb16_hy => first | with_reducible exact blit_slash | with_reducible exact blit_dot | with_reducible exact blit_dd | with_reducible exact blit_empty | with_reducible exact blit_nl | with_reducible exact rfl)))
  k_with "call builtin:bytes.endswith" => (k_here; k_dflt (refine' ends_B ?qcb17_hy ?_; (case qcb17_hy => first | with_reducible exact blit_slash | with_reducible exact blit_dot | with_reducible exact blit_dd | with_reducible exact blit_empty | with_reducible exact blit_nl | with_reducible exact rfl)))
  k_with "getMethod bytes" => (k_here; k_dflt (first | with_reducible refine' gm_bytes FB.slot_bytes_startswith FB.type_bytes_startswith ?_ | with_reducible refine' gm_bytes FB.slot_bytes_endswith FB.type_bytes_endswith ?_ | with_reducible refine' gm_bytes BF.slot_split BF.type_split ?_ | with_reducible refine' gm_bytes BF.slot_join BF.type_join ?_))
  k_with "truthy ref" => (k_here; k_dflt (refine' truthy_L ?qcb19_N ?qcb19_m ?qcb19_z ?qcb19_e ?_; (case qcb19_N => k_asm); (case qcb19_m => k_mem); (case qcb19_z => first | omega | ((try simp only [List.length_take, List.length_drop, List.length_append, List.length_cons, List.length_nil]); omega)); (case qcb19_e => first | exact rfl | simp); intro k'))
  k_with "subscriptTail Name UnaryOp ref int" => (k_here; k_dflt (refine' last_L ?qcb20_N ?qcb20_m ?qcb20_e ?qcb20_z ?_; (case qcb20_N => k_asm); (case qcb20_m => k_mem); (case qcb20_e => exact rfl); (case qcb20_z => first | omega | ((try simp only [List.length_take, List.length_drop, List.length_append, List.length_cons, List.length_nil]); omega))))
  k_with "call builtin:list.append" => (k_here; k_dflt (refine' app_L ?qcb21_F ?qcb21_N ?qcb21_U ?qcb21_z ?_; (case qcb21_F => k_asm); (case qcb21_N => k_asm); (case qcb21_U => k_upd); (case qcb21_z => first | omega | ((try simp only [List.length_take, List.length_drop, List.length_append, List.length_cons, List.length_nil]); omega)); (intro h' F' N'; try k_sweep)))
  k_with "call builtin:list.pop" => (k_here; k_dflt (refine' pop_L ?qcb22_F ?qcb22_N ?qcb22_m ?qcb22_e ?qcb22_U ?qcb22_z ?_; (case qcb22_F => k_asm); (case qcb22_N => k_asm); (case qcb22_m => k_mem); (case qcb22_e => exact rfl); (case qcb22_U => k_upd); (case qcb22_z => first | omega | ((try simp only [List.length_take, List.length_drop, List.length_append, List.length_cons, List.length_nil]); omega)); (intro h' F' N'; try k_sweep)))
  k_with "assign Tuple" => (k_here; k_dflt (refine' unpackN_ ?qcb23_F ?qcb23_N ?qcb23_T ?qcb23_k4 ?qcb23_k5 ?qcb23_k6 ?_; (case qcb23_F => k_asm); (case qcb23_N => k_asm); (case qcb23_T => exact News.isTup (by k_asm) (by k_mem)); (case qcb23_k4 => exact Room.hh (by assumption)); (case qcb23_k5 => exact rfl); (case qcb23_k6 => exact rfl); (intro h' F' N'; try k_sweep)))
  k_with "call builtin:str.join" => (k_here; k_dflt (refine' join_S ?qcb24_hy ?qcb24_hl ?qcb24_hv ?qcb24_hz ?_; (case qcb24_hy => first | with_reducible exact lit_slash | with_reducible exact lit_dot | with_reducible exact lit_dd | with_reducible exact lit_empty | with_reducible exact lit_nl | with_reducible exact lit_crlf | with_reducible exact lit_cr | with_reducible exact rfl); (case qcb24_hl => exact at_news (by k_asm) (by k_mem)); (case qcb24_hv => assumption); (case qcb24_hz => first | omega | ((try simp only [List.length_take, List.length_drop, List.length_append, List.length_cons, List.length_nil]); omega)); intro t' k'))
  k_with "call builtin:bytes.join" => (k_here; k_dflt (refine' join_B ?qcb25_hy ?qcb25_hl ?qcb25_hv ?qcb25_hz ?_; (case qcb25_hy => first | with_reducible exact blit_slash | with_reducible exact blit_dot | with_reducible exact blit_dd | with_reducible exact blit_empty | with_reducible exact blit_nl | with_reducible exact rfl); (case qcb25_hl => exact at_news (by k_asm) (by k_mem)); (case qcb25_hv => assumption); (case qcb25_hz => first | omega | ((try simp only [List.length_take, List.length_drop, List.length_append, List.length_cons, List.length_nil]); omega)); intro t' k'))
  k_with "call builtin:bytes.split" => (k_here; k_dflt (refine' split_B ?qcb26_F ?qcb26_N ?qcb26_hy ?qcb26_hz ?_; (case qcb26_F => k_asm); (case qcb26_N => k_asm); (case qcb26_hy => first | with_reducible exact blit_slash | with_reducible exact blit_dot | with_reducible exact blit_dd | with_reducible exact blit_empty | with_reducible exact blit_nl | with_reducible exact rfl); (case qcb26_hz => first | omega | ((try simp only [List.length_take, List.length_drop, List.length_append, List.length_cons, List.length_nil]); omega)); (intro D vs h' k' hv F' N' l1; (try k_lt l1); try k_sweep)))
  k_with "StarOf ref" => (k_here; k_dflt (refine' star_base ?qcb27_F ?qcb27_N ?qcb27_ha ?qcb27_hz ?_; (case qcb27_F => k_asm); (case qcb27_N => k_asm); (case qcb27_ha => assumption); (case qcb27_hz => first | omega | ((try simp only [List.length_take, List.length_drop, List.length_append, List.length_cons, List.length_nil]); omega)); (intro h' F' N'; try k_sweep)))
  k_with "subscriptTail Name Slice ref ref" => (k_here; k_dflt (refine' cut_L ?qcb28_F ?qcb28_N ?qcb28_a ?qcb28_pl ?qcb28_pu ?qcb28_hz ?qcb28_e ?_; (case qcb28_F => k_asm); (case qcb28_N => k_asm); (case qcb28_a => k_mem); (case qcb28_pl => constructor); (case qcb28_pu => constructor); (case qcb28_hz => first | omega | ((try simp only [List.length_take, List.length_drop, List.length_append, List.length_cons, List.length_nil]); omega)); (case qcb28_e => first | with_reducible exact cut_h1 _ | with_reducible exact cut_h2 _ | with_reducible exact cut_l1 _ | with_reducible exact cut_l2 _ | with_reducible exact cut_12 _ | with_reducible exact cut_23 _ | with_reducible exact cut_m1 _); (intro D' h' F' N' l1; (try k_lt l1); try k_sweep)))
  k_with "binaryOp Add ref ref" => (k_here; k_dflt (refine' add_L ?qcb29_F ?qcb29_N ?qcb29_a ?qcb29_b ?qcb29_hz ?_; (case qcb29_F => k_asm); (case qcb29_N => k_asm); (case qcb29_a => k_mem); (case qcb29_b => k_mem); (case qcb29_hz => first | omega | ((try simp only [List.length_take, List.length_drop, List.length_append, List.length_cons, List.length_nil]); omega)); (intro D' h' F' N' l1; (try k_lt l1); try k_sweep)))
  k_with "call ref" => (k_here; refine' call_spec ?qcb30_F ?qcb30_X ?qcb30_N ?qcb30_T (normpath_str _ _ _ _ _ _) ?qcb30_R ?qcb30_p ?_; (case qcb30_F => k_asm); (case qcb30_X => k_asm); (case qcb30_N => k_asm); (case qcb30_T => k_asm); (case qcb30_R => exact Room.less (by assumption) (by decide) (by decide)); (case qcb30_p => ((try dsimp only); first | omega | ((try simp only [List.length_take, List.length_drop, List.length_append, List.length_cons, List.length_nil]); omega))); (intro v h' tk' F' N' kk o; (clear kk; (obtain ⟨t', o'⟩ := o); subst o'; try dsimp only)))
  k_with "call ref" => (k_here; refine' call_spec ?qcb31_F ?qcb31_X ?qcb31_N ?qcb31_T (pjoin_str _ _ _ _ _ _ _ _ (by assumption) ?qcb31_hz) ?qcb31_R ?qcb31_p ?_; (case qcb31_F => k_asm); (case qcb31_X => k_asm); (case qcb31_N => k_asm); (case qcb31_T => k_asm); (case qcb31_R => exact Room.less (by assumption) (by decide) (by decide)); (case qcb31_p => trivial); (case qcb31_hz => ((try simp only [List.map_cons, List.map_nil, List.sum_cons, List.sum_nil, List.length_cons, List.length_nil]); omega)); (intro v h' tk' F' N' kk o; (clear kk; (obtain ⟨t', o'⟩ := o); subst o'; try dsimp only)))
  k_with "call ref" => (k_here; refine' call_spec ?qcb32_F ?qcb32_X ?qcb32_N ?qcb32_T (pjoin_str _ _ _ _ _ _ _ _ (All2.nil_on (by assumption)) ?qcb32_hz) ?qcb32_R ?qcb32_p ?_; (case qcb32_F => k_asm); (case qcb32_X => k_asm); (case qcb32_N => k_asm); (case qcb32_T => k_asm); (case qcb32_R => exact Room.less (by assumption) (by decide) (by decide)); (case qcb32_p => trivial); (case qcb32_hz => ((try simp only [List.map_cons, List.map_nil, List.sum_cons, List.sum_nil, List.length_cons, List.length_nil]); omega)); (intro v h' tk' F' N' kk o; (clear kk; (obtain ⟨t', o'⟩ := o); subst o'; try dsimp only)))
  k_with "call ref" => (k_here; refine' call_spec ?qcb33_F ?qcb33_X ?qcb33_N ?qcb33_T (pjoin_str _ _ _ _ _ _ _ [_] (.cons ⟨_, rfl⟩ .nil) ?qcb33_hz) ?qcb33_R ?qcb33_p ?_; (case qcb33_F => k_asm); (case qcb33_X => k_asm); (case qcb33_N => k_asm); (case qcb33_T => k_asm); (case qcb33_R => exact Room.less (by assumption) (by decide) (by decide)); (case qcb33_p => trivial); (case qcb33_hz => ((try simp only [List.map_cons, List.map_nil, List.sum_cons, List.sum_nil, List.length_cons, List.length_nil]); omega)); (intro v h' tk' F' N' kk o; (clear kk; (obtain ⟨t', o'⟩ := o); subst o'; try dsimp only)))
  k_with "call ref" => (k_here; refine' call_spec ?qcb34_F ?qcb34_X ?qcb34_N ?qcb34_T (normpath_bytes _ _ _ _ _ _) ?qcb34_R ?qcb34_p ?_; (case qcb34_F => k_asm); (case qcb34_X => k_asm); (case qcb34_N => k_asm); (case qcb34_T => k_asm); (case qcb34_R => exact Room.less (by assumption) (by decide) (by decide)); (case qcb34_p => ((try dsimp only); first | omega | ((try simp only [List.length_take, List.length_drop, List.length_append, List.length_cons, List.length_nil]); omega))); (intro v h' tk' F' N' kk o; (clear kk; (obtain ⟨t', o'⟩ := o); subst o'; try dsimp only)))
  k_with "call ref" => (k_here; refine' call_spec ?qcb35_F ?qcb35_X ?qcb35_N ?qcb35_T (pjoin_bytes _ _ _ _ _ _ _ _ (by assumption) ?qcb35_hz) ?qcb35_R ?qcb35_p ?_; (case qcb35_F => k_asm); (case qcb35_X => k_asm); (case qcb35_N => k_asm); (case qcb35_T => k_asm); (case qcb35_R => exact Room.less (by assumption) (by decide) (by decide)); (case qcb35_p => trivial); (case qcb35_hz => ((try simp only [List.map_cons, List.map_nil, List.sum_cons, List.sum_nil, List.length_cons, List.length_nil]); omega)); (intro v h' tk' F' N' kk o; (clear kk; (obtain ⟨t', o'⟩ := o); subst o'; try dsimp only)))
  k_with "call ref" => (k_here; refine' call_spec ?qcb36_F ?qcb36_X ?qcb36_N ?qcb36_T (pjoin_bytes _ _ _ _ _ _ _ _ (All2.nil_on (by assumption)) ?qcb36_hz) ?qcb36_R ?qcb36_p ?_; (case qcb36_F => k_asm); (case qcb36_X => k_asm); (case qcb36_N => k_asm); (case qcb36_T => k_asm); (case qcb36_R => exact Room.less (by assumption) (by decide) (by decide)); (case qcb36_p => trivial); (case qcb36_hz => ((try simp only [List.map_cons, List.map_nil, List.sum_cons, List.sum_nil, List.length_cons, List.length_nil]); omega)); (intro v h' tk' F' N' kk o; (clear kk; (obtain ⟨t', o'⟩ := o); subst o'; try dsimp only)))
  k_with "call ref" => (k_here; refine' call_spec ?qcb37_F ?qcb37_X ?qcb37_N ?qcb37_T (pjoin_bytes _ _ _ _ _ _ _ [_] (.cons ⟨_, rfl⟩ .nil) ?qcb37_hz) ?qcb37_R ?qcb37_p ?_; (case qcb37_F => k_asm); (case qcb37_X => k_asm); (case qcb37_N => k_asm); (case qcb37_T => k_asm); (case qcb37_R => exact Room.less (by assumption) (by decide) (by decide)); (case qcb37_p => trivial); (case qcb37_hz => ((try simp only [List.map_cons, List.map_nil, List.sum_cons, List.sum_nil, List.length_cons, List.length_nil]); omega)); (intro v h' tk' F' N' kk o; (clear kk; (obtain ⟨t', o'⟩ := o); subst o'; try dsimp only)))
  k_fill
  exact ⟨rfl, rfl⟩
section
variable (w : World) (mean : ExcName → Option Value) (mg mb : Str → Option Value)
set_option maxRecDepth 100000
set_option maxHeartbeats 8000000
theorem gone_str (l : List Nat) (t : Tok) (R : Addr) (vs : List Value) (cs : List (List Nat)) (n : Nat) (hv : All2 SItem vs cs) (hz : l.length + (cs.map (·.length)).sum + 2 * cs.length ≤ 500) : Spec w mean mg mb 194 [.str ⟨l.toArray⟩ t, .ref R] 5 24 (fun h => h.get? R = some (lstObj vs n)) (ListOut SItem (goneL 47 46 l cs)) := by
  refine' spec_of [(Str.ofString "root", .str ⟨l.toArray⟩ t), (Str.ofString "rows", .ref R)] ?ho ?hcd ?hbind ?hloc ?c1 ?c2 ?c3 ?c4 ?_
  case ho => k_is
  case hcd => k_is
  case hbind => exact rfl
  case c1 => decide
  case hloc => exact rfl
  case c2 => exact rfl
  case c3 => exact rfl
  case c4 => exact rfl
  intro A h₀ L s hR X T hp F N
  (try dsimp only); (try k_fold)
  have hvl := hv.length
  (try dsimp only at hp)
  repeat' (goal_lacks LoopAtV; first | (k_unfold; (try dsimp only)) | (k_end; wrow_close) | walk1 | (dsimp only; walk1) | (leave1; try dsimp only))
  walk1
  (with_reducible rename News _ _ _ _ => N)
  (with_reducible rename Fr _ _ _ _ => F)
  refine iter_grow (fun pre ys => All2 SItem ys (pre.foldl (gstep 47 46) [l])) hR.hh hv F N (.inr hp) (.cons ⟨_, rfl⟩ .nil) ?turn ?done
  case turn =>
    intro pre c post v ys k I it h tk hcs hvc hlt hlr hys F N
    (k_lt hlr)
    have hlt := PySem.W.ltN hlt
    obtain ⟨tc, rfl⟩ := hvc
    obtain ⟨acc', p, hacc, hp1, hp2⟩ := gfold_last 47 46 pre [l] (by simp)
    rw [hcs] at hz
    simp only [List.map_append, List.map_cons, List.sum_append, List.sum_cons, List.length_append, List.length_cons, List.length_nil, List.getLast?_singleton, Option.getD_some] at hz hp1 hp2
    rw [hacc] at hys
    obtain ⟨ys', v', rfl, hy1, ⟨tv, rfl⟩⟩ := hys.inv_snoc
    have hyl := hy1.length
    have hj : (List.foldl (jstep 47) p [c]).length ≤ p.length + c.length + 1 := jstep_length 47 p c
    (try dsimp only); (try k_fold)
    repeat' (goal_lacks LoopAtV; first | (k_unfold; (try dsimp only)) | (k_end; wrow_close) | walk1 | (dsimp only; walk1) | (leave1; try dsimp only))
    all_goals (try ((try dsimp only); k_unfold))
    all_goals walk_at "own turn_end"
    all_goals (rw [gfold_step hacc]; exact All2.snoc hys ⟨_, rfl⟩)
  case done =>
    intro ys k u h tk hys F N
    have hyl := hys.length
    obtain ⟨acc', p, hacc, hp1, hp2⟩ := gfold_last 47 46 cs [l] (by simp)
    have hal := congrArg List.length hacc
    have hjw := jfold_length 47 cs l
    simp only [List.length_append, List.length_cons, List.length_nil] at hal hp2
    (try dsimp only); (try k_fold)
    k_steps
    all_goals (refine Back.L (by assumption) (by assumption) (All2.append hys.drop1 (.cons ⟨_, rfl⟩ (.cons ⟨_, rfl⟩ .nil))))
theorem gone_bytes (l : List UInt8) (t : Tok) (R : Addr) (vs : List Value) (cs : List (List UInt8)) (n : Nat) (hv : All2 BItem vs cs) (hz : l.length + (cs.map (·.length)).sum + 2 * cs.length ≤ 500) : Spec w mean mg mb 194 [.bytes l.toArray t, .ref R] 5 24 (fun h => h.get? R = some (lstObj vs n)) (ListOut BItem (goneL 47 46 l cs)) := by
  refine' spec_of [(Str.ofString "root", .bytes l.toArray t), (Str.ofString "rows", .ref R)] ?ho ?hcd ?hbind ?hloc ?c1 ?c2 ?c3 ?c4 ?_
  case ho => k_is
  case hcd => k_is
  case hbind => exact rfl
  case c1 => decide
  case hloc => exact rfl
  case c2 => exact rfl
  case c3 => exact rfl
  case c4 => exact rfl
  intro A h₀ L s hR X T hp F N
  (try dsimp only); (try k_fold)
  have hvl := hv.length
  (try dsimp only at hp)
  repeat' (goal_lacks LoopAtV; first | (k_unfold; (try dsimp only)) | (k_end; wrow_close) | walk1 | (dsimp only; walk1) | (leave1; try dsimp only))
  walk1
  (with_reducible rename News _ _ _ _ => N)
  (with_reducible rename Fr _ _ _ _ => F)
  refine iter_grow (fun pre ys => All2 BItem ys (pre.foldl (gstep 47 46) [l])) hR.hh hv F N (.inr hp) (.cons ⟨_, rfl⟩ .nil) ?turn ?done
  case turn =>
    intro pre c post v ys k I it h tk hcs hvc hlt hlr hys F N
    (k_lt hlr)
    have hlt := PySem.W.ltN hlt
    obtain ⟨tc, rfl⟩ := hvc
    obtain ⟨acc', p, hacc, hp1, hp2⟩ := gfold_last 47 46 pre [l] (by simp)
    rw [hcs] at hz
    simp only [List.map_append, List.map_cons, List.sum_append, List.sum_cons, List.length_append, List.length_cons, List.length_nil, List.getLast?_singleton, Option.getD_some] at hz hp1 hp2
    rw [hacc] at hys
    obtain ⟨ys', v', rfl, hy1, ⟨tv, rfl⟩⟩ := hys.inv_snoc
    have hyl := hy1.length
    have hj : (List.foldl (jstep 47) p [c]).length ≤ p.length + c.length + 1 := jstep_length 47 p c
    (try dsimp only); (try k_fold)
    repeat' (goal_lacks LoopAtV; first | (k_unfold; (try dsimp only)) | (k_end; wrow_close) | walk1 | (dsimp only; walk1) | (leave1; try dsimp only))
    all_goals (try ((try dsimp only); k_unfold))
    all_goals walk_at "own turn_end"
    all_goals (rw [gfold_step hacc]; exact All2.snoc hys ⟨_, rfl⟩)
  case done =>
    intro ys k u h tk hys F N
    have hyl := hys.length
    obtain ⟨acc', p, hacc, hp1, hp2⟩ := gfold_last 47 46 cs [l] (by simp)
    have hal := congrArg List.length hacc
    have hjw := jfold_length 47 cs l
    simp only [List.length_append, List.length_cons, List.length_nil] at hal hp2
    (try dsimp only); (try k_fold)
    k_steps
    all_goals (refine Back.L (by assumption) (by assumption) (All2.append hys.drop1 (.cons ⟨_, rfl⟩ (.cons ⟨_, rfl⟩ .nil))))
end
end Mine
end
section
open PySem PySem.W PyProof.Rows PySem.Calls PyProof.V
namespace Mine
set_option maxRecDepth 100000
theorem lstrip_list (l : List Nat) (c : Nat) : Txt.lstripChars ⟨l.toArray⟩ ⟨[c].toArray⟩ = ⟨(l.dropWhile (· == c)).toArray⟩ := by
  unfold Txt.lstripChars
  rw [PyProof.Rows.stripBy_eq]
  show PySem.Builtin.Str.strSub ⟨l.toArray⟩ (l.toArray.toList.takeWhile _).length (⟨l.toArray⟩ : PySem.Str).length = _
  rw [sub_S, len_S]
  have e : (fun x => (⟨[c].toArray⟩ : PySem.Str).cps.contains x) = (· == c) := by
    funext x
    show ([c].toArray).contains x = _
    by_cases h : x = c <;> simp [h]
  show (⟨((l.drop (l.takeWhile (fun x => (⟨[c].toArray⟩ : PySem.Str).cps.contains x)).length).take (l.length - (l.takeWhile (fun x => (⟨[c].toArray⟩ : PySem.Str).cps.contains x)).length)).toArray⟩ : PySem.Str) = _
  rw [e, List.take_of_length_le (by rw [List.length_drop]; omega)]
  congr 2
  conv => lhs; rw [← List.takeWhile_append_dropWhile (p := (· == c)) (l := l)]
  have : (l.takeWhile (· == c) ++ l.dropWhile (· == c)).takeWhile (· == c) = l.takeWhile (· == c) := by rw [List.takeWhile_append_dropWhile]
  rw [this, List.drop_left]
theorem cut_lead (l : List Nat) (c : Nat) {i : Int} (e : i = (l.length : Int) - ((l.dropWhile (· == c)).length : Int)) : cutS l none (some i) = l.takeWhile (· == c) := by
  have h : l.length = (l.takeWhile (· == c)).length + (l.dropWhile (· == c)).length := by
    conv => lhs; rw [← List.takeWhile_append_dropWhile (p := (· == c)) (l := l)]
    rw [List.length_append]
  have h2 : i = (((l.takeWhile (· == c)).length : Nat) : Int) := by omega
  rw [h2, cut_hi]
  conv => lhs; rw [← List.takeWhile_append_dropWhile (p := (· == c)) (l := l)]
  have : (l.takeWhile (· == c) ++ l.dropWhile (· == c)).takeWhile (· == c) = l.takeWhile (· == c) := by rw [List.takeWhile_append_dropWhile]
  rw [this, List.take_left]
theorem cut_init {α : Type} (l : List α) : cutS l none (some (-1)) = l.dropLast := by
  unfold cutS
  have h := clipAt_neg l.length 1 (Nat.le_refl _)
  simp only [Option.elim, List.drop_zero, Nat.sub_zero]
  rw [show (-1 : Int) = -((1 : Nat) : Int) from rfl, h, List.dropLast_eq_take]
section
variable {prog : Program} {w : World} {A : Around} {E : Value → Shared → Prop} {s : Shared} {h₀ : Heap} {L D a b : Addr} {m : PySem.Str → Option Value} {news news' : List (Addr × Obj)} {n n2 : Nat} {vs us zs : List Value} {v : Value} {value slice : PySem.Expr} {t u : Tok} {Q : Value → Shared → Prop}
theorem lstrip_S {l : List Nat} {c : Nat} {y : PySem.Str} (hy : y = ⟨[c].toArray⟩) (hz : l.length ≤ 10000000) (h : ∀ t' k, Q (.str ⟨(l.dropWhile (· == c)).toArray⟩ t') { s with toks := k }) : wpAny (model prog w) A (call (.builtin "str.lstrip") [.str ⟨l.toArray⟩ t, .str y u]) Q E s := by
  subst hy
  exact SC.lstripChars (fun t' k => by rw [lstrip_list]; exact h t' k) (by rw [len_S, sizeLine_eq]; omega)
theorem mul_S {c k : Nat} {i : Int} {y : PySem.Str} (hy : y = ⟨[c].toArray⟩) (hi : i = (k : Int)) (hz : k ≤ 100000) (h : ∀ t' q, Q (.str ⟨(List.replicate k c).toArray⟩ t') { s with toks := q }) : wpAny (model prog w) A (binaryOp .Mult (.str y t) (.int i u)) Q E s := by
  subst hy hi
  have e1 : (⟨[c].toArray⟩ : PySem.Str).length = 1 := rfl
  refine P.mul_str ?_ (fun h1 _ => ?_) (fun h1 _ => ?_) ?_
  · rw [decide_eq_false (show ¬ (k : Int) < -(2 ^ 63 : Int) by omega), decide_eq_false (show ¬ (k : Int) ≥ 2 ^ 63 by omega)]; rfl
  · rw [e1]
    have : (1 : Int) ≤ (2 ^ 63 - 1) / (k : Int) := by
      rw [Int.le_ediv_iff_mul_le (by omega)]
      omega
    omega
  · rw [e1]
    simp [Builtin.Str.tooLong, sizeLine_eq]
    omega
  · have key : ∀ (k : Nat) (acc : Array Nat), (List.replicate k ([c].toArray)).foldl (· ++ ·) acc = acc ++ (List.replicate k c).toArray := by
      intro k
      induction k with
      | zero => intro acc; simp
      | succ k ih =>
        intro acc
        rw [List.replicate_succ, List.foldl_cons, ih, List.replicate_succ]
        apply Array.toList_inj.mp
        simp
    match k, hz with
    | 0, _ => exact ⟨by decide, h _ _⟩
    | 1, _ => exact h _ _
    | k + 2, hz =>
      have c1 : ¬ (((k + 2 : Nat) : Int) < 1) := by omega
      have c2 : ¬ ((((k + 2 : Nat) : Int) == 1 || (⟨[c].toArray⟩ : PySem.Str).length == 0) = true) := by
        rw [e1]
        simp
        omega
      rw [if_neg c1, if_neg c2]
      have e3 : (⟨(List.replicate ((k + 2 : Nat) : Int).toNat (⟨[c].toArray⟩ : PySem.Str).cps).foldl (· ++ ·) #[]⟩ : PySem.Str) = ⟨(List.replicate (k + 2) c).toArray⟩ := by
        show (⟨(List.replicate (k + 2) ([c].toArray)).foldl (· ++ ·) #[]⟩ : PySem.Str) = _
        rw [key]
        simp
      rw [e3]
      exact ⟨by rw [len_S, List.length_replicate, sizeLine_eq]; omega, h _ _⟩
theorem rev_base {vk : Value} {ops : List Value} (F : Fr h₀ L s.heap m) (N : News h₀ L s.heap news) (ha : h₀.get? a = some (lstObj vs n)) (pk : IsPart vk (some (-1))) (hz : vs.length ≤ 1000000)
    (h : ∀ D h', Fr h₀ L h' m → News h₀ L h' ((D, listOf vs.reverse.toArray 0) :: news) → (∀ p ∈ news, p.1 < D) → Q (.ref D) { s with heap := h' })
    (hs : subscripted slice false (.ref a) (.ref s.heap.objs.size) = operate ops (getItem (.ref a) (.ref s.heap.objs.size)) := by with_unfolding_all rfl) (ht : ∀ r, letTemporaryGo value (.ref a) r = pure () := by intro _; with_unfolding_all rfl) :
    wpAny (model prog w) A (subscriptTail value slice (.ref a) (.ref s.heap.objs.size)) Q E { s with heap := s.heap.push { cls := .type "slice", data := .fields #[.none, .none, vk] } } :=
  krv_lit (its := vs.toArray) (zs := vs.reverse) F N (isList_lst (F.keep _ _ ha)) pk rfl h hs ht (by rw [List.size_toArray, sizeLine_eq]; omega)
theorem rep_L {k : Nat} {i : Int} (F : Fr h₀ L s.heap m) (N : News h₀ L s.heap news) (ha : (a, listOf [v].toArray n) ∈ news) (hi : i = (k : Int)) (hz : k ≤ 200)
    (h : ∀ D h', Fr h₀ L h' m → News h₀ L h' ((D, listOf (List.replicate k v).toArray 0) :: news) → (∀ p ∈ news, p.1 < D) → Q (.ref D) { s with heap := h' }) : wpAny (model prog w) A (binaryOp .Mult (.ref a) (.int i u)) Q E s := by
  subst hi
  refine KMa.mul F N (isList_lst (N _ ha).1) (by omega) (by omega) (by simp; omega) ?_ h
  have : ∀ k : Nat, (List.replicate k [v]).flatten = List.replicate k v := by
    intro k
    induction k with
    | zero => rfl
    | succ k ih => rw [List.replicate_succ, List.flatten_cons, ih, List.replicate_succ]; rfl
  simpa using this k
end
theorem All2.reverse {α β : Type} {R : α → β → Prop} : ∀ {l : List α} {r : List β}, All2 R l r → All2 R l.reverse r.reverse
  | _, _, .nil => .nil
  | _, _, .cons a b => by
    rw [List.reverse_cons, List.reverse_cons]
    exact (All2.reverse b).snoc a
theorem All2.rep {α β : Type} {R : α → β → Prop} {a : α} {b : β} (h : R a b) : ∀ k, All2 R (List.replicate k a) (List.replicate k b)
  | 0 => .nil
  | k + 1 => by rw [List.replicate_succ, List.replicate_succ]; exact .cons h (All2.rep h k)
end Mine
namespace Mine
section
variable {prog : Program} {w : World} {A : Around} {E : Value → Shared → Prop} {s : Shared} {env : Env} {h₀ : Heap} {x : PySem.Str} {body : List Stmt} {Q : Flow → Shared → Prop}
/-- where a turn comes to that changes a letter with a value, one with a list, and one that nobody reads -/
def TurnT (h₀ : Heap) (L : Addr) (x z1 z2 z3 : PySem.Str) (I : Addr) (it : Obj) (rest : List (Addr × Obj)) (m₀ : PySem.Str → Option Value) (R : Value → Addr → List Value → Prop) (s₁ : Shared) (Q : Flow → Shared → Prop) (f : Flow) (s₂ : Shared) : Prop :=
  match f with
  | .ret v => Q (.ret v) s₂
  | .brk => Q .next s₂
  | _ => ∃ h' tk m' v a ys k n₂, s₂ = { s₁ with heap := h', toks := tk } ∧ Fr h₀ L h' m' ∧ News h₀ L h' n₂ ∧ (I, it) ∈ n₂ ∧ (a, lstObj ys k) ∈ n₂ ∧ (∀ p ∈ rest, p ∈ n₂) ∧ a ≠ I ∧ R v a ys ∧ m' z1 = some v ∧ m' z2 = some (.ref a) ∧ ∀ y, y ≠ x → y ≠ z1 → y ≠ z2 → y ≠ z3 → m' y = m₀ y
section
variable {L : Addr} {z1 z2 z3 : PySem.Str} {I a : Addr} {it : Obj} {rest n₂ : List (Addr × Obj)} {m₀ m' : PySem.Str → Option Value} {R : Value → Addr → List Value → Prop} {s₁ : Shared} {h' : Heap} {tk k : Nat} {v : Value} {ys : List Value}
theorem TurnT.next (F : Fr h₀ L h' m') (N : News h₀ L h' n₂) (h1 : m' z1 = some v) (h2 : m' z2 = some (.ref a)) (hi : (I, it) ∈ n₂) (ha : (a, lstObj ys k) ∈ n₂) (hs : ∀ p ∈ rest, p ∈ n₂) (hn : a ≠ I) (hm : ∀ y, y ≠ x → y ≠ z1 → y ≠ z2 → y ≠ z3 → m' y = m₀ y) (hr : R v a ys) :
    TurnT h₀ L x z1 z2 z3 I it rest m₀ R s₁ Q .next { s₁ with heap := h', toks := tk } :=
  ⟨h', tk, m', v, a, ys, k, n₂, rfl, F, N, hi, ha, hs, hn, hr, h1, h2, hm⟩
end
theorem iter_two {γ : Type} {Item : Value → γ → Prop} {l a₀ : Addr} {vs ys₀ : List Value} {cs : List γ} {n k₀ : Nat} {rest : List (Addr × Obj)} {m₀ : PySem.Str → Option Value} {v₀ : Value} (z1 z2 z3 : PySem.Str) (R : List γ → Value → Addr → List Value → Prop)
    (hh : A.handled = none) (hv : All2 Item vs cs) (F : Fr h₀ env.locals s.heap m₀) (N : News h₀ env.locals s.heap ((a₀, lstObj ys₀ k₀) :: rest)) (h1 : m₀ z1 = some v₀) (h2 : m₀ z2 = some (.ref a₀)) (hl : (l, lstObj vs n) ∈ rest) (hr : R [] v₀ a₀ ys₀)
    (turn : ∀ pre c post v u a ys k I it h tk w0, cs = pre ++ c :: post → Item v c → a ≠ I → (∀ p ∈ rest, p.1 < I) → R pre u a ys → Fr h₀ env.locals h (fun y => if y = x then some v else if y = z1 then some u else if y = z2 then some (.ref a) else if y = z3 then w0 else m₀ y) → News h₀ env.locals h ((I, it) :: (a, lstObj ys k) :: rest) →
      wpAny (model prog w) A (execs body env) (TurnT h₀ env.locals x z1 z2 z3 I it rest m₀ (R (pre ++ [c])) { s with heap := h, toks := tk } Q) E { s with heap := h, toks := tk })
    (done : ∀ u a ys k (u' w0 : Option Value) h tk, R cs u a ys → Fr h₀ env.locals h (fun y => if y = x then u' else if y = z1 then some u else if y = z2 then some (.ref a) else if y = z3 then w0 else m₀ y) → News h₀ env.locals h ((a, lstObj ys k) :: rest) → Q .next { s with heap := h, toks := tk }) :
    wpAny (model prog w) A (pyIter (.ref l)) (fun it s₂ => LoopAtV prog w A h₀ env x body Q E it s₂) E s := by
  let Mp : (Value × Addr × List Value × Nat × Option Value) → PySem.Str → Option Value := fun σ y => if y = z1 then some σ.1 else if y = z2 then some (.ref σ.2.1) else if y = z3 then σ.2.2.2.2 else m₀ y
  have mp0 : ∀ {m' : PySem.Str → Option Value} {u : Value} {a : Addr} {P : PySem.Str → Prop}, m' z1 = some u → m' z2 = some (.ref a) → (∀ y, P y → y ≠ z1 → y ≠ z2 → y ≠ z3 → m' y = m₀ y) → ∀ ys k y, P y → m' y = Mp (u, a, ys, k, m' z3) y := by
    intro m' u a P e1 e2 e3 ys k y hy
    show m' y = if y = z1 then some u else if y = z2 then some (.ref a) else if y = z3 then m' z3 else m₀ y
    by_cases q1 : y = z1
    · rw [if_pos q1, q1, e1]
    · by_cases q2 : y = z2
      · rw [if_neg q1, if_pos q2, q2, e2]
      · by_cases q3 : y = z3
        · rw [if_neg q1, if_neg q2, if_pos q3, q3]
        · rw [if_neg q1, if_neg q2, if_neg q3, e3 y hy q1 q2 q3]
  have F0 : Fr h₀ env.locals s.heap (Mp (v₀, a₀, ys₀, k₀, m₀ z3)) := by
    have e : m₀ = Mp (v₀, a₀, ys₀, k₀, m₀ z3) := funext fun y => mp0 (P := fun _ => True) h1 h2 (fun _ _ _ _ _ => rfl) ys₀ k₀ y trivial
    rw [← e]; exact F
  have hl' : ∀ (σ : Value × Addr × List Value × Nat × Option Value) h, News h₀ env.locals h ((σ.2.1, lstObj σ.2.2.1 σ.2.2.2.1) :: rest) → h.get? l = some (lstObj vs n) := fun σ h N => (N _ (List.mem_cons_of_mem _ hl)).1
  refine iter_P (σ := Value × Addr × List Value × Nat × Option Value) (fun pre σ => R pre σ.1 σ.2.1 σ.2.2.1) Mp (fun σ => (σ.2.1, lstObj σ.2.2.1 σ.2.2.2.1) :: rest) (v₀, a₀, ys₀, k₀, m₀ z3) hh hv (hl' (v₀, a₀, ys₀, k₀, m₀ z3) _ N) F0 N hr (fun pre σ m h _ _ N => hl' σ h N) ?_ ?_
  · intro pre c post v σ I it h tk e hi hlt hR F' N' hne
    refine wpAny_mono (turn pre c post v σ.1 σ.2.1 σ.2.2.1 σ.2.2.2.1 I it h tk σ.2.2.2.2 e hi (hne _ (List.mem_cons_self ..)) (fun p hp => hlt p (List.mem_cons_of_mem _ hp)) hR F' N') (fun f s₂ q => ?_) fun _ _ e => e
    have fin : (∃ h' tk' m' v a ys k n₂, s₂ = { ({ s with heap := h, toks := tk } : Shared) with heap := h', toks := tk' } ∧ Fr h₀ env.locals h' m' ∧ News h₀ env.locals h' n₂ ∧ (I, it) ∈ n₂ ∧ (a, lstObj ys k) ∈ n₂ ∧ (∀ p ∈ rest, p ∈ n₂) ∧ a ≠ I ∧ R (pre ++ [c]) v a ys ∧ m' z1 = some v ∧ m' z2 = some (.ref a) ∧ ∀ y, y ≠ x → y ≠ z1 → y ≠ z2 → y ≠ z3 → m' y = m₀ y) →
        ∃ h' tk' m' n₂ σ', s₂ = { ({ s with heap := h, toks := tk } : Shared) with heap := h', toks := tk' } ∧ Fr h₀ env.locals h' m' ∧ News h₀ env.locals h' n₂ ∧ (∀ p ∈ (I, it) :: (fun (σ : Value × Addr × List Value × Nat × Option Value) => (σ.2.1, lstObj σ.2.2.1 σ.2.2.2.1) :: rest) σ', p ∈ n₂) ∧ (∀ p ∈ (fun (σ : Value × Addr × List Value × Nat × Option Value) => (σ.2.1, lstObj σ.2.2.1 σ.2.2.2.1) :: rest) σ', p.1 ≠ I) ∧ (fun (σ : Value × Addr × List Value × Nat × Option Value) => R (pre ++ [c]) σ.1 σ.2.1 σ.2.2.1) σ' ∧ ∀ y, y ≠ x → m' y = Mp σ' y := by
      rintro ⟨h', tk', m', v', a, ys, k, n₂, rfl, F2, N2, q1, q2, q3, q4, q5, q6, q7, q8⟩
      refine ⟨h', tk', m', n₂, (v', a, ys, k, m' z3), rfl, F2, N2, ?_, ?_, q5, mp0 (P := fun y => y ≠ x) q6 q7 q8 ys k⟩
      · intro p hp
        rcases List.mem_cons.mp hp with rfl | hp
        · exact q1
        · rcases List.mem_cons.mp hp with rfl | hp
          · exact q2
          · exact q3 p hp
      · intro p hp
        rcases List.mem_cons.mp hp with rfl | hp
        · exact q4
        · exact hne p (List.mem_cons_of_mem _ hp)
    cases f with
    | ret v => exact q
    | brk => exact q
    | next => exact fin q
    | cont => exact fin q
  · intro σ u h tk hR F' N'
    exact done σ.1 σ.2.1 σ.2.2.1 σ.2.2.2.1 u σ.2.2.2.2 h tk hR F' N'
end
end Mine
namespace Mine
theorem News.dup {h₀ h : Heap} {L a : Addr} {o : Obj} {news : List (Addr × Obj)} (N : News h₀ L h news) (hm : (a, o) ∈ news) : News h₀ L h ((a, o) :: news) := fun p hp => by
  rcases List.mem_cons.mp hp with rfl | hp
  · exact N _ hm
  · exact N p hp
end Mine
namespace Mine
section
variable {prog : Program} {w : World} {A : Around} {E : Value → Shared → Prop} {s : Shared} {h₀ : Heap} {L D : Addr} {news : List (Addr × Obj)} {n : Nat} {t t1 t2 : Tok} {Q : Value → Shared → Prop}
theorem two_any (c a b : List Nat) : ([(⟨a.toArray⟩ : PySem.Str), ⟨b.toArray⟩].any (· == ⟨c.toArray⟩)) = decide (c = a ∨ c = b) := by
  have h : ∀ a : List Nat, ((⟨a.toArray⟩ : PySem.Str) == ⟨c.toArray⟩) = decide (c = a) := by
    intro a
    have e : ((⟨a.toArray⟩ : PySem.Str) = ⟨c.toArray⟩) ↔ c = a := by
      constructor
      · intro h; injection h with h; simpa using h.symm
      · rintro rfl; rfl
    by_cases q : c = a
    · rw [decide_eq_true q]; exact beq_iff_eq.mpr (e.mpr q)
    · rw [decide_eq_false q]; exact beq_eq_false_iff_ne.mpr fun x => q (e.mp x)
  simp only [List.any_cons, List.any_nil, Bool.or_false, h]
  by_cases h1 : c = a <;> by_cases h2 : c = b <;> simp [h1, h2]
theorem notin_S {c a b : List Nat} {x1 x2 : PySem.Str} (N : News h₀ L s.heap news) (hm : (D, listOf [.str x1 t1, .str x2 t2].toArray n) ∈ news) (h1 : x1 = ⟨a.toArray⟩) (h2 : x2 = ⟨b.toArray⟩) (h : Q (.bool (decide (¬ (c = a ∨ c = b)))) s) :
    wpAny (model prog w) A (compareOp .NotIn (.str ⟨c.toArray⟩ t) (.ref D)) Q E s := by
  subst h1 h2
  refine notin_list_strs (isList_lst (N _ hm).1) (ys := [⟨a.toArray⟩, ⟨b.toArray⟩]) (.cons _ _ (.cons _ _ .nil)) ?_
  rw [two_any, ← decide_not]
  exact h
theorem in_S {c a b : List Nat} {x1 x2 : PySem.Str} (N : News h₀ L s.heap news) (hm : (D, listOf [.str x1 t1, .str x2 t2].toArray n) ∈ news) (h1 : x1 = ⟨a.toArray⟩) (h2 : x2 = ⟨b.toArray⟩) (h : Q (.bool (decide (c = a ∨ c = b))) s) :
    wpAny (model prog w) A (compareOp .In (.str ⟨c.toArray⟩ t) (.ref D)) Q E s := by
  subst h1 h2
  refine in_list_strs (isList_lst (N _ hm).1) (ys := [⟨a.toArray⟩, ⟨b.toArray⟩]) (.cons _ _ (.cons _ _ .nil)) ?_
  rw [two_any]
  exact h
end
end Mine
end
section
namespace Mine
/-- one piece of a row, read from the last one on -/
def pstep (st : Nat × List (List Nat)) (c : List Nat) : Nat × List (List Nat) :=
  if c = [46, 46] then (st.1 + 1, st.2)
  else if c = [] ∨ c = [46] then st
  else if 0 < st.1 then (st.1 - 1, st.2)
  else (st.1, c :: st.2)
def prow (st : Nat × List (List Nat)) (row : List Nat) : Nat × List (List Nat) := (cutL 47 row).reverse.foldl pstep st
def leadL (row : List Nat) : List Nat := if row.takeWhile (· == 47) = [47, 47] then [47, 47] else [47]
def placeGo (root : List Nat) (st : Nat × List (List Nat)) : List (List Nat) → List Nat × Nat × List (List Nat)
  | [] => (root, st)
  | row :: rest => if row.take 1 = [47] then (leadL row, prow st row) else placeGo root (prow st row) rest
def placeEnd (r : List Nat × Nat × List (List Nat)) : List Nat :=
  let p := r.1 ++ joinL [47] (List.replicate (if r.1 ≠ [] then 0 else r.2.1) [46, 46] ++ r.2.2)
  if p = [] then [46] else p
def placeL (root : List Nat) (rows : List (List Nat)) : List Nat := placeEnd (placeGo root (0, []) rows.reverse)
def psize (st : Nat × List (List Nat)) : Nat := st.1 + (st.2.map (·.length)).sum + st.2.length
theorem pstep_size (st : Nat × List (List Nat)) (c : List Nat) : psize (pstep st c) ≤ psize st + c.length + 1 := by
  unfold pstep psize
  split
  · simp only; omega
  · split
    · omega
    · split
      · simp only; omega
      · simp only [List.map_cons, List.sum_cons, List.length_cons]; omega
theorem pfold_size : ∀ (cs : List (List Nat)) (st : Nat × List (List Nat)), psize (cs.foldl pstep st) ≤ psize st + (cs.map (·.length)).sum + cs.length
  | [], st => by simp
  | c :: cs, st => by
    have h1 := pfold_size cs (pstep st c)
    have h2 := pstep_size st c
    show psize (cs.foldl pstep (pstep st c)) ≤ _
    rw [List.map_cons, List.sum_cons, List.length_cons]
    omega
theorem prow_size (st : Nat × List (List Nat)) (row : List Nat) : psize (prow st row) ≤ psize st + row.length + 1 := by
  have h1 := pfold_size (cutL 47 row).reverse st
  have h2 := cutL_length_sum 47 row
  unfold prow
  rw [List.map_reverse, List.sum_reverse, List.length_reverse] at h1
  omega
theorem prows_size : ∀ (rows : List (List Nat)) (st : Nat × List (List Nat)), psize (rows.foldl prow st) ≤ psize st + (rows.map (·.length)).sum + rows.length
  | [], st => by simp
  | c :: cs, st => by
    have h1 := prows_size cs (prow st c)
    have h2 := prow_size st c
    show psize (cs.foldl prow (prow st c)) ≤ _
    rw [List.map_cons, List.sum_cons, List.length_cons]
    omega
/-- rows without a slash ahead, then the rest -/
theorem placeGo_on (root : List Nat) : ∀ (pre post : List (List Nat)) (st : Nat × List (List Nat)), (∀ r ∈ pre, ¬ r.take 1 = [47]) → placeGo root st (pre ++ post) = placeGo root (pre.foldl prow st) post
  | [], _, _, _ => rfl
  | r :: pre, post, st, h => by
    show placeGo root st (r :: (pre ++ post)) = _
    rw [placeGo, if_neg (h r (.head _)), placeGo_on root pre post (prow st r) fun q hq => h q (.tail _ hq)]
    rfl
end Mine
namespace Mine
section
variable {st : Nat × List (List Nat)} {c : List Nat}
theorem pstep_dd (h : c = [46, 46]) : pstep st c = (st.1 + 1, st.2) := if_pos h
theorem pstep_skip (h : ¬ c = [46, 46]) (h2 : c = [] ∨ c = [46]) : pstep st c = st := by unfold pstep; rw [if_neg h, if_pos h2]
theorem pstep_eat (h : ¬ c = [46, 46]) (h2 : ¬ (c = [] ∨ c = [46])) (h3 : 0 < st.1) : pstep st c = (st.1 - 1, st.2) := by unfold pstep; rw [if_neg h, if_neg h2, if_pos h3]
theorem pstep_name (h : ¬ c = [46, 46]) (h2 : ¬ (c = [] ∨ c = [46])) (h3 : ¬ 0 < st.1) : pstep st c = (st.1, c :: st.2) := by unfold pstep; rw [if_neg h, if_neg h2, if_neg h3]
theorem psize_two (st : Nat × List (List Nat)) : st.1 + st.2.length ≤ psize st := by unfold psize; omega
theorem psize_zero : psize (0, []) = 0 := rfl
end
end Mine
end
section
open PySem PySem.W PyProof.Rows PySem.Calls PyProof.V
namespace Mine
theorem pturn {σ γ : Type} {f : σ → γ → σ} {g : σ → Nat} {k : σ → List (List Nat)} {st0 st r : σ} {d : γ} {pre : List γ} {i : Int} {t : Tok} {ys : List Value} (e : f st d = r) (hst : pre.foldl f st0 = st) (hi : i = (g r : Nat)) (ha : All2 SItem ys (k r)) :
    (∃ t', Value.int i t = .int (g ((pre ++ [d]).foldl f st0) : Nat) t') ∧ All2 SItem ys (k ((pre ++ [d]).foldl f st0)) := by
  have e2 : (pre ++ [d]).foldl f st0 = r := by rw [List.foldl_append, hst]; exact e
  rw [e2]
  exact ⟨⟨t, by rw [hi]⟩, ha⟩
end Mine
namespace Mine
theorem lenS {prog : Program} {w : World} {A : Around} {E : Value → Shared → Prop} {s : Shared} {l : List Nat} {t : Tok} {Q : Value → Shared → Prop} (hz : l.length ≤ 1000000) (h : ∀ u k, Q (.int (l.length : Nat) u) { s with toks := k }) : wpAny (model prog w) A (call (.builtin "len") [.str ⟨l.toArray⟩ t]) Q E s := by
  refine PyProof.Rows.len_str (by rw [len_S]; omega) ?_
  rw [len_S]
  exact h _ _
theorem TurnT.brk {h₀ : Heap} {L : Addr} {x z1 z2 z3 : PySem.Str} {I : Addr} {it : Obj} {rest : List (Addr × Obj)} {m₀ : PySem.Str → Option Value} {R : Value → Addr → List Value → Prop} {s₁ s₂ : Shared} {Q : Flow → Shared → Prop} (h : Q .next s₂) : TurnT h₀ L x z1 z2 z3 I it rest m₀ R s₁ Q .brk s₂ := h
theorem item_dd (t : Tok) : SItem (.str (Str.ofString "..") t) [46, 46] := ⟨t, by rw [lit_dd]⟩
theorem jn_size (k : Nat) (names : List (List Nat)) : ((List.replicate k ([46, 46] : List Nat) ++ names).map (fun (c : List Nat) => c.length)).sum + (List.replicate k ([46, 46] : List Nat) ++ names).length * ([47] : List Nat).length = 3 * k + (names.map (fun (c : List Nat) => c.length)).sum + names.length := by
  induction k with
  | zero => simp
  | succ k ih =>
    rw [List.replicate_succ]
    simp only [List.cons_append, List.map_cons, List.sum_cons, List.length_cons, List.length_nil] at ih ⊢
    omega
section
variable {l c : List Nat} {cs pre post : List (List Nat)} {st st' : Nat × List (List Nat)}
theorem place_slash (hcs : cs.reverse = pre ++ c :: post) (hfree : ∀ r ∈ pre, ¬ r.take 1 = [47]) (hst : pre.foldl prow (0, []) = st) (hst2 : prow st c = st') (hc : c.take 1 = [47]) : placeL l cs = placeEnd (leadL c, st') := by
  unfold placeL
  rw [hcs, placeGo_on l pre (c :: post) _ hfree, hst, placeGo, if_pos hc, hst2]
theorem place_none (hfree : ∀ r ∈ cs.reverse, ¬ r.take 1 = [47]) (hst : cs.reverse.foldl prow (0, []) = st) : placeL l cs = placeEnd (l, st) := by
  unfold placeL
  have h := placeGo_on l cs.reverse [] (0, []) hfree
  rw [List.append_nil] at h
  rw [h, hst]
  rfl
theorem placeEnd_eq {r j : List Nat} {k : Nat} (hk : k = if r ≠ [] then 0 else st.1) (hj : r ++ joinL [47] (List.replicate k [46, 46] ++ st.2) = j) : placeEnd (r, st) = if j = [] then [46] else j := by
  subst hk hj
  rfl
end
end Mine

namespace Mine
theorem drop_len (l : List Nat) (p : Nat → Bool) : (l.dropWhile p).length ≤ l.length := (List.dropWhile_sublist p).length_le
end Mine
namespace Mine
theorem lit_ss : Str.ofString "//" = ⟨[47, 47].toArray⟩ := by decide +kernel
end Mine
namespace Mine
section
variable {l c r : List Nat} {cs pre post : List (List Nat)} {st st' : Nat × List (List Nat)}
theorem placeEnd_root (hr : r ≠ []) : placeEnd (r, st) = r ++ joinL [47] st.2 := by
  rw [placeEnd_eq (k := 0) (j := r ++ joinL [47] st.2) (by rw [if_pos hr]) rfl, if_neg (by intro h; exact hr (List.append_eq_nil_iff.mp h).1)]
theorem place_slash_end (hcs : cs.reverse = pre ++ c :: post) (hfree : ∀ r ∈ pre, ¬ r.take 1 = [47]) (hst : pre.foldl prow (0, []) = st) (hst2 : prow st c = st') (hc : c.take 1 = [47]) (hl : leadL c = r) (hr : r ≠ []) : r ++ joinL [47] st'.2 = placeL l cs := by
  rw [place_slash hcs hfree hst hst2 hc, hl, placeEnd_root hr]
theorem leadL_two (h : c.takeWhile (· == 47) = [47, 47]) : leadL c = [47, 47] := if_pos h
theorem leadL_one (h : ¬ c.takeWhile (· == 47) = [47, 47]) : leadL c = [47] := if_neg h
theorem place_root_end (hfree : ∀ r ∈ cs.reverse, ¬ r.take 1 = [47]) (hst : cs.reverse.foldl prow (0, []) = st) (hl : l ≠ []) : l ++ joinL [47] st.2 = placeL l cs := by
  rw [place_none hfree hst, placeEnd_root hl]
theorem place_bare_end (hfree : ∀ r ∈ cs.reverse, ¬ r.take 1 = [47]) (hst : cs.reverse.foldl prow (0, []) = st) (hl : ¬ l ≠ []) (hj : l ++ joinL [47] (List.replicate st.1 [46, 46] ++ st.2) ≠ []) : l ++ joinL [47] (List.replicate st.1 [46, 46] ++ st.2) = placeL l cs := by
  rw [place_none hfree hst, placeEnd_eq (k := st.1) (by rw [if_neg hl]) rfl, if_neg hj]
theorem place_dot_end (hfree : ∀ r ∈ cs.reverse, ¬ r.take 1 = [47]) (hst : cs.reverse.foldl prow (0, []) = st) (hl : ¬ l ≠ []) (hj : ¬ l ++ joinL [47] (List.replicate st.1 [46, 46] ++ st.2) ≠ []) : [46] = placeL l cs := by
  rw [place_none hfree hst, placeEnd_eq (k := st.1) (by rw [if_neg hl]) rfl, if_pos (Classical.not_not.mp hj)]
theorem strE {a b : List Nat} (h : a = b) : (⟨a.toArray⟩ : PySem.Str) = ⟨b.toArray⟩ := by rw [h]
end
end Mine
end
section
open PySem PySem.W PyProof.Rows PySem.Calls
namespace Mine
theorem kf_fn8 : PySem.Challenge.rw_ik0040_01 = PySem.Challenge.rw_ik0040_01 ∧ hd.heap_39 = hd.heap_39 := by
  k_with_none
  k_with "own drop_all" => ((repeat (with_reducible rename Fr _ _ _ _ => F1; clear F1)); (repeat (with_reducible rename News _ _ _ _ => N1; clear N1)))
  k_with "own two_end" => ((with_reducible refine' TurnT.next ?qcf1_F ?qcf1_N ?qcf1_h1 ?qcf1_h2 ?qcf1_hi ?qcf1_ha ?qcf1_hs ?qcf1_hn ?qcf1_hm ?_); (case qcf1_F => k_asm); (case qcf1_N => k_asm); (case qcf1_h1 => exact rfl); (case qcf1_h2 => exact rfl); (case qcf1_hi => k_mem); (case qcf1_ha => k_mem); (case qcf1_hs => (intro p hp; repeat (first | exact hp | refine List.mem_cons_of_mem _ ?_))); (case qcf1_hn => first | assumption | k_ne); (case qcf1_hm => (intro y h0 h1 h2 h3; simp only [if_neg h0, if_neg h1, if_neg h2, if_neg h3])))
  k_with "exec For" => (k_here; (with_reducible rename Fr _ _ _ _ => lF'); k_dflt (refine' For_invVF lF' ?qcf2_k1 ?qcf2_k2 ?_ ?qcf2_k3 ?qcf2_k4; (case qcf2_k1 => exact rfl); (case qcf2_k2 => exact rfl); (case qcf2_k3 => intro _; rfl); (case qcf2_k4 => exact PassesOwn.never); k_whole))
  k_with "subscriptTail Name Slice str ref" => (k_here; k_dflt (refine' slice_S (s := ⟨_, _, _, _, _⟩) ?qcf3_F ?qcf3_N ?qcf3_hl ?qcf3_hu ?qcf3_hz ?qcf3_e ?_; (case qcf3_F => k_asm); (case qcf3_N => k_asm); (case qcf3_hl => constructor); (case qcf3_hu => constructor); (case qcf3_hz => first | omega | ((try simp only [List.length_take, List.length_drop, List.length_append, List.length_cons, List.length_nil]); omega)); (case qcf3_e => first | with_reducible exact cut_h1 _ | with_reducible exact cut_h2 _ | with_reducible exact cut_l1 _ | with_reducible exact cut_l2 _ | with_reducible exact cut_12 _ | with_reducible exact cut_23 _ | with_reducible exact cut_m1 _); (intro h' t' k' F' N'; try k_sweep)))
  k_with "subscriptTail Name Slice bytes ref" => (k_here; k_dflt (refine' slice_B (s := ⟨_, _, _, _, _⟩) ?qcf4_F ?qcf4_N ?qcf4_hl ?qcf4_hu ?qcf4_hz ?qcf4_e ?_; (case qcf4_F => k_asm); (case qcf4_N => k_asm); (case qcf4_hl => constructor); (case qcf4_hu => constructor); (case qcf4_hz => first | omega | ((try simp only [List.length_take, List.length_drop, List.length_append, List.length_cons, List.length_nil]); omega)); (case qcf4_e => first | with_reducible exact cut_h1 _ | with_reducible exact cut_h2 _ | with_reducible exact cut_l1 _ | with_reducible exact cut_l2 _ | with_reducible exact cut_12 _ | with_reducible exact cut_23 _ | with_reducible exact cut_m1 _); (intro h' t' k' F' N'; try k_sweep)))
  k_with "compareOp Eq str str" => (k_here; k_dflt (refine' eq_S ?qcf5_hx ?qcf5_hy ?_; (case qcf5_hx => first | with_reducible exact lit_slash | with_reducible exact lit_dot | with_reducible exact lit_dd | with_reducible exact lit_empty | with_reducible exact lit_nl | with_reducible exact lit_crlf | with_reducible exact lit_cr | with_reducible exact rfl); (case qcf5_hy => first | with_reducible exact lit_slash | with_reducible exact lit_dot | with_reducible exact lit_dd | with_reducible exact lit_empty | with_reducible exact lit_nl | with_reducible exact lit_crlf | with_reducible exact lit_cr | with_reducible exact rfl)))
  k_with "compareOp Eq bytes bytes" => (k_here; k_dflt (refine' eq_B ?qcf6_hx ?qcf6_hy ?_; (case qcf6_hx => first | with_reducible exact blit_slash | with_reducible exact blit_dot | with_reducible exact blit_dd | with_reducible exact blit_empty | with_reducible exact blit_nl | with_reducible exact rfl); (case qcf6_hy => first | with_reducible exact blit_slash | with_reducible exact blit_dot | with_reducible exact blit_dd | with_reducible exact blit_empty | with_reducible exact blit_nl | with_reducible exact rfl)))
  k_with "compareOp NotEq str str" => (k_here; k_dflt (refine' ne_S ?qcf7_hx ?qcf7_hy ?_; (case qcf7_hx => first | with_reducible exact lit_slash | with_reducible exact lit_dot | with_reducible exact lit_dd | with_reducible exact lit_empty | with_reducible exact lit_nl | with_reducible exact lit_crlf | with_reducible exact lit_cr | with_reducible exact rfl); (case qcf7_hy => first | with_reducible exact lit_slash | with_reducible exact lit_dot | with_reducible exact lit_dd | with_reducible exact lit_empty | with_reducible exact lit_nl | with_reducible exact lit_crlf | with_reducible exact lit_cr | with_reducible exact rfl)))
  k_with "compareOp NotEq bytes bytes" => (k_here; k_dflt (refine' ne_B ?qcf8_hx ?qcf8_hy ?_; (case qcf8_hx => first | with_reducible exact blit_slash | with_reducible exact blit_dot | with_reducible exact blit_dd | with_reducible exact blit_empty | with_reducible exact blit_nl | with_reducible exact rfl); (case qcf8_hy => first | with_reducible exact blit_slash | with_reducible exact blit_dot | with_reducible exact blit_dd | with_reducible exact blit_empty | with_reducible exact blit_nl | with_reducible exact rfl)))
  k_with "truthy str" => (k_here; k_dflt (refine' truthy_S ?qcf9_hz ?_; (case qcf9_hz => first | omega | ((try simp only [List.length_take, List.length_drop, List.length_append, List.length_cons, List.length_nil]); omega)); intro k'))
  k_with "truthy bytes" => (k_here; k_dflt (refine' truthy_B ?qcf10_hz ?_; (case qcf10_hz => first | omega | ((try simp only [List.length_take, List.length_drop, List.length_append, List.length_cons, List.length_nil]); omega)); intro k'))
  k_with "binaryOp Add str str" => (k_here; k_dflt (refine' add_S ?qcf11_hx ?qcf11_hy ?qcf11_hz ?_; (case qcf11_hx => first | with_reducible exact lit_slash | with_reducible exact lit_dot | with_reducible exact lit_dd | with_reducible exact lit_empty | with_reducible exact lit_nl | with_reducible exact lit_crlf | with_reducible exact lit_cr | with_reducible exact rfl); (case qcf11_hy => first | with_reducible exact lit_slash | with_reducible exact lit_dot | with_reducible exact lit_dd | with_reducible exact lit_empty | with_reducible exact lit_nl | with_reducible exact lit_crlf | with_reducible exact lit_cr | with_reducible exact rfl); (case qcf11_hz => first | omega | ((try simp only [List.length_take, List.length_drop, List.length_append, List.length_cons, List.length_nil]); omega)); intro t' k'))
  k_with "binaryOp Add bytes bytes" => (k_here; k_dflt (refine' add_B ?qcf12_hx ?qcf12_hy ?qcf12_hz ?_; (case qcf12_hx => first | with_reducible exact blit_slash | with_reducible exact blit_dot | with_reducible exact blit_dd | with_reducible exact blit_empty | with_reducible exact blit_nl | with_reducible exact rfl); (case qcf12_hy => first | with_reducible exact blit_slash | with_reducible exact blit_dot | with_reducible exact blit_dd | with_reducible exact blit_empty | with_reducible exact blit_nl | with_reducible exact rfl); (case qcf12_hz => first | omega | ((try simp only [List.length_take, List.length_drop, List.length_append, List.length_cons, List.length_nil]); omega)); intro t' k'))
  k_with "inplaceOp Add str str" => (k_here; k_dflt (refine' iadd_S ?qcf13_hx ?qcf13_hy ?qcf13_hz ?_; (case qcf13_hx => first | with_reducible exact lit_slash | with_reducible exact lit_dot | with_reducible exact lit_dd | with_reducible exact lit_empty | with_reducible exact lit_nl | with_reducible exact lit_crlf | with_reducible exact lit_cr | with_reducible exact rfl); (case qcf13_hy => first | with_reducible exact lit_slash | with_reducible exact lit_dot | with_reducible exact lit_dd | with_reducible exact lit_empty | with_reducible exact lit_nl | with_reducible exact lit_crlf | with_reducible exact lit_cr | with_reducible exact rfl); (case qcf13_hz => first | omega | ((try simp only [List.length_take, List.length_drop, List.length_append, List.length_cons, List.length_nil]); omega)); intro t' k'))
  k_with "inplaceOp Add bytes bytes" => (k_here; k_dflt (refine' iadd_B ?qcf14_hx ?qcf14_hy ?qcf14_hz ?_; (case qcf14_hx => first | with_reducible exact blit_slash | with_reducible exact blit_dot | with_reducible exact blit_dd | with_reducible exact blit_empty | with_reducible exact blit_nl | with_reducible exact rfl); (case qcf14_hy => first | with_reducible exact blit_slash | with_reducible exact blit_dot | with_reducible exact blit_dd | with_reducible exact blit_empty | with_reducible exact blit_nl | with_reducible exact rfl); (case qcf14_hz => first | omega | ((try simp only [List.length_take, List.length_drop, List.length_append, List.length_cons, List.length_nil]); omega)); intro t' k'))
  k_with "call builtin:str.startswith" => (k_here; k_dflt (refine' starts_S ?qcf15_hy ?_; (case qcf15_hy => first | with_reducible exact lit_slash | with_reducible exact lit_dot | with_reducible exact lit_dd | with_reducible exact lit_empty | with_reducible exact lit_nl | with_reducible exact lit_crlf | with_reducible exact lit_cr | with_reducible exact rfl)))
  k_with "call builtin:str.endswith" => (k_here; k_dflt (refine' ends_S ?qcf16_hy ?_; (case qcf16_hy => first | with_reducible exact lit_slash | with_reducible exact lit_dot | with_reducible exact lit_dd | with_reducible exact lit_empty | with_reducible exact lit_nl | with_reducible exact lit_crlf | with_reducible exact lit_cr | with_reducible exact rfl)))
  k_with "call builtin:bytes.startswith" => (k_here; k_dflt (refine' starts_B ?qcf17_hy ?_; (case qcf17_hy => first | with_reducible exact blit_slash | with_reducible exact blit_dot | with_reducible exact blit_dd | with_reducible exact blit_empty | with_reducible exact blit_nl | with_reducible exact rfl)))
  k_with "call builtin:bytes.endswith" => (k_here; k_dflt (refine' ends_B ?qcf18_hy ?_; (case qcf18_hy => first | with_reducible exact blit_slash | with_reducible exact blit_dot | with_reducible exact blit_dd | with_reducible exact blit_empty | with_reducible exact blit_nl | with_reducible exact rfl)))
  k_with "getMethod bytes" => (k_here; k_dflt (first | with_reducible refine' gm_bytes FB.slot_bytes_startswith FB.type_bytes_startswith ?_ | with_reducible refine' gm_bytes FB.slot_bytes_endswith FB.type_bytes_endswith ?_ | with_reducible refine' gm_bytes BF.slot_split BF.type_split ?_ | with_reducible refine' gm_bytes BF.slot_join BF.type_join ?_))
  k_with "truthy ref" => (k_here; k_dflt (refine' truthy_L ?qcf20_N ?qcf20_m ?qcf20_z ?qcf20_e ?_; (case qcf20_N => k_asm); (case qcf20_m => k_mem); (case qcf20_z => first | omega | ((try simp only [List.length_take, List.length_drop, List.length_append, List.length_cons, List.length_nil]); omega)); (case qcf20_e => first | exact rfl | simp); intro k'))
  k_with "subscriptTail Name UnaryOp ref int" => (k_here; k_dflt (refine' last_L ?qcf21_N ?qcf21_m ?qcf21_e ?qcf21_z ?_; (case qcf21_N => k_asm); (case qcf21_m => k_mem); (case qcf21_e => exact rfl); (case qcf21_z => first | omega | ((try simp only [List.length_take, List.length_drop, List.length_append, List.length_cons, List.length_nil]); omega))))
  k_with "call builtin:list.append" => (k_here; k_dflt (refine' app_L ?qcf22_F ?qcf22_N ?qcf22_U ?qcf22_z ?_; (case qcf22_F => k_asm); (case qcf22_N => k_asm); (case qcf22_U => k_upd); (case qcf22_z => first | omega | ((try simp only [List.length_take, List.length_drop, List.length_append, List.length_cons, List.length_nil]); omega)); (intro h' F' N'; try k_sweep)))
  k_with "call builtin:list.pop" => (k_here; k_dflt (refine' pop_L ?qcf23_F ?qcf23_N ?qcf23_m ?qcf23_e ?qcf23_U ?qcf23_z ?_; (case qcf23_F => k_asm); (case qcf23_N => k_asm); (case qcf23_m => k_mem); (case qcf23_e => exact rfl); (case qcf23_U => k_upd); (case qcf23_z => first | omega | ((try simp only [List.length_take, List.length_drop, List.length_append, List.length_cons, List.length_nil]); omega)); (intro h' F' N'; try k_sweep)))
  k_with "assign Tuple" => (k_here; k_dflt (refine' unpackN_ ?qcf24_F ?qcf24_N ?qcf24_T ?qcf24_k4 ?qcf24_k5 ?qcf24_k6 ?_; (case qcf24_F => k_asm); (case qcf24_N => k_asm); (case qcf24_T => exact News.isTup (by k_asm) (by k_mem)); (case qcf24_k4 => exact Room.hh (by assumption)); (case qcf24_k5 => exact rfl); (case qcf24_k6 => exact rfl); (intro h' F' N'; try k_sweep)))
  k_with "call builtin:str.join" => (k_here; k_dflt (refine' join_S ?qcf25_hy ?qcf25_hl ?qcf25_hv ?qcf25_hz ?_; (case qcf25_hy => first | with_reducible exact lit_slash | with_reducible exact lit_dot | with_reducible exact lit_dd | with_reducible exact lit_empty | with_reducible exact lit_nl | with_reducible exact lit_crlf | with_reducible exact lit_cr | with_reducible exact rfl); (case qcf25_hl => exact at_news (by k_asm) (by k_mem)); (case qcf25_hv => assumption); (case qcf25_hz => first | omega | ((try simp only [List.length_take, List.length_drop, List.length_append, List.length_cons, List.length_nil]); omega)); intro t' k'))
  k_with "call builtin:bytes.join" => (k_here; k_dflt (refine' join_B ?qcf26_hy ?qcf26_hl ?qcf26_hv ?qcf26_hz ?_; (case qcf26_hy => first | with_reducible exact blit_slash | with_reducible exact blit_dot | with_reducible exact blit_dd | with_reducible exact blit_empty | with_reducible exact blit_nl | with_reducible exact rfl); (case qcf26_hl => exact at_news (by k_asm) (by k_mem)); (case qcf26_hv => assumption); (case qcf26_hz => first | omega | ((try simp only [List.length_take, List.length_drop, List.length_append, List.length_cons, List.length_nil]); omega)); intro t' k'))
  k_with "call builtin:bytes.split" => (k_here; k_dflt (refine' split_B ?qcf27_F ?qcf27_N ?qcf27_hy ?qcf27_hz ?_; (case qcf27_F => k_asm); (case qcf27_N => k_asm); (case qcf27_hy => first | with_reducible exact blit_slash | with_reducible exact blit_dot | with_reducible exact blit_dd | with_reducible exact blit_empty | with_reducible exact blit_nl | with_reducible exact rfl); (case qcf27_hz => first | omega | ((try simp only [List.length_take, List.length_drop, List.length_append, List.length_cons, List.length_nil]); omega)); (intro D vs h' k' hv F' N' l1; (try k_lt l1); try k_sweep)))
  k_with "unpackItems ref" => (k_here; k_dflt (refine' unpackItemsN_ ?qcf28_F ?qcf28_N ?qcf28_T ?qcf28_k4 ?qcf28_k5 ?_; (case qcf28_F => k_asm); (case qcf28_N => k_asm); (case qcf28_T => exact News.isTup (by k_asm) (by k_mem)); (case qcf28_k4 => exact Room.hh (by assumption)); (case qcf28_k5 => exact rfl); (intro h' F' N'; try k_sweep)))
  k_with "compareOp NotIn str ref" => (k_here; k_dflt (refine' notin_S ?qcf29_N ?qcf29_m ?qcf29_h1 ?qcf29_h2 ?_; (case qcf29_N => k_asm); (case qcf29_m => k_mem); (case qcf29_h1 => first | with_reducible exact lit_slash | with_reducible exact lit_dot | with_reducible exact lit_dd | with_reducible exact lit_empty | with_reducible exact lit_nl | with_reducible exact lit_crlf | with_reducible exact lit_cr | with_reducible exact rfl); (case qcf29_h2 => first | with_reducible exact lit_slash | with_reducible exact lit_dot | with_reducible exact lit_dd | with_reducible exact lit_empty | with_reducible exact lit_nl | with_reducible exact lit_crlf | with_reducible exact lit_cr | with_reducible exact rfl)))
  k_with "compareOp In str ref" => (k_here; k_dflt (refine' in_S ?qcf30_N ?qcf30_m ?qcf30_h1 ?qcf30_h2 ?_; (case qcf30_N => k_asm); (case qcf30_m => k_mem); (case qcf30_h1 => first | with_reducible exact lit_slash | with_reducible exact lit_dot | with_reducible exact lit_dd | with_reducible exact lit_empty | with_reducible exact lit_nl | with_reducible exact lit_crlf | with_reducible exact lit_cr | with_reducible exact rfl); (case qcf30_h2 => first | with_reducible exact lit_slash | with_reducible exact lit_dot | with_reducible exact lit_dd | with_reducible exact lit_empty | with_reducible exact lit_nl | with_reducible exact lit_crlf | with_reducible exact lit_cr | with_reducible exact rfl)))
  k_with "subscriptTail Name Slice ref ref" => (k_here; k_dflt (refine' rev_base ?qcf31_F ?qcf31_N ?qcf31_ha ?qcf31_pk ?qcf31_hz ?_; (case qcf31_F => k_asm); (case qcf31_N => k_asm); (case qcf31_ha => assumption); (case qcf31_pk => constructor); (case qcf31_hz => first | omega | ((try simp only [List.length_take, List.length_drop, List.length_append, List.length_cons, List.length_nil]); omega)); (intro D' h' F' N' l1; (try k_lt l1); try k_sweep)))
  k_with "subscriptTail Name Slice ref ref" => (k_here; k_dflt (refine' rev_L ?qcf32_F ?qcf32_N ?qcf32_ha ?qcf32_pk ?qcf32_hz ?_; (case qcf32_F => k_asm); (case qcf32_N => k_asm); (case qcf32_ha => k_mem); (case qcf32_pk => constructor); (case qcf32_hz => first | omega | ((try simp only [List.length_take, List.length_drop, List.length_append, List.length_cons, List.length_nil]); omega)); (intro D' h' F' N' l1; (try k_lt l1); try k_sweep)))
  k_with "subscriptTail Call Slice ref ref" => (k_here; k_dflt (refine' rev_L ?qcf33_F ?qcf33_N ?qcf33_ha ?qcf33_pk ?qcf33_hz ?_; (case qcf33_F => k_asm); (case qcf33_N => k_asm); (case qcf33_ha => k_mem); (case qcf33_pk => constructor); (case qcf33_hz => first | omega | ((try simp only [List.length_take, List.length_drop, List.length_append, List.length_cons, List.length_nil]); omega)); (intro D' h' F' N' l1; (try k_lt l1); try k_sweep)))
  k_with "binaryOp Add ref ref" => (k_here; k_dflt (refine' add_L ?qcf34_F ?qcf34_N ?qcf34_a ?qcf34_b ?qcf34_hz ?_; (case qcf34_F => k_asm); (case qcf34_N => k_asm); (case qcf34_a => k_mem); (case qcf34_b => k_mem); (case qcf34_hz => first | omega | ((try simp only [List.length_take, List.length_drop, List.length_append, List.length_cons, List.length_nil, List.length_replicate]); omega)); (intro D' h' F' N' l1; (try k_lt l1); try k_sweep)))
  k_with "binaryOp Add str str" => (k_here; k_dflt (refine' add_S ?qcf35_hx ?qcf35_hy ?qcf35_hz ?_; (case qcf35_hx => first | with_reducible exact lit_ss | with_reducible exact lit_slash | with_reducible exact lit_dot | with_reducible exact lit_dd | with_reducible exact lit_empty | with_reducible exact lit_nl | with_reducible exact lit_crlf | with_reducible exact lit_cr | with_reducible exact rfl); (case qcf35_hy => first | with_reducible exact lit_ss | with_reducible exact lit_slash | with_reducible exact lit_dot | with_reducible exact lit_dd | with_reducible exact lit_empty | with_reducible exact lit_nl | with_reducible exact lit_crlf | with_reducible exact lit_cr | with_reducible exact rfl); (case qcf35_hz => first | omega | ((try simp only [List.length_take, List.length_drop, List.length_append, List.length_cons, List.length_nil, List.length_replicate]); omega)); intro t' k'))
  k_with "compareOp NotEq str str" => (k_here; k_dflt (refine' ne_S ?qcf36_hx ?qcf36_hy ?_; (case qcf36_hx => first | with_reducible exact lit_ss | with_reducible exact lit_slash | with_reducible exact lit_dot | with_reducible exact lit_dd | with_reducible exact lit_empty | with_reducible exact lit_nl | with_reducible exact lit_crlf | with_reducible exact lit_cr | with_reducible exact rfl); (case qcf36_hy => first | with_reducible exact lit_ss | with_reducible exact lit_slash | with_reducible exact lit_dot | with_reducible exact lit_dd | with_reducible exact lit_empty | with_reducible exact lit_nl | with_reducible exact lit_crlf | with_reducible exact lit_cr | with_reducible exact rfl)))
  k_with "call builtin:str.split" => (k_here; k_dflt (refine' split_S ?qcf37_F ?qcf37_N ?qcf37_hy ?qcf37_hs ?qcf37_hk ?qcf37_hz ?qcf37_hl ?qcf37_hne ?qcf37_hf ?_; (case qcf37_F => k_asm); (case qcf37_N => k_asm); (case qcf37_hy => exact lit_slash); (case qcf37_hs => exact rfl); (case qcf37_hk => decide); (case qcf37_hz => first | omega | ((try simp only [List.length_take, List.length_drop, List.length_append, List.length_cons, List.length_nil]); omega)); (case qcf37_hl => exact (joinL_cutL 47 _).symm); (case qcf37_hne => exact cutL_ne 47 _); (case qcf37_hf => exact cutL_free 47 _); (intro D vs h' k' hv F' N' l1; (have hvl := All2.length hv); (try k_lt l1); try k_sweep)))
  k_with "call builtin:len" => (k_here; k_dflt (refine' lenS ?qcf38_hz ?_; (case qcf38_hz => first | omega | ((try simp only [List.length_take, List.length_drop, List.length_append, List.length_cons, List.length_nil]); omega)); intro u' k'))
  k_with "subscriptTail Name Slice str ref" => (k_here; k_dflt (refine' slice_S (s := ⟨_, _, _, _, _⟩) ?qcf39_F ?qcf39_N ?qcf39_hl ?qcf39_hu ?qcf39_hz ?qcf39_e ?_; (case qcf39_F => k_asm); (case qcf39_N => k_asm); (case qcf39_hl => constructor); (case qcf39_hu => constructor); (case qcf39_hz => first | omega | ((try simp only [List.length_take, List.length_drop, List.length_append, List.length_cons, List.length_nil]); omega)); (case qcf39_e => exact cut_lead _ 47 rfl); (intro h' t' k' F' N'; try k_sweep)))
  k_with "binaryOp Mult ref int" => (k_here; k_dflt (refine' rep_L ?qcf40_F ?qcf40_N ?qcf40_a ?qcf40_i ?qcf40_z ?_; (case qcf40_F => k_asm); (case qcf40_N => k_asm); (case qcf40_a => k_mem); (case qcf40_i => first | exact (rfl : (0 : Int) = ((0 : Nat) : Int)) | exact rfl); (case qcf40_z => first | omega | ((try simp only [List.length_take, List.length_drop, List.length_append, List.length_cons, List.length_nil]); omega)); (intro D' h' F' N' l1; (try k_lt l1); try k_sweep)))
  k_with "call builtin:str.join" => (k_here; k_dflt (refine' join_S ?qcf41_hy ?qcf41_hl ?qcf41_hv ?qcf41_hz ?_; (case qcf41_hy => first | with_reducible exact lit_slash | with_reducible exact lit_dot | with_reducible exact lit_dd | with_reducible exact lit_empty | with_reducible exact lit_nl | with_reducible exact lit_crlf | with_reducible exact lit_cr | with_reducible exact rfl); (case qcf41_hl => exact at_news (by k_asm) (by k_mem)); (case qcf41_hv => exact All2.append (All2.rep (item_dd _) _) (by assumption)); (case qcf41_hz => (rw [jn_size]; omega)); intro t' k'))
  k_with "call builtin:str.lstrip" => (k_here; k_dflt (refine' lstrip_S ?qcf42_hy ?qcf42_hz ?_; (case qcf42_hy => exact lit_slash); (case qcf42_hz => first | omega | ((try simp only [List.length_take, List.length_drop, List.length_append, List.length_cons, List.length_nil]); omega)); intro t' k'))
  k_fill
  exact ⟨rfl, rfl⟩
section
variable (w : World) (mean : ExcName → Option Value) (mg mb : Str → Option Value)
set_option maxRecDepth 100000
set_option maxHeartbeats 8000000
theorem place_spec (l : List Nat) (t : Tok) (Rw : Addr) (vs : List Value) (cs : List (List Nat)) (n : Nat) (hv : All2 SItem vs cs) (hz : l.length + (cs.map (·.length)).sum + cs.length ≤ 100) : Spec w mean mg mb 201 [.str ⟨l.toArray⟩ t, .ref Rw] 1 12 (fun h => h.get? Rw = some (lstObj vs n)) (fun _ _ v => ∃ t', v = mkS (placeL l cs) t') := by
  refine' spec_of [(Str.ofString "root", .str ⟨l.toArray⟩ t), (Str.ofString "rows", .ref Rw)] ?ho ?hcd ?hbind ?hloc ?c1 ?c2 ?c3 ?c4 ?_
  case ho => k_is
  case hcd => k_is
  case hbind => exact rfl
  case c1 => decide
  case hloc => exact rfl
  case c2 => exact rfl
  case c3 => exact rfl
  case c4 => exact rfl
  intro A h₀ L s hR X T hp F N
  (try dsimp only); (try k_fold)
  have hvl := hv.length
  (try dsimp only at hp)
  repeat' (goal_lacks LoopAtV; first | (k_unfold; (try dsimp only)) | (k_end; wrow_close) | walk1 | (dsimp only; walk1) | (leave1; try dsimp only))
  repeat walk1
  (with_reducible rename News _ _ _ _ => N)
  (with_reducible rename Fr _ _ _ _ => F)
  refine' iter_two (Str.ofString "steps") (Str.ofString "names") (Str.ofString "piece") (fun pre v _ ys => (∀ r ∈ pre, ¬ r.take 1 = [47]) ∧ (∃ t', v = .int ((pre.foldl prow (0, [])).1 : Nat) t') ∧ All2 SItem ys (pre.foldl prow (0, [])).2) hR.hh hv.reverse F (Mine.News.dup N ?xm) ?x1 ?x2 ?xl ?xr ?turn ?done
  case x1 => exact rfl
  case x2 => exact rfl
  case xm => k_mem
  case xl => k_mem
  case xr => exact ⟨(fun _ h => nomatch h), ⟨_, rfl⟩, .nil⟩
  case turn =>
    intro pre c post v u a ys k I it h tk w0 hcs hvc hai hlr hst F N
    (k_lt hlr)
    obtain ⟨tc, rfl⟩ := hvc
    obtain ⟨hfree, ⟨tu, rfl⟩, hys⟩ := hst
    have hz1 := prows_size pre (0, [])
    have hlen := congrArg (fun x => (x.map (·.length)).sum + x.length) hcs
    simp only [List.map_append, List.map_cons, List.sum_append, List.sum_cons, List.length_append, List.length_cons, List.map_reverse, List.sum_reverse, List.length_reverse] at hlen
    have hcut := cutL_length_sum 47 c
    generalize hst : pre.foldl prow (0, []) = st at *
    (try dsimp only); (try k_fold)
    repeat' (goal_lacks LoopAtV; first | (k_unfold; (try dsimp only)) | (k_end; wrow_close) | walk1 | (dsimp only; walk1) | (leave1; try dsimp only))
    repeat walk1
    (with_reducible rename News _ _ _ _ => N)
    (with_reducible rename Fr _ _ _ _ => F)
    (with_reducible rename All2 _ _ (cutL _ _) => hvp)
    refine' iter_two (Str.ofString "steps") (Str.ofString "names") (Str.ofString "piece") (fun pre v b ys => b ≠ I ∧ (∃ t', v = .int ((pre.foldl pstep st).1 : Nat) t') ∧ All2 SItem ys (pre.foldl pstep st).2) hR.hh hvp.reverse F (Mine.News.dup N ?ym) ?y1 ?y2 ?yl ?yr ?turni ?donei
    case y1 => exact rfl
    case y2 => exact rfl
    case ym => (show (a, lstObj ys k) ∈ _); k_mem
    case yl => k_mem
    case yr => exact ⟨hai, ⟨_, rfl⟩, hys⟩
    case turni =>
      clear hys N F
      intro ipre d ipost v u a' ys' k' I' it' h' tk' w1 hds hvd hai' hlr' hsti F N
      (k_lt hlr')
      obtain ⟨td, rfl⟩ := hvd
      obtain ⟨haI, ⟨tu', rfl⟩, hys⟩ := hsti
      have hz2 := pfold_size ipre st
      have hlen2 := congrArg (fun x => (x.map (·.length)).sum + x.length) hds
      simp only [List.map_append, List.map_cons, List.sum_append, List.sum_cons, List.length_append, List.length_cons, List.map_reverse, List.sum_reverse, List.length_reverse] at hlen2
      generalize hsti : ipre.foldl pstep st = sti at *
      have hyl := hys.length
      have hps := psize_two sti
      rw [psize_zero] at hz1
      (try dsimp only); (try k_fold)
      repeat' (goal_lacks LoopAtV; first | (k_unfold; (try dsimp only)) | (k_end; wrow_close) | walk1 | (dsimp only; walk1) | (leave1; try dsimp only))
      all_goals walk_at "own two_end"
      all_goals refine And.intro (by first | assumption | k_ne) ?_
      all_goals walk_at "own drop_all"
      all_goals (first | (refine pturn (pstep_dd ?_) hsti ?_ ?_ <;> first | (assumption; done) | ((try dsimp only); omega; done)) | (refine pturn (pstep_skip ?_ ?_) hsti ?_ ?_ <;> first | (assumption; done) | exact Classical.not_not.mp (by assumption) | (exact rfl)) | (refine pturn (pstep_eat ?_ ?_ ?_) hsti ?_ ?_ <;> first | (assumption; done) | ((try dsimp only); omega; done) | (simp_all; done)) | (refine pturn (pstep_name ?_ ?_ ?_) hsti ?_ ?_ <;> first | (assumption; done) | ((try dsimp only); omega; done) | exact .cons ⟨_, rfl⟩ hys | (simp_all; done)) | trace_state)
    case donei =>
      clear hys N F
      intro u a' ys' k' u' w1 h' tk' hsti F N
      obtain ⟨haI, ⟨tu', rfl⟩, hys⟩ := hsti
      have hz2 := prow_size st c
      generalize hst' : (cutL 47 c).reverse.foldl pstep st = st' at *
      have hst2 : prow st c = st' := hst'
      rw [hst2] at hz2
      have hyl := hys.length
      have hps := psize_two st'
      have hpd : psize st' = st'.1 + (st'.2.map (·.length)).sum + st'.2.length := rfl
      have hj0 := joinL_length [47] (List.replicate 0 [46, 46] ++ st'.2)
      have hj1 := joinL_length [47] (List.replicate st'.1 [46, 46] ++ st'.2)
      have hj2 := joinL_length [47] st'.2
      rw [jn_size] at hj0 hj1
      simp only [List.length_cons, List.length_nil] at hj2
      have hdw := drop_len c (· == 47)
      rw [psize_zero] at hz1
      (try dsimp only); (try k_fold)
      repeat' (goal_lacks LoopAtV; first | (k_unfold; (try dsimp only)) | (k_end; wrow_close) | walk1 | (dsimp only; walk1) | (leave1; try dsimp only))
      all_goals (try ((try dsimp only); k_unfold))
      rotate_right
      · walk_at "own two_end"
        walk_at "own drop_all"
        refine ⟨fun r hr => ?_, pturn hst2 hst rfl hys⟩
        rcases List.mem_append.mp hr with hr | hr
        · exact hfree r hr
        · rw [List.mem_singleton.mp hr]; assumption
      all_goals (with_reducible refine TurnT.brk ?_)
      all_goals (try dsimp only)
      all_goals k_steps
      all_goals (refine Back.S (by assumption) ?_)
      all_goals walk_at "own drop_all"
      all_goals (first | exact strE (place_slash_end hcs hfree hst hst2 (by assumption) (leadL_two (by assumption)) (by decide)) | exact strE (place_slash_end hcs hfree hst hst2 (by assumption) (leadL_one (by assumption)) (by decide)) | (exfalso; simp_all; done) | trace_state)
  case done =>
    intro u a ys k u' w0 h tk hst F N
    obtain ⟨hfree, ⟨tu, rfl⟩, hys⟩ := hst
    have hz1 := prows_size cs.reverse (0, [])
    rw [List.map_reverse, List.sum_reverse, List.length_reverse, psize_zero] at hz1
    generalize hst : cs.reverse.foldl prow (0, []) = st at *
    have hpd : psize st = st.1 + (st.2.map (·.length)).sum + st.2.length := rfl
    have hj0 := joinL_length [47] (List.replicate 0 [46, 46] ++ st.2)
    have hj1 := joinL_length [47] (List.replicate st.1 [46, 46] ++ st.2)
    have hj2 := joinL_length [47] st.2
    rw [jn_size] at hj0 hj1
    simp only [List.length_cons, List.length_nil] at hj2
    have hyl := hys.length
    (try dsimp only); (try k_fold)
    k_steps
    all_goals (refine Back.S (by assumption) ?_)
    all_goals walk_at "own drop_all"
    all_goals (first | exact strE (place_root_end hfree hst (by assumption)) | exact strE (place_bare_end hfree hst (by assumption) (by assumption)) | exact lit_dot.trans (strE (place_dot_end hfree hst (by assumption) (by assumption))) | (exfalso; simp_all; done) | trace_state)
end
end Mine
end
section
namespace Mine
/-- a row as it was sent -/
def drow (k : Nat) (row : List Nat) : List Nat := if row.take 1 = [46] then List.replicate k 46 ++ row else row
def tstep (tail : List (List Nat)) (row : List Nat) : List (List Nat) := if row.take 1 = [47] then [row] else tail ++ [row]
def sentL (k : Nat) (rows : List (List Nat)) : List (List Nat) := rows.map (drow k)
def duesL (root : List Nat) (k : Nat) (rows : List (List Nat)) : List (List Nat) := rows.foldl (fun st row => (st.1 ++ [drow k row], st.2 ++ [placeL root (st.1 ++ [drow k row])])) (([], []) : List (List Nat) × List (List Nat)) |>.2
def dstep (root : List Nat) (k : Nat) (st : List (List Nat) × List (List Nat) × List (List Nat)) (row : List Nat) : List (List Nat) × List (List Nat) × List (List Nat) :=
  (st.1 ++ [placeL root (st.2.1 ++ [drow k row])], st.2.1 ++ [drow k row], tstep st.2.2 (drow k row))
def slashed (row : List Nat) : List Nat := if row.drop (row.length - 1) = [] ∨ row.drop (row.length - 1) = [47] then row else row ++ [47]
def wholeL (tail : List (List Nat)) : List Nat := joinL [] (tail.dropLast.map slashed) ++ tail.getLast?.getD []
def dueEnd (st : List (List Nat) × List (List Nat) × List (List Nat)) : List (List Nat) := st.1 ++ [st.1.getLast?.getD [], wholeL st.2.2]
def dueL (root : List Nat) (rows : List (List Nat)) (k : Nat) : List (List Nat) := dueEnd (rows.foldl (dstep root k) ([], [], [root]))
theorem drow_length (k : Nat) (row : List Nat) : (drow k row).length ≤ row.length + k := by
  unfold drow
  split
  · rw [List.length_append, List.length_replicate]; omega
  · omega
theorem drow_dot {k : Nat} {row : List Nat} (h : row.take 1 = [46]) : drow k row = List.replicate k 46 ++ row := if_pos h
theorem drow_no {k : Nat} {row : List Nat} (h : ¬ row.take 1 = [46]) : drow k row = row := if_neg h
theorem tstep_new {tail : List (List Nat)} {row : List Nat} (h : row.take 1 = [47]) : tstep tail row = [row] := if_pos h
theorem tstep_on {tail : List (List Nat)} {row : List Nat} (h : ¬ row.take 1 = [47]) : tstep tail row = tail ++ [row] := if_neg h
theorem slashed_length (row : List Nat) : (slashed row).length ≤ row.length + 1 := by
  unfold slashed
  split
  · omega
  · simp
/-- the sizes of the three lists -/
theorem dfold_facts (root : List Nat) (k : Nat) : ∀ (rows : List (List Nat)) (st : List (List Nat) × List (List Nat) × List (List Nat)),
    (rows.foldl (dstep root k) st).1.length = st.1.length + rows.length ∧ (rows.foldl (dstep root k) st).2.1.length = st.2.1.length + rows.length ∧
    ((rows.foldl (dstep root k) st).2.1.map (·.length)).sum ≤ (st.2.1.map (·.length)).sum + (rows.map (·.length)).sum + k * rows.length ∧
    ((rows.foldl (dstep root k) st).2.2.map (·.length)).sum + (rows.foldl (dstep root k) st).2.2.length ≤ (st.2.2.map (·.length)).sum + st.2.2.length + (rows.map (·.length)).sum + (k + 1) * rows.length ∧
    (st.2.2 ≠ [] → (rows.foldl (dstep root k) st).2.2 ≠ [])
  | [], st => by simp
  | r :: rows, st => by
    obtain ⟨h1, h2, h3, h4, h5⟩ := dfold_facts root k rows (dstep root k st r)
    have hd := drow_length k r
    show ((rows.foldl (dstep root k) (dstep root k st r)).1.length = _) ∧ _
    have e1 : (dstep root k st r).1.length = st.1.length + 1 := by simp [dstep]
    have e2 : (dstep root k st r).2.1.length = st.2.1.length + 1 := by simp [dstep]
    have e3 : ((dstep root k st r).2.1.map (·.length)).sum = (st.2.1.map (·.length)).sum + (drow k r).length := by simp [dstep]
    have e4 : ((dstep root k st r).2.2.map (·.length)).sum + (dstep root k st r).2.2.length ≤ (st.2.2.map (·.length)).sum + st.2.2.length + (drow k r).length + 1 := by
      unfold dstep tstep
      split
      · simp <;> omega
      · simp <;> omega
    have e5 : (dstep root k st r).2.2 ≠ [] := by
      unfold dstep tstep
      split <;> simp
    rw [List.map_cons, List.sum_cons, List.length_cons, Nat.mul_succ, Nat.mul_succ]
    refine ⟨by show (List.foldl (dstep root k) (dstep root k st r) rows).1.length = _; omega, by show (List.foldl (dstep root k) (dstep root k st r) rows).2.1.length = _; omega, ?_, ?_, fun _ => h5 e5⟩
    · show ((rows.foldl (dstep root k) (dstep root k st r)).2.1.map (·.length)).sum ≤ _
      omega
    · show ((rows.foldl (dstep root k) (dstep root k st r)).2.2.map (·.length)).sum + (rows.foldl (dstep root k) (dstep root k st r)).2.2.length ≤ _
      omega
end Mine
namespace Mine
/-- the same, for at most two dots more -/
theorem dfold_two (root : List Nat) {k : Nat} (hk : k ≤ 2) (rows : List (List Nat)) {st : List (List Nat) × List (List Nat) × List (List Nat)} (h : rows.foldl (dstep root k) ([], [], [root]) = st) :
    st.1.length = rows.length ∧ st.2.1.length = rows.length ∧ (st.2.1.map (·.length)).sum ≤ (rows.map (·.length)).sum + 2 * rows.length ∧ (st.2.2.map (·.length)).sum + st.2.2.length ≤ root.length + 1 + (rows.map (·.length)).sum + 3 * rows.length ∧ st.2.2 ≠ [] := by
  obtain ⟨h1, h2, h3, h4, h5⟩ := dfold_facts root k rows ([], [], [root])
  have e := Nat.mul_le_mul_right rows.length hk
  have e2 := Nat.mul_le_mul_right rows.length (Nat.succ_le_succ hk)
  rw [h] at h1 h2 h3 h4 h5
  refine ⟨by simpa using h1, by simpa using h2, ?_, ?_, h5 (by simp)⟩
  · simp only [List.map_nil, List.sum_nil, Nat.zero_add] at h3; omega
  · simp only [List.map_cons, List.map_nil, List.sum_cons, List.sum_nil, List.length_cons, List.length_nil] at h4
    have : (k + 1) * rows.length ≤ 3 * rows.length := e2
    omega
theorem dfold_snoc (root : List Nat) (k : Nat) {pre : List (List Nat)} {c : List Nat} {st : List (List Nat) × List (List Nat) × List (List Nat)} (h : pre.foldl (dstep root k) ([], [], [root]) = st) : (pre ++ [c]).foldl (dstep root k) ([], [], [root]) = dstep root k st c := by
  rw [List.foldl_append, h]; rfl
end Mine
namespace Mine
theorem slashed_keep {c : List Nat} (h : c.drop (c.length - 1) = [] ∨ c.drop (c.length - 1) = [47]) : slashed c = c := if_pos h
theorem slashed_add {c : List Nat} (h : ¬ (c.drop (c.length - 1) = [] ∨ c.drop (c.length - 1) = [47])) : slashed c = c ++ [47] := if_neg h
theorem slashed_sum : ∀ l : List (List Nat), ((l.map slashed).map (·.length)).sum ≤ (l.map (·.length)).sum + l.length
  | [] => by simp
  | c :: l => by
    have h1 := slashed_sum l
    have h2 := slashed_length c
    simp only [List.map_cons, List.sum_cons, List.length_cons]
    omega
theorem dueEnd_eq {st : List (List Nat) × List (List Nat) × List (List Nat)} {d tl : List (List Nat)} {x c : List Nat} (e1 : st.1 = d ++ [x]) (e3 : st.2.2 = tl ++ [c]) : dueEnd st = (d ++ [x]) ++ [x, joinL [] ((tl ++ [c]).dropLast.map slashed) ++ c] := by
  unfold dueEnd wholeL
  rw [e1, e3]
  simp
end Mine
end
section
open PySem PySem.W PyProof.Rows PySem.Calls PyProof.V
namespace Mine
set_option maxRecDepth 100000
theorem InElt.push {g h : Heap} (e : InElt g h) (o : Obj) : InElt g (h.push o) := fun b x hb => Heap.get?_push_of_some _ (e b x hb)
section
variable {prog : Program} {w : World} {A : Around} {E : Value → Shared → Prop} {s : Shared} {g h₀ : Heap} {L : Addr} {m : PySem.Str → Option Value} {news : List (Addr × Obj)} {value slice : PySem.Expr} {t : Tok} {Q : Value → Shared → Prop}
theorem slice_E {l : List Nat} {ui : Tok} (hF : Fr h₀ L s.heap m) (hN : News h₀ L s.heap news) (hE : InElt g s.heap) (hz : l.length ≤ 10000000)
    (h : ∀ h' t' k, Fr h₀ L h' m → News h₀ L h' news → InElt g h' → Q (.str ⟨(l.drop (l.length - 1)).toArray⟩ t') { s with heap := h', toks := k })
    (hs : subscripted slice false (.str ⟨l.toArray⟩ t) (.ref s.heap.objs.size) = operate [.ref s.heap.objs.size, .str ⟨l.toArray⟩ t] (getItem (.str ⟨l.toArray⟩ t) (.ref s.heap.objs.size)) := by with_unfolding_all rfl)
    (ht : ∀ r, letTemporaryGo value (.str ⟨l.toArray⟩ t) r = pure () := by intro _; with_unfolding_all rfl) :
    wpAny (model prog w) A (subscriptTail value slice (.str ⟨l.toArray⟩ t) (.ref s.heap.objs.size)) Q E { s with heap := s.heap.push { cls := .type "slice", data := .fields #[.int (-1) ui, .none, .none] } } := by
  have hsz : (⟨l.toArray⟩ : PySem.Str).length ≤ sizeLine := by rw [sizeLine_eq]; show l.toArray.size ≤ _; rw [List.size_toArray]; omega
  refine tail_of_ItemOn (SBH.sliceItem_sn (P := fun h => Fr h₀ L h m ∧ News h₀ L h news ∧ InElt g h) (fun h ob p => ⟨p.1.push _, (keptFrN h ob ⟨p.1, p.2.1⟩).2, Mine.InElt.push p.2.2 _⟩) ⟨hF, hN, hE⟩ (fun h' t' k a => ?_) hsz) hs ht
  rw [txt_slice, cut_last]
  exact h h' t' k a.1 a.2.1 a.2.2
theorem newList_E {items : List Value} (hF : Fr h₀ L s.heap m) (hN : News h₀ L s.heap news) (hE : InElt g s.heap) (hz : items.length ≤ 1000)
    (h : ∀ D h', Fr h₀ L h' m → News h₀ L h' ((D, listOf items.toArray 0) :: news) → InElt g h' → Q (.ref D) { s with heap := h' }) : wpAny (model prog w) A (newList items) Q E s := by
  refine wpAny_newList (h _ _ (hF.push _) (fun p hp => ?_) (Mine.InElt.push hE _)) (by rw [sizeLine_eq]; omega)
  rcases List.mem_cons.mp hp with rfl | hp
  · exact ⟨Heap.get?_push_size _ rfl, Nat.ne_of_gt hF.ns.lt, next_is_new hF⟩
  · exact ⟨Heap.get?_push_of_some _ (hN p hp).1, (hN p hp).2⟩
end
section
variable {prog : Program} {w : World} {A : Around} {E : Value → Shared → Prop} {s : Shared} {env : Env} {h₀ : Heap} {x : PySem.Str} {body : List Stmt} {Q : Flow → Shared → Prop}
/-- where a turn comes to that changes two lists in their place, and a letter with a list -/
def TurnD (h₀ : Heap) (L : Addr) (x z : PySem.Str) (I a1 a2 : Addr) (it : Obj) (rest : List (Addr × Obj)) (m₀ : PySem.Str → Option Value) (R : List Value → List Value → List Value → Prop) (s₁ : Shared) (Q : Flow → Shared → Prop) (f : Flow) (s₂ : Shared) : Prop :=
  match f with
  | .ret v => Q (.ret v) s₂
  | .brk => Q .next s₂
  | _ => ∃ h' tk m' ds kd ss ks a ts kt n₂, s₂ = { s₁ with heap := h', toks := tk } ∧ Fr h₀ L h' m' ∧ News h₀ L h' n₂ ∧ (I, it) ∈ n₂ ∧ (a1, lstObj ds kd) ∈ n₂ ∧ (a2, lstObj ss ks) ∈ n₂ ∧ (a, lstObj ts kt) ∈ n₂ ∧ (∀ p ∈ rest, p ∈ n₂) ∧ a ≠ I ∧ a ≠ a1 ∧ a ≠ a2 ∧ R ds ss ts ∧ m' z = some (.ref a) ∧ ∀ y, y ≠ x → y ≠ z → m' y = m₀ y
theorem TurnD.next {L : Addr} {z : PySem.Str} {I a a1 a2 : Addr} {it : Obj} {rest n₂ : List (Addr × Obj)} {m₀ m' : PySem.Str → Option Value} {R : List Value → List Value → List Value → Prop} {s₁ : Shared} {h' : Heap} {tk kd ks kt : Nat} {ds ss ts : List Value}
    (F : Fr h₀ L h' m') (N : News h₀ L h' n₂) (hz : m' z = some (.ref a)) (hi : (I, it) ∈ n₂) (h1 : (a1, lstObj ds kd) ∈ n₂) (h2 : (a2, lstObj ss ks) ∈ n₂) (h3 : (a, lstObj ts kt) ∈ n₂) (hs : ∀ p ∈ rest, p ∈ n₂) (q1 : a ≠ I) (q2 : a ≠ a1) (q3 : a ≠ a2) (hm : ∀ y, y ≠ x → y ≠ z → m' y = m₀ y) (hr : R ds ss ts) :
    TurnD h₀ L x z I a1 a2 it rest m₀ R s₁ Q .next { s₁ with heap := h', toks := tk } :=
  ⟨h', tk, m', ds, kd, ss, ks, a, ts, kt, n₂, rfl, F, N, hi, h1, h2, h3, hs, q1, q2, q3, hr, hz, hm⟩
theorem iter_three {γ : Type} {Item : Value → γ → Prop} {l a₀ a1 a2 : Addr} {vs ds₀ ss₀ ts₀ : List Value} {cs : List γ} {n k1 k2 k3 : Nat} {rest : List (Addr × Obj)} {m₀ : PySem.Str → Option Value} (z : PySem.Str) (R : List γ → List Value → List Value → List Value → Prop)
    (hh : A.handled = none) (hv : All2 Item vs cs) (F : Fr h₀ env.locals s.heap m₀) (N : News h₀ env.locals s.heap ((a1, lstObj ds₀ k1) :: (a2, lstObj ss₀ k2) :: (a₀, lstObj ts₀ k3) :: rest)) (hz : m₀ z = some (.ref a₀)) (hl : h₀.get? l = some (lstObj vs n)) (q1 : a₀ ≠ a1) (q2 : a₀ ≠ a2) (hr : R [] ds₀ ss₀ ts₀)
    (turn : ∀ pre c post v ds kd ss ks a ts kt I it h tk, cs = pre ++ c :: post → Item v c → a1 < I → a2 < I → a ≠ I → a ≠ a1 → a ≠ a2 → (∀ p ∈ rest, p.1 < I) → R pre ds ss ts → Fr h₀ env.locals h (fun y => if y = x then some v else if y = z then some (.ref a) else m₀ y) → News h₀ env.locals h ((I, it) :: (a1, lstObj ds kd) :: (a2, lstObj ss ks) :: (a, lstObj ts kt) :: rest) →
      wpAny (model prog w) A (execs body env) (TurnD h₀ env.locals x z I a1 a2 it rest m₀ (R (pre ++ [c])) { s with heap := h, toks := tk } Q) E { s with heap := h, toks := tk })
    (done : ∀ ds kd ss ks a ts kt (u : Option Value) h tk, a ≠ a1 → a ≠ a2 → R cs ds ss ts → Fr h₀ env.locals h (fun y => if y = x then u else if y = z then some (.ref a) else m₀ y) → News h₀ env.locals h ((a1, lstObj ds kd) :: (a2, lstObj ss ks) :: (a, lstObj ts kt) :: rest) → Q .next { s with heap := h, toks := tk }) :
    wpAny (model prog w) A (pyIter (.ref l)) (fun it s₂ => LoopAtV prog w A h₀ env x body Q E it s₂) E s := by
  let Sg := (List Value × Nat) × (List Value × Nat) × (Addr × List Value × Nat)
  let Mp : Sg → PySem.Str → Option Value := fun σ y => if y = z then some (.ref σ.2.2.1) else m₀ y
  let Ld : Sg → List (Addr × Obj) := fun σ => (a1, lstObj σ.1.1 σ.1.2) :: (a2, lstObj σ.2.1.1 σ.2.1.2) :: (σ.2.2.1, lstObj σ.2.2.2.1 σ.2.2.2.2) :: rest
  have mp0 : ∀ {m' : PySem.Str → Option Value} {a : Addr} {P : PySem.Str → Prop}, m' z = some (.ref a) → (∀ y, P y → y ≠ z → m' y = m₀ y) → ∀ d e f y, P y → m' y = Mp (d, e, a, f) y := by
    intro m' a P e1 e2 d e f y hy
    show m' y = if y = z then some (.ref a) else m₀ y
    by_cases q : y = z
    · rw [if_pos q, q, e1]
    · rw [if_neg q, e2 y hy q]
  have F0 : Fr h₀ env.locals s.heap (Mp ((ds₀, k1), (ss₀, k2), (a₀, ts₀, k3))) := by
    have e : m₀ = Mp ((ds₀, k1), (ss₀, k2), (a₀, ts₀, k3)) := funext fun y => mp0 (P := fun _ => True) hz (fun _ _ _ => rfl) _ _ _ y trivial
    rw [← e]; exact F
  refine iter_P (σ := Sg) (fun pre σ => R pre σ.1.1 σ.2.1.1 σ.2.2.2.1 ∧ σ.2.2.1 ≠ a1 ∧ σ.2.2.1 ≠ a2) Mp Ld ((ds₀, k1), (ss₀, k2), (a₀, ts₀, k3)) hh hv (F.keep _ _ hl) F0 N ⟨hr, q1, q2⟩ (fun pre σ m h _ F _ => F.keep _ _ hl) ?_ ?_
  · intro pre c post v σ I it h tk e hi hlt hR F' N' hne
    refine wpAny_mono (turn pre c post v σ.1.1 σ.1.2 σ.2.1.1 σ.2.1.2 σ.2.2.1 σ.2.2.2.1 σ.2.2.2.2 I it h tk e hi (hlt (a1, lstObj ds₀ k1) (.head _)) (hlt (a2, lstObj ss₀ k2) (.tail _ (.head _))) (hne (σ.2.2.1, lstObj σ.2.2.2.1 σ.2.2.2.2) (.tail _ (.tail _ (.head _)))) hR.2.1 hR.2.2 (fun p hp => hlt p (.tail _ (.tail _ (.tail _ hp)))) hR.1 F' N') (fun f s₂ q => ?_) fun _ _ e => e
    have fin : (∃ h' tk' m' ds kd ss ks a ts kt n₂, s₂ = { ({ s with heap := h, toks := tk } : Shared) with heap := h', toks := tk' } ∧ Fr h₀ env.locals h' m' ∧ News h₀ env.locals h' n₂ ∧ (I, it) ∈ n₂ ∧ (a1, lstObj ds kd) ∈ n₂ ∧ (a2, lstObj ss ks) ∈ n₂ ∧ (a, lstObj ts kt) ∈ n₂ ∧ (∀ p ∈ rest, p ∈ n₂) ∧ a ≠ I ∧ a ≠ a1 ∧ a ≠ a2 ∧ R (pre ++ [c]) ds ss ts ∧ m' z = some (.ref a) ∧ ∀ y, y ≠ x → y ≠ z → m' y = m₀ y) →
        ∃ h' tk' m' n₂ σ', s₂ = { ({ s with heap := h, toks := tk } : Shared) with heap := h', toks := tk' } ∧ Fr h₀ env.locals h' m' ∧ News h₀ env.locals h' n₂ ∧ (∀ p ∈ (I, it) :: Ld σ', p ∈ n₂) ∧ (∀ p ∈ Ld σ', p.1 ≠ I) ∧ (fun (σ : Sg) => R (pre ++ [c]) σ.1.1 σ.2.1.1 σ.2.2.2.1 ∧ σ.2.2.1 ≠ a1 ∧ σ.2.2.1 ≠ a2) σ' ∧ ∀ y, y ≠ x → m' y = Mp σ' y := by
      rintro ⟨h', tk', m', ds, kd, ss, ks, a, ts, kt, n₂, rfl, F2, N2, p1, p2, p3, p4, p5, p6, p7, p8, p9, p10, p11⟩
      refine ⟨h', tk', m', n₂, ((ds, kd), (ss, ks), (a, ts, kt)), rfl, F2, N2, ?_, ?_, ⟨p9, p7, p8⟩, mp0 (P := fun y => y ≠ x) p10 p11 _ _ _⟩
      · intro p hp
        rcases List.mem_cons.mp hp with rfl | hp
        · exact p1
        · rcases List.mem_cons.mp hp with rfl | hp
          · exact p2
          · rcases List.mem_cons.mp hp with rfl | hp
            · exact p3
            · rcases List.mem_cons.mp hp with rfl | hp
              · exact p4
              · exact p5 p hp
      · intro p hp
        rcases List.mem_cons.mp hp with rfl | hp
        · exact Nat.ne_of_lt (hlt (a1, lstObj ds₀ k1) (.head _))
        · rcases List.mem_cons.mp hp with rfl | hp
          · exact Nat.ne_of_lt (hlt (a2, lstObj ss₀ k2) (.tail _ (.head _)))
          · rcases List.mem_cons.mp hp with rfl | hp
            · exact p6
            · exact Nat.ne_of_lt (hlt p (.tail _ (.tail _ (.tail _ hp))))
    cases f with
    | ret v => exact q
    | brk => exact q
    | next => exact fin q
    | cont => exact fin q
  · intro σ u h tk hR F' N'
    exact done σ.1.1 σ.1.2 σ.2.1.1 σ.2.1.2 σ.2.2.1 σ.2.2.2.1 σ.2.2.2.2 u h tk hR.2.1 hR.2.2 hR.1 F' N'
end
end Mine
namespace Mine
theorem News.rev4 {h₀ h : Heap} {L : Addr} {a b c d : Addr × Obj} (N : News h₀ L h [d, c, b, a]) : News h₀ L h [a, b, c, d] := fun p hp => by
  simp only [List.mem_cons, List.not_mem_nil, or_false] at hp
  rcases hp with rfl | rfl | rfl | rfl
  · exact N _ (.tail _ (.tail _ (.tail _ (.head _))))
  · exact N _ (.tail _ (.tail _ (.head _)))
  · exact N _ (.tail _ (.head _))
  · exact N _ (.head _)
end Mine
namespace Mine
theorem All2.init {α β : Type} {R : α → β → Prop} : ∀ {l : List α} {r : List β}, All2 R l r → All2 R l.dropLast r.dropLast
  | _, _, .nil => .nil
  | _, _, .cons _ .nil => .nil
  | _, _, .cons a (.cons b c) => .cons a (All2.init (.cons b c))
theorem mem_sum {c : List Nat} : ∀ {l : List (List Nat)}, c ∈ l → c.length ≤ (l.map (·.length)).sum
  | _ :: _, .head _ => by rw [List.map_cons, List.sum_cons]; omega
  | _ :: _, .tail _ h => by
    have := mem_sum h
    rw [List.map_cons, List.sum_cons]; omega
theorem item_uniq (v : Value) (c c' : List Nat) : SItem v c → SItem v c' → c = c' := by
  rintro ⟨t, rfl⟩ ⟨t', e⟩
  injection e with e _
  injection e with e
  simpa using e
end Mine
namespace Mine
theorem nameE_L {M : PySem.Model} {A : Around} {E : Value → Shared → Prop} {s : Shared} {g : Heap} {env : Env} {m₂ : PySem.Str → Option Value} {x : PySem.Str} {pos : Pos} {v : Value} {Q : Value → Shared → Prop} (hns : g.Ns env.locals m₂) (kE : InElt g s.heap) (hm : m₂ x = some v) (h : Q v s)
    (hk : env.scope.kind = .function) (hx : env.kindOf x = some .local) (hd : (x == ("__debug__" : PySem.Str)) = false) : wpAny M A (eval (.Name x pos) env) Q E s :=
  wpAny_Name (wpAny_loadName_local hk hx (hns.keeps kE) hm h) hd
end Mine
end
section
open PySem PySem.W PyProof.Rows PySem.Calls
namespace Mine
theorem kf_fn9 : PySem.Challenge.rw_ik0040_01 = PySem.Challenge.rw_ik0040_01 ∧ hd.heap_39 = hd.heap_39 := by
  k_with_none
  k_with "own drop_all" => ((repeat (with_reducible rename Fr _ _ _ _ => F1; clear F1)); (repeat (with_reducible rename News _ _ _ _ => N1; clear N1)))
  k_with "own due_end" => ((with_reducible refine' TurnD.next ?qci1_F ?qci1_N ?qci1_hz ?qci1_hi ?qci1_h1 ?qci1_h2 ?qci1_h3 ?qci1_hs ?qci1_q1 ?qci1_q2 ?qci1_q3 ?qci1_hm ?_); (case qci1_F => k_asm); (case qci1_N => k_asm); (case qci1_hz => exact rfl); (case qci1_hi => k_mem); (case qci1_h1 => k_mem); (case qci1_h2 => k_mem); (case qci1_h3 => k_mem); (case qci1_hs => (intro p hp; repeat (first | exact hp | refine List.mem_cons_of_mem _ ?_))); (case qci1_q1 => first | assumption | k_ne); (case qci1_q2 => first | assumption | k_ne); (case qci1_q3 => first | assumption | k_ne); (case qci1_hm => (intro y h0 h1; simp only [if_neg h0, if_neg h1])))
  k_with "exec For" => (k_here; (with_reducible rename Fr _ _ _ _ => lF'); k_dflt (refine' For_invVF lF' ?qci2_k1 ?qci2_k2 ?_ ?qci2_k3 ?qci2_k4; (case qci2_k1 => exact rfl); (case qci2_k2 => exact rfl); (case qci2_k3 => intro _; rfl); (case qci2_k4 => exact PassesOwn.never); k_whole))
  k_with "subscriptTail Name Slice str ref" => (k_here; k_dflt (refine' slice_S (s := ⟨_, _, _, _, _⟩) ?qci3_F ?qci3_N ?qci3_hl ?qci3_hu ?qci3_hz ?qci3_e ?_; (case qci3_F => k_asm); (case qci3_N => k_asm); (case qci3_hl => constructor); (case qci3_hu => constructor); (case qci3_hz => first | omega | ((try simp only [List.length_take, List.length_drop, List.length_append, List.length_cons, List.length_nil]); omega)); (case qci3_e => first | with_reducible exact cut_h1 _ | with_reducible exact cut_h2 _ | with_reducible exact cut_l1 _ | with_reducible exact cut_l2 _ | with_reducible exact cut_12 _ | with_reducible exact cut_23 _ | with_reducible exact cut_m1 _); (intro h' t' k' F' N'; try k_sweep)))
  k_with "subscriptTail Name Slice bytes ref" => (k_here; k_dflt (refine' slice_B (s := ⟨_, _, _, _, _⟩) ?qci4_F ?qci4_N ?qci4_hl ?qci4_hu ?qci4_hz ?qci4_e ?_; (case qci4_F => k_asm); (case qci4_N => k_asm); (case qci4_hl => constructor); (case qci4_hu => constructor); (case qci4_hz => first | omega | ((try simp only [List.length_take, List.length_drop, List.length_append, List.length_cons, List.length_nil]); omega)); (case qci4_e => first | with_reducible exact cut_h1 _ | with_reducible exact cut_h2 _ | with_reducible exact cut_l1 _ | with_reducible exact cut_l2 _ | with_reducible exact cut_12 _ | with_reducible exact cut_23 _ | with_reducible exact cut_m1 _); (intro h' t' k' F' N'; try k_sweep)))
  k_with "compareOp Eq str str" => (k_here; k_dflt (refine' eq_S ?qci5_hx ?qci5_hy ?_; (case qci5_hx => first | with_reducible exact lit_slash | with_reducible exact lit_dot | with_reducible exact lit_dd | with_reducible exact lit_empty | with_reducible exact lit_nl | with_reducible exact lit_crlf | with_reducible exact lit_cr | with_reducible exact rfl); (case qci5_hy => first | with_reducible exact lit_slash | with_reducible exact lit_dot | with_reducible exact lit_dd | with_reducible exact lit_empty | with_reducible exact lit_nl | with_reducible exact lit_crlf | with_reducible exact lit_cr | with_reducible exact rfl)))
  k_with "compareOp Eq bytes bytes" => (k_here; k_dflt (refine' eq_B ?qci6_hx ?qci6_hy ?_; (case qci6_hx => first | with_reducible exact blit_slash | with_reducible exact blit_dot | with_reducible exact blit_dd | with_reducible exact blit_empty | with_reducible exact blit_nl | with_reducible exact rfl); (case qci6_hy => first | with_reducible exact blit_slash | with_reducible exact blit_dot | with_reducible exact blit_dd | with_reducible exact blit_empty | with_reducible exact blit_nl | with_reducible exact rfl)))
  k_with "compareOp NotEq str str" => (k_here; k_dflt (refine' ne_S ?qci7_hx ?qci7_hy ?_; (case qci7_hx => first | with_reducible exact lit_slash | with_reducible exact lit_dot | with_reducible exact lit_dd | with_reducible exact lit_empty | with_reducible exact lit_nl | with_reducible exact lit_crlf | with_reducible exact lit_cr | with_reducible exact rfl); (case qci7_hy => first | with_reducible exact lit_slash | with_reducible exact lit_dot | with_reducible exact lit_dd | with_reducible exact lit_empty | with_reducible exact lit_nl | with_reducible exact lit_crlf | with_reducible exact lit_cr | with_reducible exact rfl)))
  k_with "compareOp NotEq bytes bytes" => (k_here; k_dflt (refine' ne_B ?qci8_hx ?qci8_hy ?_; (case qci8_hx => first | with_reducible exact blit_slash | with_reducible exact blit_dot | with_reducible exact blit_dd | with_reducible exact blit_empty | with_reducible exact blit_nl | with_reducible exact rfl); (case qci8_hy => first | with_reducible exact blit_slash | with_reducible exact blit_dot | with_reducible exact blit_dd | with_reducible exact blit_empty | with_reducible exact blit_nl | with_reducible exact rfl)))
  k_with "truthy str" => (k_here; k_dflt (refine' truthy_S ?qci9_hz ?_; (case qci9_hz => first | omega | ((try simp only [List.length_take, List.length_drop, List.length_append, List.length_cons, List.length_nil]); omega)); intro k'))
  k_with "truthy bytes" => (k_here; k_dflt (refine' truthy_B ?qci10_hz ?_; (case qci10_hz => first | omega | ((try simp only [List.length_take, List.length_drop, List.length_append, List.length_cons, List.length_nil]); omega)); intro k'))
  k_with "binaryOp Add str str" => (k_here; k_dflt (refine' add_S ?qci11_hx ?qci11_hy ?qci11_hz ?_; (case qci11_hx => first | with_reducible exact lit_slash | with_reducible exact lit_dot | with_reducible exact lit_dd | with_reducible exact lit_empty | with_reducible exact lit_nl | with_reducible exact lit_crlf | with_reducible exact lit_cr | with_reducible exact rfl); (case qci11_hy => first | with_reducible exact lit_slash | with_reducible exact lit_dot | with_reducible exact lit_dd | with_reducible exact lit_empty | with_reducible exact lit_nl | with_reducible exact lit_crlf | with_reducible exact lit_cr | with_reducible exact rfl); (case qci11_hz => first | omega | ((try simp only [List.length_take, List.length_drop, List.length_append, List.length_cons, List.length_nil]); omega)); intro t' k'))
  k_with "binaryOp Add bytes bytes" => (k_here; k_dflt (refine' add_B ?qci12_hx ?qci12_hy ?qci12_hz ?_; (case qci12_hx => first | with_reducible exact blit_slash | with_reducible exact blit_dot | with_reducible exact blit_dd | with_reducible exact blit_empty | with_reducible exact blit_nl | with_reducible exact rfl); (case qci12_hy => first | with_reducible exact blit_slash | with_reducible exact blit_dot | with_reducible exact blit_dd | with_reducible exact blit_empty | with_reducible exact blit_nl | with_reducible exact rfl); (case qci12_hz => first | omega | ((try simp only [List.length_take, List.length_drop, List.length_append, List.length_cons, List.length_nil]); omega)); intro t' k'))
  k_with "inplaceOp Add str str" => (k_here; k_dflt (refine' iadd_S ?qci13_hx ?qci13_hy ?qci13_hz ?_; (case qci13_hx => first | with_reducible exact lit_slash | with_reducible exact lit_dot | with_reducible exact lit_dd | with_reducible exact lit_empty | with_reducible exact lit_nl | with_reducible exact lit_crlf | with_reducible exact lit_cr | with_reducible exact rfl); (case qci13_hy => first | with_reducible exact lit_slash | with_reducible exact lit_dot | with_reducible exact lit_dd | with_reducible exact lit_empty | with_reducible exact lit_nl | with_reducible exact lit_crlf | with_reducible exact lit_cr | with_reducible exact rfl); (case qci13_hz => first | omega | ((try simp only [List.length_take, List.length_drop, List.length_append, List.length_cons, List.length_nil]); omega)); intro t' k'))
  k_with "inplaceOp Add bytes bytes" => (k_here; k_dflt (refine' iadd_B ?qci14_hx ?qci14_hy ?qci14_hz ?_; (case qci14_hx => first | with_reducible exact blit_slash | with_reducible exact blit_dot | with_reducible exact blit_dd | with_reducible exact blit_empty | with_reducible exact blit_nl | with_reducible exact rfl); (case qci14_hy => first | with_reducible exact blit_slash | with_reducible exact blit_dot | with_reducible exact blit_dd | with_reducible exact blit_empty | with_reducible exact blit_nl | with_reducible exact rfl); (case qci14_hz => first | omega | ((try simp only [List.length_take, List.length_drop, List.length_append, List.length_cons, List.length_nil]); omega)); intro t' k'))
  k_with "call builtin:str.startswith" => (k_here; k_dflt (refine' starts_S ?qci15_hy ?_; (case qci15_hy => first | with_reducible exact lit_slash | with_reducible exact lit_dot | with_reducible exact lit_dd | with_reducible exact lit_empty | with_reducible exact lit_nl | with_reducible exact lit_crlf | with_reducible exact lit_cr | with_reducible exact rfl)))
  k_with "call builtin:str.endswith" => (k_here; k_dflt (refine' ends_S ?qci16_hy ?_; (case qci16_hy => first | with_reducible exact lit_slash | with_reducible exact lit_dot | with_reducible exact lit_dd | with_reducible exact lit_empty | with_reducible exact lit_nl | with_reducible exact lit_crlf | with_reducible exact lit_cr | with_reducible exact rfl)))
  k_with "call builtin:bytes.startswith" => (k_here; k_dflt (refine' starts_B ?qci17_hy ?_; (case qci17_hy => first | with_reducible exact blit_slash | with_reducible exact blit_dot | with_reducible exact blit_dd | with_reducible exact blit_empty | with_reducible exact blit_nl | with_reducible exact rfl)))
  k_with "call builtin:bytes.endswith" => (k_here; k_dflt (refine' ends_B ?qci18_hy ?_; (case qci18_hy => first | with_reducible exact blit_slash | with_reducible exact blit_dot | with_reducible exact blit_dd | with_reducible exact blit_empty | with_reducible exact blit_nl | with_reducible exact rfl)))
  k_with "getMethod bytes" => (k_here; k_dflt (first | with_reducible refine' gm_bytes FB.slot_bytes_startswith FB.type_bytes_startswith ?_ | with_reducible refine' gm_bytes FB.slot_bytes_endswith FB.type_bytes_endswith ?_ | with_reducible refine' gm_bytes BF.slot_split BF.type_split ?_ | with_reducible refine' gm_bytes BF.slot_join BF.type_join ?_))
  k_with "truthy ref" => (k_here; k_dflt (refine' truthy_L ?qci20_N ?qci20_m ?qci20_z ?qci20_e ?_; (case qci20_N => k_asm); (case qci20_m => k_mem); (case qci20_z => first | omega | ((try simp only [List.length_take, List.length_drop, List.length_append, List.length_cons, List.length_nil]); omega)); (case qci20_e => first | exact rfl | simp); intro k'))
  k_with "subscriptTail Name UnaryOp ref int" => (k_here; k_dflt (refine' last_L ?qci21_N ?qci21_m ?qci21_e ?qci21_z ?_; (case qci21_N => k_asm); (case qci21_m => k_mem); (case qci21_e => exact rfl); (case qci21_z => first | omega | ((try simp only [List.length_take, List.length_drop, List.length_append, List.length_cons, List.length_nil]); omega))))
  k_with "call builtin:list.append" => (k_here; k_dflt (refine' app_L ?qci22_F ?qci22_N ?qci22_U ?qci22_z ?_; (case qci22_F => k_asm); (case qci22_N => k_asm); (case qci22_U => k_upd); (case qci22_z => first | omega | ((try simp only [List.length_take, List.length_drop, List.length_append, List.length_cons, List.length_nil]); omega)); (intro h' F' N'; try k_sweep)))
  k_with "call builtin:list.pop" => (k_here; k_dflt (refine' pop_L ?qci23_F ?qci23_N ?qci23_m ?qci23_e ?qci23_U ?qci23_z ?_; (case qci23_F => k_asm); (case qci23_N => k_asm); (case qci23_m => k_mem); (case qci23_e => exact rfl); (case qci23_U => k_upd); (case qci23_z => first | omega | ((try simp only [List.length_take, List.length_drop, List.length_append, List.length_cons, List.length_nil]); omega)); (intro h' F' N'; try k_sweep)))
  k_with "assign Tuple" => (k_here; k_dflt (refine' unpackN_ ?qci24_F ?qci24_N ?qci24_T ?qci24_k4 ?qci24_k5 ?qci24_k6 ?_; (case qci24_F => k_asm); (case qci24_N => k_asm); (case qci24_T => exact News.isTup (by k_asm) (by k_mem)); (case qci24_k4 => exact Room.hh (by assumption)); (case qci24_k5 => exact rfl); (case qci24_k6 => exact rfl); (intro h' F' N'; try k_sweep)))
  k_with "call builtin:str.join" => (k_here; k_dflt (refine' join_S ?qci25_hy ?qci25_hl ?qci25_hv ?qci25_hz ?_; (case qci25_hy => first | with_reducible exact lit_slash | with_reducible exact lit_dot | with_reducible exact lit_dd | with_reducible exact lit_empty | with_reducible exact lit_nl | with_reducible exact lit_crlf | with_reducible exact lit_cr | with_reducible exact rfl); (case qci25_hl => exact at_news (by k_asm) (by k_mem)); (case qci25_hv => assumption); (case qci25_hz => first | omega | ((try simp only [List.length_take, List.length_drop, List.length_append, List.length_cons, List.length_nil]); omega)); intro t' k'))
  k_with "call builtin:bytes.join" => (k_here; k_dflt (refine' join_B ?qci26_hy ?qci26_hl ?qci26_hv ?qci26_hz ?_; (case qci26_hy => first | with_reducible exact blit_slash | with_reducible exact blit_dot | with_reducible exact blit_dd | with_reducible exact blit_empty | with_reducible exact blit_nl | with_reducible exact rfl); (case qci26_hl => exact at_news (by k_asm) (by k_mem)); (case qci26_hv => assumption); (case qci26_hz => first | omega | ((try simp only [List.length_take, List.length_drop, List.length_append, List.length_cons, List.length_nil]); omega)); intro t' k'))
  k_with "call builtin:bytes.split" => (k_here; k_dflt (refine' split_B ?qci27_F ?qci27_N ?qci27_hy ?qci27_hz ?_; (case qci27_F => k_asm); (case qci27_N => k_asm); (case qci27_hy => first | with_reducible exact blit_slash | with_reducible exact blit_dot | with_reducible exact blit_dd | with_reducible exact blit_empty | with_reducible exact blit_nl | with_reducible exact rfl); (case qci27_hz => first | omega | ((try simp only [List.length_take, List.length_drop, List.length_append, List.length_cons, List.length_nil]); omega)); (intro D vs h' k' hv F' N' l1; (try k_lt l1); try k_sweep)))
  k_with "unpackItems ref" => (k_here; k_dflt (refine' unpackItemsN_ ?qci28_F ?qci28_N ?qci28_T ?qci28_k4 ?qci28_k5 ?_; (case qci28_F => k_asm); (case qci28_N => k_asm); (case qci28_T => exact News.isTup (by k_asm) (by k_mem)); (case qci28_k4 => exact Room.hh (by assumption)); (case qci28_k5 => exact rfl); (intro h' F' N'; try k_sweep)))
  k_with "compareOp NotIn str ref" => (k_here; k_dflt (refine' notin_S ?qci29_N ?qci29_m ?qci29_h1 ?qci29_h2 ?_; (case qci29_N => k_asm); (case qci29_m => k_mem); (case qci29_h1 => first | with_reducible exact lit_slash | with_reducible exact lit_dot | with_reducible exact lit_dd | with_reducible exact lit_empty | with_reducible exact lit_nl | with_reducible exact lit_crlf | with_reducible exact lit_cr | with_reducible exact rfl); (case qci29_h2 => first | with_reducible exact lit_slash | with_reducible exact lit_dot | with_reducible exact lit_dd | with_reducible exact lit_empty | with_reducible exact lit_nl | with_reducible exact lit_crlf | with_reducible exact lit_cr | with_reducible exact rfl)))
  k_with "compareOp In str ref" => (k_here; k_dflt (refine' in_S ?qci30_N ?qci30_m ?qci30_h1 ?qci30_h2 ?_; (case qci30_N => k_asm); (case qci30_m => k_mem); (case qci30_h1 => first | with_reducible exact lit_slash | with_reducible exact lit_dot | with_reducible exact lit_dd | with_reducible exact lit_empty | with_reducible exact lit_nl | with_reducible exact lit_crlf | with_reducible exact lit_cr | with_reducible exact rfl); (case qci30_h2 => first | with_reducible exact lit_slash | with_reducible exact lit_dot | with_reducible exact lit_dd | with_reducible exact lit_empty | with_reducible exact lit_nl | with_reducible exact lit_crlf | with_reducible exact lit_cr | with_reducible exact rfl)))
  k_with "binaryOp Mult str int" => (k_here; k_dflt (refine' mul_S ?qci31_hy ?qci31_hi ?qci31_hz ?_; (case qci31_hy => first | with_reducible exact lit_slash | with_reducible exact lit_dot | with_reducible exact lit_dd | with_reducible exact lit_empty | with_reducible exact lit_nl | with_reducible exact lit_crlf | with_reducible exact lit_cr | with_reducible exact rfl); (case qci31_hi => exact rfl); (case qci31_hz => first | omega | ((try simp only [List.length_take, List.length_drop, List.length_append, List.length_cons, List.length_nil]); omega)); intro t' q'))
  k_with "binaryOp Add str str" => (k_here; k_dflt (refine' add_S ?qci32_hx ?qci32_hy ?qci32_hz ?_; (case qci32_hx => first | with_reducible exact lit_slash | with_reducible exact lit_dot | with_reducible exact lit_dd | with_reducible exact lit_empty | with_reducible exact lit_nl | with_reducible exact lit_crlf | with_reducible exact lit_cr | with_reducible exact rfl); (case qci32_hy => first | with_reducible exact lit_slash | with_reducible exact lit_dot | with_reducible exact lit_dd | with_reducible exact lit_empty | with_reducible exact lit_nl | with_reducible exact lit_crlf | with_reducible exact lit_cr | with_reducible exact rfl); (case qci32_hz => first | omega | ((try simp only [List.length_take, List.length_drop, List.length_append, List.length_cons, List.length_nil, List.length_replicate, List.length_dropLast]); omega)); intro t' k'))
  k_with "subscriptTail Name Slice ref ref" => (k_here; k_dflt (refine' cut_L ?qci33_F ?qci33_N ?qci33_a ?qci33_pl ?qci33_pu ?qci33_hz ?qci33_e ?_; (case qci33_F => k_asm); (case qci33_N => k_asm); (case qci33_a => k_mem); (case qci33_pl => constructor); (case qci33_pu => constructor); (case qci33_hz => first | omega | ((try simp only [List.length_take, List.length_drop, List.length_append, List.length_cons, List.length_nil, List.length_replicate, List.length_dropLast]); omega)); (case qci33_e => first | with_reducible exact cut_init _ | with_reducible exact cut_h1 _ | with_reducible exact cut_h2 _ | with_reducible exact cut_l1 _ | with_reducible exact cut_l2 _ | with_reducible exact cut_12 _ | with_reducible exact cut_23 _ | with_reducible exact cut_m1 _); (intro D' h' F' N' l1; (try k_lt l1); try k_sweep)))
  k_with "subscriptTail Name Slice str ref" => (k_here; k_dflt (refine' slice_S (s := ⟨_, _, _, _, _⟩) ?qci34_F ?qci34_N ?qci34_hl ?qci34_hu ?qci34_hz ?qci34_e ?_; (case qci34_F => k_asm); (case qci34_N => k_asm); (case qci34_hl => constructor); (case qci34_hu => constructor); (case qci34_hz => first | omega | ((try simp only [List.length_take, List.length_drop, List.length_append, List.length_cons, List.length_nil, List.length_replicate, List.length_dropLast]); omega)); (case qci34_e => first | with_reducible exact cut_h1 _ | with_reducible exact cut_h2 _ | with_reducible exact cut_l1 _ | with_reducible exact cut_l2 _ | with_reducible exact cut_12 _ | with_reducible exact cut_23 _ | with_reducible exact cut_m1 _); (intro h' t' k' F' N'; try k_sweep)))
  k_with "binaryOp Add ref ref" => (k_here; k_dflt (refine' add_L ?qci35_F ?qci35_N ?qci35_a ?qci35_b ?qci35_hz ?_; (case qci35_F => k_asm); (case qci35_N => k_asm); (case qci35_a => k_mem); (case qci35_b => k_mem); (case qci35_hz => first | omega | ((try simp only [List.length_take, List.length_drop, List.length_append, List.length_cons, List.length_nil, List.length_replicate, List.length_dropLast]); omega)); (intro D' h' F' N' l1; (try k_lt l1); try k_sweep)))
  k_with "call ref" => (k_here; refine' call_place ?qci36_F ?qci36_X ?qci36_N ?qci36_T ?qci36_hm ?qci36_hss ?qci36_hv ?qci36_hz ?qci36_R ?_; (case qci36_F => k_asm); (case qci36_X => k_asm); (case qci36_N => k_asm); (case qci36_T => k_asm); (case qci36_hm => k_mem); (case qci36_hss => assumption); (case qci36_hv => exact ⟨_, rfl⟩); (case qci36_R => exact Room.less (by assumption) (by decide) (by decide)); (case qci36_hz => ((try simp only [List.length_append, List.length_replicate]); omega)); (intro t' h' tk' F' N'; try k_sweep))
  k_with "subscriptTail Name Slice str ref" => (k_here; (with_reducible rename InElt _ _ => kE); k_dflt (refine' slice_E ?qci37_F ?qci37_N kE ?qci37_hz ?_; (case qci37_F => k_asm); (case qci37_N => k_asm); (case qci37_hz => omega); (intro h' t' k' F' N' kE'; try k_sweep)))
  k_with "newList" => (k_here; (with_reducible rename InElt _ _ => kE); k_dflt (refine' newList_E ?qci38_F ?qci38_N kE ?qci38_hz ?_; (case qci38_F => k_asm); (case qci38_N => k_asm); (case qci38_hz => exact Nat.le_of_ble_eq_true rfl); (intro D' h' F' N' kE'; try k_sweep)))
  k_with "eval Name" => (k_here; k_inBlock; (with_reducible rename InElt _ _ => kE); k_dflt (refine' nameE_L ?qci39_n kE ?qci39_m ?_ ?qci39_k ?qci39_x ?qci39_d; (case qci39_n => assumption); (case qci39_m => assumption); (case qci39_k => rfl); (case qci39_x => rfl); (case qci39_d => decide); k_whole))
  k_fill
  exact ⟨rfl, rfl⟩
section
variable (w : World) (mean : ExcName → Option Value) (mg mb : Str → Option Value)
set_option maxRecDepth 100000
set_option maxHeartbeats 8000000
theorem call_place {w : World} {mean : ExcName → Option Value} {mg mb : Str → Option Value} {A : Around} {s : Shared} {h₀ : Heap} {L Rw : Addr} {m : Str → Option Value} {news : List (Addr × Obj)} {Q E : Value → Shared → Prop} {l c : List Nat} {t : Tok} {ss : List Value} {v : Value} {cs : List (List Nat)} {n : Nat} (F : Fr h₀ L s.heap m) (X₀ : (hd.heap_39 w.params).In h₀) (N : News h₀ L s.heap news) (T : TopM mean mg mb h₀)
    (hm : (Rw, lstObj (ss ++ [v]) n) ∈ news) (hss : All2 SItem ss cs) (hv : SItem v c) (hz : l.length + ((cs.map (·.length)).sum + c.length) + (cs.length + 1) ≤ 100) (hr : Room A 1 12)
    (h : ∀ t' h' tk', Fr h₀ L h' m → News h₀ L h' news → Q (mkS (placeL l (cs ++ [c])) t') { s with heap := h', toks := tk' }) : wpAny (model PP w) A (call (.ref 201) [.str ⟨l.toArray⟩ t, .ref Rw]) Q E s :=
  call_spec F X₀ N T (place_spec w mean mg mb l t Rw (ss ++ [v]) (cs ++ [c]) n (hss.snoc hv) (by simp only [List.map_append, List.map_cons, List.map_nil, List.sum_append, List.sum_cons, List.sum_nil, List.length_append, List.length_cons, List.length_nil]; omega)) hr (N _ hm).1 fun v h' tk' F' N' _ o => by
    obtain ⟨t', rfl⟩ := o
    exact h t' h' tk' F' N'
theorem due_spec (l : List Nat) (t : Tok) (Rw : Addr) (vs : List Value) (cs : List (List Nat)) (n k : Nat) (tk0 : Tok) (hv : All2 SItem vs cs) (hz : l.length + (cs.map (·.length)).sum + 3 * cs.length ≤ 97) (hk : k ≤ 2) (hne : cs ≠ []) : Spec w mean mg mb 206 [.str ⟨l.toArray⟩ t, .ref Rw, .int (k : Nat) tk0] 3 18 (fun h => h.get? Rw = some (lstObj vs n)) (ListOut SItem (dueL l cs k)) := by
  refine' spec_of [(Str.ofString "root", .str ⟨l.toArray⟩ t), (Str.ofString "rows", .ref Rw), (Str.ofString "times", .int (k : Nat) tk0)] ?ho ?hcd ?hbind ?hloc ?c1 ?c2 ?c3 ?c4 ?_
  case ho => k_is
  case hcd => k_is
  case hbind => exact rfl
  case c1 => decide
  case hloc => exact rfl
  case c2 => exact rfl
  case c3 => exact rfl
  case c4 => exact rfl
  intro A h₀ L s hR X T hp F N
  (try dsimp only); (try k_fold)
  have hvl := hv.length
  (try dsimp only at hp)
  repeat' (goal_lacks LoopAtV; first | (k_unfold; (try dsimp only)) | (k_end; wrow_close) | walk1 | (dsimp only; walk1) | (leave1; try dsimp only))
  walk1
  (with_reducible rename News _ _ _ _ => N)
  (with_reducible rename Fr _ _ _ _ => F)
  refine' iter_three (Str.ofString "tail") (fun pre ds ss ts => All2 SItem ds (pre.foldl (dstep l k) ([], [], [l])).1 ∧ All2 SItem ss (pre.foldl (dstep l k) ([], [], [l])).2.1 ∧ All2 SItem ts (pre.foldl (dstep l k) ([], [], [l])).2.2) hR.hh hv F (Mine.News.rev4 N) ?x1 hp ?x2 ?x3 ?xr ?turn ?done
  case x1 => exact rfl
  case x2 => k_ne
  case x3 => k_ne
  case xr => exact ⟨.nil, .nil, .cons ⟨_, rfl⟩ .nil⟩
  case turn =>
    intro pre c post v ds kd ss ks a ts kt I it h tk hcs hvc hI1 hI2 hI haa1 haa2 hlr hst F N
    (k_lt hlr)
    have hI1 := PySem.W.ltN hI1
    have hI2 := PySem.W.ltN hI2
    have hI := PySem.W.neN hI
    have haa1 := PySem.W.neN haa1
    have haa2 := PySem.W.neN haa2
    obtain ⟨tc, rfl⟩ := hvc
    obtain ⟨hds, hss, hts⟩ := hst
    rw [hcs] at hz
    simp only [List.map_append, List.map_cons, List.sum_append, List.sum_cons, List.length_append, List.length_cons] at hz
    generalize hst : pre.foldl (dstep l k) ([], [], [l]) = st at *
    obtain ⟨f1, f2, f3, f4, f5⟩ := dfold_two l hk pre hst
    have g1 := hds.length
    have g2 := hss.length
    have g3 := hts.length
    (try dsimp only); (try k_fold)
    repeat' (goal_lacks LoopAtV; first | (k_unfold; (try dsimp only)) | (k_end; wrow_close) | walk1 | (dsimp only; walk1) | (leave1; try dsimp only))
    all_goals (try ((try dsimp only); k_unfold))
    all_goals walk_at "own due_end"
    all_goals walk_at "own drop_all"
    all_goals (rw [dfold_snoc l k hst])
    all_goals (unfold dstep)
    all_goals (first | (rw [drow_dot (by assumption)]; first | (rw [tstep_new (by assumption)]; exact ⟨hds.snoc ⟨_, rfl⟩, hss.snoc ⟨_, rfl⟩, .cons ⟨_, rfl⟩ .nil⟩) | (rw [tstep_on (by assumption)]; exact ⟨hds.snoc ⟨_, rfl⟩, hss.snoc ⟨_, rfl⟩, hts.snoc ⟨_, rfl⟩⟩)) | (rw [drow_no (by assumption)]; first | (rw [tstep_new (by assumption)]; exact ⟨hds.snoc ⟨_, rfl⟩, hss.snoc ⟨_, rfl⟩, .cons ⟨_, rfl⟩ .nil⟩) | (rw [tstep_on (by assumption)]; exact ⟨hds.snoc ⟨_, rfl⟩, hss.snoc ⟨_, rfl⟩, hts.snoc ⟨_, rfl⟩⟩)) | trace_state)
  case done =>
    intro ds kd ss ks a ts kt u h tk haa1 haa2 hst F N
    have haa1 := PySem.W.neN haa1
    have haa2 := PySem.W.neN haa2
    obtain ⟨hds, hss, hts⟩ := hst
    generalize hst : cs.foldl (dstep l k) ([], [], [l]) = st at *
    obtain ⟨f1, f2, f3, f4, f5⟩ := dfold_two l hk cs hst
    have g1 := hds.length
    have g2 := hss.length
    have g3 := hts.length
    (try dsimp only); (try k_fold)
    obtain ⟨ts', tv, tl, c', rfl, e3, ht1, ⟨tt, rfl⟩⟩ := hts.ends.resolve_left (fun h => f5 h.2)
    obtain ⟨ds', dv, d', x', rfl, e1, hd1, ⟨td, rfl⟩⟩ := hds.ends.resolve_left (fun h => hne (List.eq_nil_of_length_eq_zero (by rw [← f1, h.2]; rfl)))
    rw [e3] at f4 hts
    rw [e1] at hds
    simp only [List.length_append, List.length_cons, List.length_nil] at g1
    have hsl := slashed_sum tl
    have hjl := joinL_length [] (tl.map slashed)
    have htl := hts.length
    simp only [List.map_append, List.map_cons, List.map_nil, List.sum_append, List.sum_cons, List.sum_nil, List.length_append, List.length_cons, List.length_nil, Nat.mul_zero, Nat.add_zero] at f4 htl hjl
    have hdl : (tl ++ [c']).dropLast = tl := List.dropLast_concat
    have hdv : ∀ v : Value, (ts' ++ [v]).dropLast = ts' := fun v => List.dropLast_concat
    repeat' (goal_lacks CompPost; first | (k_unfold; (try dsimp only)) | (k_end; wrow_close) | walk1 | (dsimp only; walk1) | (leave1; try dsimp only))
    repeat walk1
    (try dsimp only)
    (with_reducible rename News _ _ _ _ => N)
    (with_reducible rename Fr _ _ _ _ => F)
    refine' comp_L (Item := SItem) (Got := SItem) slashed hR.hh hts.init ?xz item_uniq F N ?xa ?g2 ?g3
    case xa => k_mem
    case xz => (rw [hdl]; omega)
    case g2 =>
      intro C c v s₂ m₂ E' hc hv hns hm hk
      obtain ⟨u, rfl⟩ := hv
      rw [hdl] at hc
      have hcl := mem_sum hc
      k_steps
      all_goals (first | (rw [slashed_keep (by assumption)]; exact ⟨_, rfl⟩) | (rw [slashed_add (by assumption)]; exact ⟨_, rfl⟩) | exact ⟨_, _, rfl, by assumption⟩)
    case g3 =>
      intro D ys k' h' tk' hv F N hne
      rw [hdl] at hv
      have hvl := hv.length
      (try dsimp only); (try k_fold)
      k_steps
      all_goals (refine Back.L (by assumption) (by assumption) ?_)
      all_goals (unfold dueL; rw [hst, dueEnd_eq e1 e3, hdl])
      all_goals (exact All2.append hds (.cons ⟨_, rfl⟩ (.cons ⟨_, rfl⟩ .nil)))
end
end Mine
end
section
namespace Mine
abbrev DD (k : Nat) : List (List Nat) := List.replicate k [46, 46]
def PF (st : Nat × List (List Nat)) (cs : List (List Nat)) : Nat × List (List Nat) := cs.reverse.foldl pstep st
theorem PF_cons (st : Nat × List (List Nat)) (c : List Nat) (cs : List (List Nat)) : PF st (c :: cs) = pstep (PF st cs) c := by
  unfold PF
  rw [List.reverse_cons, List.foldl_append]
  rfl
theorem PF_append (st : Nat × List (List Nat)) (a b : List (List Nat)) : PF st (a ++ b) = PF (PF st b) a := by
  unfold PF
  rw [List.reverse_append, List.foldl_append]
theorem prow_eq (st : Nat × List (List Nat)) (x : List Nat) : prow st x = PF st (cutL 47 x) := rfl

theorem DD_last (a : Nat) : (DD (a + 1)).getLast? = some [46, 46] := by
  rw [DD, List.replicate_succ']
  simp
theorem DD_snoc (a : Nat) : DD a ++ [[46, 46]] = DD (a + 1) := by
  rw [DD, DD, List.replicate_succ']

/-- forward with a stack, and backward with a count, give the same pieces -/
theorem fwd_bare : ∀ (cs : List (List Nat)) (a : Nat) (ns : List (List Nat)), (∀ n ∈ ns, n ≠ [46, 46]) →
    cs.foldl (nstep 46 []) (DD a ++ ns) = DD (a + ((PF (0, []) cs).1 - ns.length)) ++ (ns.take (ns.length - (PF (0, []) cs).1) ++ (PF (0, []) cs).2)
  | [], a, ns, _ => by simp [PF]
  | c :: cs, a, ns, hns => by
    rw [PF_cons, List.foldl_cons]
    generalize hp : PF (0, []) cs = p
    by_cases h1 : c = [46, 46]
    · rw [pstep_dd h1]
      rcases List.eq_nil_or_concat ns with rfl | ⟨ms, m, rfl⟩
      · have e : nstep 46 [] (DD a ++ []) c = DD (a + 1) ++ [] := by
          subst h1
          rw [List.append_nil, List.append_nil, ← DD_snoc]
          refine nstep_push (by decide) ?_
          cases a with
          | zero => exact .inr (.inl ⟨rfl, rfl⟩)
          | succ a => exact .inr (.inr (DD_last a))
        rw [e, fwd_bare cs (a + 1) [] (fun _ h => nomatch h), hp]
        simp
        omega
      · rw [List.concat_eq_append] at hns ⊢
        have hm : m ≠ [46, 46] := hns m (by simp)
        have e : nstep 46 [] (DD a ++ (ms ++ [m])) c = DD a ++ ms := by
          subst h1
          rw [← List.append_assoc, nstep_pop (by decide) ?_, List.dropLast_concat]
          rintro (h | ⟨_, h⟩ | h)
          · exact h rfl
          · simp at h
          · rw [List.getLast?_concat] at h
            exact hm (Option.some.inj h)
        rw [e, fwd_bare cs a ms (fun n hn => hns n (List.mem_append_left _ hn)), hp]
        simp only [List.length_append, List.length_cons, List.length_nil]
        rw [show p.1 + 1 - (ms.length + (0 + 1)) = p.1 - ms.length by omega, show ms.length + (0 + 1) - (p.1 + 1) = ms.length - p.1 by omega, List.take_append_of_le_length (by omega)]
    · by_cases h2 : c = [] ∨ c = [46]
      · rw [pstep_skip h1 h2, nstep_skip h2, fwd_bare cs a ns hns, hp]
      · have e : nstep 46 [] (DD a ++ ns) c = DD a ++ (ns ++ [c]) := by rw [nstep_push h2 (.inl h1), List.append_assoc]
        rw [e, fwd_bare cs a (ns ++ [c]) (fun n hn => ?_), hp]
        · by_cases h3 : 0 < p.1
          · rw [pstep_eat h1 h2 h3]
            simp only [List.length_append, List.length_cons, List.length_nil]
            rw [show p.1 - (ns.length + (0 + 1)) = p.1 - 1 - ns.length by omega, show ns.length + (0 + 1) - p.1 = ns.length - (p.1 - 1) by omega, List.take_append_of_le_length (by omega)]
          · rw [pstep_name h1 h2 h3]
            have h0 : p.1 = 0 := by omega
            rw [h0]
            simp only [Nat.sub_zero, Nat.zero_sub, Nat.add_zero]
            rw [List.take_of_length_le (Nat.le_refl _), List.take_of_length_le (Nat.le_refl _), List.append_assoc]
            rfl
        · rcases List.mem_append.mp hn with hn | hn
          · exact hns n hn
          · rw [List.mem_singleton.mp hn]; exact h1
theorem fwd_root {root : List Nat} (hr : root ≠ []) : ∀ (cs : List (List Nat)) (ns : List (List Nat)), (∀ n ∈ ns, n ≠ [46, 46]) →
    cs.foldl (nstep 46 root) ns = ns.take (ns.length - (PF (0, []) cs).1) ++ (PF (0, []) cs).2
  | [], ns, _ => by simp [PF]
  | c :: cs, ns, hns => by
    rw [PF_cons, List.foldl_cons]
    generalize hp : PF (0, []) cs = p
    by_cases h1 : c = [46, 46]
    · rw [pstep_dd h1]
      have e : nstep 46 root ns c = ns.dropLast := by
        subst h1
        refine nstep_pop (by decide) ?_
        rintro (h | ⟨h, _⟩ | h)
        · exact h rfl
        · exact hr h
        · exact hns _ (List.mem_of_getLast? h) rfl
      rw [e, fwd_root hr cs ns.dropLast (fun n hn => hns n (List.dropLast_subset ns hn)), hp]
      rw [List.dropLast_eq_take, List.take_take, List.length_take]
      simp only
      congr 2
      omega
    · by_cases h2 : c = [] ∨ c = [46]
      · rw [pstep_skip h1 h2, nstep_skip h2, fwd_root hr cs ns hns, hp]
      · rw [nstep_push h2 (.inl h1), fwd_root hr cs (ns ++ [c]) (fun n hn => ?_), hp]
        · by_cases h3 : 0 < p.1
          · rw [pstep_eat h1 h2 h3]
            simp only [List.length_append, List.length_cons, List.length_nil]
            rw [show ns.length + (0 + 1) - p.1 = ns.length - (p.1 - 1) by omega, List.take_append_of_le_length (by omega)]
          · rw [pstep_name h1 h2 h3]
            have h0 : p.1 = 0 := by omega
            rw [h0]
            simp only [Nat.sub_zero, Nat.zero_sub, Nat.add_zero]
            rw [List.take_of_length_le (Nat.le_refl _), List.take_of_length_le (Nat.le_refl _), List.append_assoc]
            rfl
        · rcases List.mem_append.mp hn with hn | hn
          · exact hns n hn
          · rw [List.mem_singleton.mp hn]; exact h1

/-- a slash ahead adds a piece that counts for nothing -/
theorem prow_slash (st : Nat × List (List Nat)) (y : List Nat) : prow st (47 :: y) = prow st y := by
  rw [prow_eq, cutL_hit, PF_cons]
  exact pstep_skip (by decide) (.inl rfl)
theorem prow_tail (st : Nat × List (List Nat)) (x : List Nat) : prow st (tailL 47 x) = prow st x := by
  unfold tailL
  split
  · rfl
  · rename_i h
    have h : x.take 1 = [47] := by simpa using h
    cases x with
    | nil => cases h
    | cons a y =>
      have ha : a = 47 := by simpa using h
      subst ha
      split
      · exact (prow_slash st y).symm
      · rename_i h2
        have h2 : y.take 1 = [47] := by simpa using h2
        split
        · exact (prow_slash st y).symm
        · cases y with
          | nil => cases h2
          | cons b z =>
            have hb : b = 47 := by simpa using h2
            subst hb
            rw [prow_slash, prow_slash]
            rfl
theorem normL_place (x : List Nat) : normL 47 46 x = placeEnd (rootL 47 x, prow (0, []) x) := by
  have key : (cutL 47 (tailL 47 x)).foldl (nstep 46 (rootL 47 x)) [] = List.replicate (if rootL 47 x ≠ [] then 0 else (prow (0, []) x).1) [46, 46] ++ (prow (0, []) x).2 := by
    rw [← prow_tail, prow_eq]
    by_cases hr : rootL 47 x = []
    · rw [if_neg (by simpa using hr), hr]
      have := fwd_bare (cutL 47 (tailL 47 x)) 0 [] (fun _ h => nomatch h)
      simpa [DD] using this
    · rw [if_pos hr]
      have := fwd_root hr (cutL 47 (tailL 47 x)) [] (fun _ h => nomatch h)
      simpa using this
  by_cases hx : x = []
  · subst hx
    rfl
  · unfold placeEnd
    rw [normL, if_neg hx, key]
end Mine
namespace Mine
theorem cutL_append (a c : List Nat) : cutL 47 (a ++ 47 :: c) = cutL 47 a ++ cutL 47 c := by
  induction a with
  | nil => rw [List.nil_append, cutL_hit]; rfl
  | cons x a ih =>
    by_cases hx : x = 47
    · subst hx
      rw [List.cons_append, cutL_hit, cutL_hit, ih, List.cons_append]
    · obtain ⟨p, ps, h1, h2⟩ := cutL_miss (c := 47) a hx
      obtain ⟨q, qs, h3, h4⟩ := cutL_miss (c := 47) (a ++ 47 :: c) hx
      rw [List.cons_append, h4, h2]
      rw [ih, h1, List.cons_append] at h3
      obtain ⟨e1, e2⟩ := List.cons.inj h3
      rw [← e1, ← e2, List.cons_append]
theorem prow_glue (st : Nat × List (List Nat)) (a c : List Nat) : prow st (a ++ 47 :: c) = prow (prow st c) a := by
  rw [prow_eq, prow_eq, prow_eq, cutL_append, PF_append]
theorem prow_nil (st : Nat × List (List Nat)) : prow st [] = st := pstep_skip (by decide) (.inl rfl)
theorem prow_end (st : Nat × List (List Nat)) (a : List Nat) : prow st (a ++ [47]) = prow st a := by
  rw [prow_glue st a [], prow_nil]
/-- no slash ahead: the pieces of both -/
theorem prow_join (st : Nat × List (List Nat)) (a c : List Nat) (hc : ¬ c.take 1 = [47]) : prow st (jstep 47 a c) = prow (prow st c) a := by
  have hh : ¬ c.head? = some 47 := by
    intro h
    cases c with
    | nil => cases h
    | cons x y => exact hc (by rw [Option.some.inj h]; rfl)
  by_cases ha : a = []
  · rw [jstep_new (.inr ha), ha, prow_nil]
  · by_cases hl : a.getLast? = some 47
    · rw [jstep_on (by rintro (h | h); exact hh h; exact ha h) hl]
      obtain ⟨b, rfl⟩ : ∃ b, a = b ++ [47] := by
        rcases List.eq_nil_or_concat a with h | ⟨b, x, h⟩
        · exact absurd h ha
        · rw [List.concat_eq_append] at h
          subst h
          rw [List.getLast?_concat] at hl
          exact ⟨b, by rw [Option.some.inj hl]⟩
      rw [prow_end, List.append_assoc]
      exact prow_glue st b c
    · rw [jstep_sep (by rintro (h | h); exact hh h; exact ha h) hl]
      exact prow_glue st a c
theorem rootL_no {x : List Nat} (h : ¬ x.take 1 = [47]) : rootL 47 x = [] := if_pos h
theorem rootL_join (a c : List Nat) (hc : ¬ c.take 1 = [47]) : rootL 47 (jstep 47 a c) = rootL 47 a := by
  have hh : ¬ c.head? = some 47 := by
    intro h
    cases c with
    | nil => cases h
    | cons x y => exact hc (by rw [Option.some.inj h]; rfl)
  by_cases ha : a = []
  · rw [jstep_new (.inr ha), ha, rootL_no hc]
    rfl
  · have nor : ¬ (c.head? = some 47 ∨ a = []) := by rintro (h | h); exact hh h; exact ha h
    match a, ha with
    | [x], _ =>
      by_cases hx : x = 47
      · subst hx
        rw [jstep_on nor rfl]
        cases c with
        | nil => rfl
        | cons y z =>
          have hy : y ≠ 47 := fun h => hh (by rw [h]; rfl)
          simp [rootL, hy]
      · rw [jstep_sep nor (by simpa using hx)]
        simp [rootL, hx]
    | [x, y], _ =>
      by_cases hx : x = 47
      · subst hx
        by_cases hy : y = 47
        · subst hy
          rw [jstep_on nor rfl]
          cases c with
          | nil => rfl
          | cons w z =>
            have hw : w ≠ 47 := fun h => hh (by rw [h]; rfl)
            simp [rootL, hw]
        · rw [jstep_sep nor (by simpa using hy)]
          simp [rootL, hy]
      · by_cases hl : ([x, y] : List Nat).getLast? = some 47
        · rw [jstep_on nor hl]; simp [rootL, hx]
        · rw [jstep_sep nor hl]; simp [rootL, hx]
    | x :: y :: z :: r, _ =>
      by_cases hl : (x :: y :: z :: r).getLast? = some 47
      · rw [jstep_on nor hl]; simp [rootL]
      · rw [jstep_sep nor hl]; simp [rootL]
theorem rootL_lead {c : List Nat} (h : c.take 1 = [47]) : rootL 47 c = leadL c := by
  match c, h with
  | [x], h =>
    have hx : x = 47 := by simpa using h
    subst hx
    rfl
  | [x, y], h =>
    have hx : x = 47 := by simpa using h
    subst hx
    by_cases hy : y = 47
    · subst hy; rfl
    · simp [rootL, leadL, hy]
  | x :: y :: z :: r, h =>
    have hx : x = 47 := by simpa using h
    subst hx
    by_cases hy : y = 47
    · subst hy
      by_cases hz : z = 47
      · subst hz; simp [rootL, leadL]
      · simp [rootL, leadL, hz]
    · simp [rootL, leadL, hy]
theorem jstep_lead {a c : List Nat} (h : c.take 1 = [47]) : jstep 47 a c = c := by
  refine jstep_new (.inl ?_)
  cases c with
  | nil => cases h
  | cons x y => have hx : x = 47 := by simpa using h
                rw [hx]; rfl
/-- the join of all rows tells the place behind them -/
theorem place_go (root : List Nat) (hr : root = [] ∨ root = [47]) : ∀ (s : List (List Nat)) (st : Nat × List (List Nat)), placeGo root st s = (rootL 47 (s.foldr (fun c a => jstep 47 a c) root), prow st (s.foldr (fun c a => jstep 47 a c) root))
  | [], st => by
    rcases hr with rfl | rfl
    · show ([], st) = (rootL 47 [], prow st [])
      rw [prow_nil]; rfl
    · show ([47], st) = (rootL 47 [47], prow st [47])
      have := prow_slash st []
      rw [this, prow_nil]; rfl
  | c :: s, st => by
    rw [placeGo, List.foldr_cons]
    by_cases h : c.take 1 = [47]
    · rw [if_pos h, jstep_lead h, rootL_lead h]
    · rw [if_neg h, place_go root hr s, rootL_join _ _ h, prow_join _ _ _ h]
theorem place_whole {root : List Nat} (hr : root = [] ∨ root = [47]) (s : List (List Nat)) : normL 47 46 (s.foldl (jstep 47) root) = placeL root s := by
  rw [normL_place]
  unfold placeL
  rw [place_go root hr, List.foldr_reverse]
end Mine
namespace Mine
/-- reading on from a state -/
theorem PF_from (u0 : Nat) (n0 : List (List Nat)) : ∀ cs : List (List Nat), PF (u0, n0) cs = ((PF (0, []) cs).1 + (u0 - (PF (0, []) cs).2.length), (PF (0, []) cs).2.take ((PF (0, []) cs).2.length - u0) ++ n0)
  | [] => by simp [PF]
  | c :: cs => by
    rw [PF_cons, PF_cons, PF_from u0 n0 cs]
    generalize PF (0, []) cs = p
    by_cases h1 : c = [46, 46]
    · rw [pstep_dd h1, pstep_dd h1]
      simp only [Prod.mk.injEq, and_true]
      omega
    · by_cases h2 : c = [] ∨ c = [46]
      · rw [pstep_skip h1 h2, pstep_skip h1 h2]
      · by_cases h3 : 0 < p.1
        · rw [pstep_eat h1 h2 (show 0 < _ from by simp only; omega), pstep_eat h1 h2 h3]
          simp only [Prod.mk.injEq, and_true]
          omega
        · rw [pstep_name h1 h2 h3]
          by_cases h4 : u0 ≤ p.2.length
          · rw [pstep_name h1 h2 (by simp only; omega)]
            simp only [List.length_cons, Prod.mk.injEq]
            refine ⟨by omega, ?_⟩
            rw [show p.2.length + 1 - u0 = (p.2.length - u0) + 1 by omega, List.take_succ_cons, List.cons_append]
          · rw [pstep_eat h1 h2 (by simp only; omega)]
            simp only [List.length_cons, Prod.mk.injEq]
            refine ⟨by omega, ?_⟩
            rw [show p.2.length + 1 - u0 = 0 by omega, show p.2.length - u0 = 0 by omega]
            rfl
/-- a piece that is a name -/
def Proper (n : List Nat) : Prop := n ≠ [46, 46] ∧ n ≠ [] ∧ n ≠ [46] ∧ 47 ∉ n
theorem pstep_proper {st : Nat × List (List Nat)} {c : List Nat} (h : ∀ n ∈ st.2, Proper n) (hc : 47 ∉ c) : ∀ n ∈ (pstep st c).2, Proper n := by
  unfold pstep
  split
  · exact h
  · split
    · exact h
    · split
      · exact h
      · rename_i h1 h2 _
        intro n hn
        rcases List.mem_cons.mp hn with rfl | hn
        · exact ⟨h1, fun e => h2 (.inl e), fun e => h2 (.inr e), hc⟩
        · exact h n hn
theorem PF_proper : ∀ (cs : List (List Nat)) (st : Nat × List (List Nat)), (∀ n ∈ st.2, Proper n) → (∀ c ∈ cs, 47 ∉ c) → ∀ n ∈ (PF st cs).2, Proper n
  | [], _, h, _ => h
  | c :: cs, st, h, hc => by
    rw [PF_cons]
    exact pstep_proper (PF_proper cs st h fun x hx => hc x (.tail _ hx)) (hc c (.head _))
theorem prow_proper (x : List Nat) : ∀ n ∈ (prow (0, []) x).2, Proper n :=
  PF_proper _ _ (fun _ h => nomatch h) (cutL_free 47 x)
theorem PF_names : ∀ ns : List (List Nat), (∀ n ∈ ns, Proper n) → PF (0, []) ns = (0, ns)
  | [], _ => rfl
  | n :: ns, h => by
    rw [PF_cons, PF_names ns fun x hx => h x (.tail _ hx)]
    have hp := h n (.head _)
    exact pstep_name hp.1 (by rintro (e | e); exact hp.2.1 e; exact hp.2.2.1 e) (by simp)
theorem PF_dots (st : Nat × List (List Nat)) : ∀ k, PF st (DD k) = (st.1 + k, st.2)
  | 0 => rfl
  | k + 1 => by
    show PF st ([46, 46] :: DD k) = _
    rw [PF_cons, PF_dots st k, pstep_dd rfl]
    rfl
theorem cutL_one (c : Nat) : ∀ (p : List Nat), c ∉ p → cutL c p = [p]
  | [], _ => rfl
  | a :: p, hp => by
    have ha : a ≠ c := fun e => hp (by rw [e]; exact .head _)
    obtain ⟨q, qs, h1, h2⟩ := cutL_miss (c := c) p ha
    rw [cutL_one c p fun e => hp (.tail _ e)] at h1
    obtain ⟨e1, e2⟩ := List.cons.inj h1
    rw [h2, ← e1, ← e2]
theorem cutL_app (c : Nat) (a b : List Nat) : cutL c (a ++ c :: b) = cutL c a ++ cutL c b := by
  induction a with
  | nil => rw [List.nil_append, cutL_hit]; rfl
  | cons x a ih =>
    by_cases hx : x = c
    · subst hx
      rw [List.cons_append, cutL_hit, cutL_hit, ih, List.cons_append]
    · obtain ⟨p, ps, h1, h2⟩ := cutL_miss (c := c) a hx
      obtain ⟨q, qs, h3, h4⟩ := cutL_miss (c := c) (a ++ c :: b) hx
      rw [List.cons_append, h4, h2]
      rw [ih, h1, List.cons_append] at h3
      obtain ⟨e1, e2⟩ := List.cons.inj h3
      rw [← e1, ← e2, List.cons_append]
theorem cutL_joinC (c : Nat) : ∀ ps : List (List Nat), ps ≠ [] → (∀ p ∈ ps, c ∉ p) → cutL c (joinL [c] ps) = ps
  | [], h, _ => absurd rfl h
  | [p], _, h => by
    have e : joinL [c] [p] = p := by simp [joinL]
    rw [e]
    exact cutL_one c p (h p (.head _))
  | p :: q :: r, _, h => by
    rw [joinL_cons [c] p (by simp), List.append_assoc]
    show cutL c (p ++ c :: joinL [c] (q :: r)) = _
    rw [cutL_app, cutL_one c p (h p (.head _)), cutL_joinC c (q :: r) (by simp) fun x hx => h x (.tail _ hx)]
    rfl
theorem cutL_joinL (ps : List (List Nat)) (h : ps ≠ []) (hf : ∀ p ∈ ps, 47 ∉ p) : cutL 47 (joinL [47] ps) = ps := cutL_joinC 47 ps h hf
theorem prow_made (k : Nat) (ns : List (List Nat)) (h : ∀ n ∈ ns, Proper n) : prow (0, []) (joinL [47] (DD k ++ ns)) = (k, ns) := by
  by_cases he : DD k ++ ns = []
  · obtain ⟨h1, h2⟩ := List.append_eq_nil_iff.mp he
    have hk : k = 0 := by simpa [DD] using h1
    subst hk h2
    rfl
  · rw [prow_eq, cutL_joinL _ he, PF_append, PF_names ns h, PF_dots]
    · simp
    · intro p hp
      rcases List.mem_append.mp hp with hp | hp
      · rw [List.eq_of_mem_replicate hp]; decide
      · exact (h p hp).2.2.2
/-- no slash ahead of what is glued -/
theorem made_head (k : Nat) (ns : List (List Nat)) (h : ∀ n ∈ ns, Proper n) : ¬ (joinL [47] (DD k ++ ns)).take 1 = [47] := by
  cases k with
  | succ k =>
    show ¬ (([46, 46] : List Nat) ++ _).take 1 = [47]
    simp
  | zero =>
    cases ns with
    | nil => simp [joinL, DD]
    | cons n ns =>
      have hp := h n (.head _)
      show ¬ (n ++ _).take 1 = [47]
      cases n with
      | nil => exact absurd rfl hp.2.1
      | cons a n =>
        intro e
        have ha : a = 47 := by simpa using e
        exact hp.2.2.2 (by rw [ha]; exact .head _)
end Mine
namespace Mine
theorem rootL_cases (x : List Nat) : rootL 47 x = [] ∨ rootL 47 x = [47] ∨ rootL 47 x = [47, 47] := by
  by_cases h : x.take 1 = [47]
  · rw [rootL_lead h]
    unfold leadL
    split
    · exact .inr (.inr rfl)
    · exact .inr (.inl rfl)
  · exact .inl (rootL_no h)
theorem place_read {r : List Nat} (hr : r = [] ∨ r = [47] ∨ r = [47, 47]) (u : Nat) (ns : List (List Nat)) (h : ∀ n ∈ ns, Proper n) :
    prow (0, []) (placeEnd (r, (u, ns))) = (if r ≠ [] then 0 else u, ns) ∧ rootL 47 (placeEnd (r, (u, ns))) = r := by
  have hm := prow_made (if r ≠ [] then 0 else u) ns h
  have hh := made_head (if r ≠ [] then 0 else u) ns h
  have e : placeEnd (r, (u, ns)) = if r ++ joinL [47] (DD (if r ≠ [] then 0 else u) ++ ns) = [] then [46] else r ++ joinL [47] (DD (if r ≠ [] then 0 else u) ++ ns) := rfl
  rw [e]
  generalize hk : (if r ≠ [] then 0 else u) = k at *
  generalize hj : joinL [47] (DD k ++ ns) = j at *
  by_cases h0 : r ++ j = []
  · obtain ⟨h1, h2⟩ := List.append_eq_nil_iff.mp h0
    rw [if_pos h0]
    subst h1 h2
    refine ⟨?_, rfl⟩
    rw [← hm]
    rfl
  · rw [if_neg h0]
    rcases hr with rfl | rfl | rfl
    · exact ⟨hm, rootL_no hh⟩
    · refine ⟨(prow_slash _ j).trans hm, ?_⟩
      cases j with
      | nil => rfl
      | cons a j =>
        have ha : a ≠ 47 := fun e => hh (by rw [e]; rfl)
        simp [rootL, ha]
    · refine ⟨((prow_slash _ (47 :: j)).trans (prow_slash _ j)).trans hm, ?_⟩
      cases j with
      | nil => rfl
      | cons a j =>
        have ha : a ≠ 47 := fun e => hh (by rw [e]; rfl)
        simp [rootL, ha]
/-- from the place behind the rows, or from their join: one row more leads to the same place -/
theorem place_step (X c : List Nat) : normL 47 46 (jstep 47 (normL 47 46 X) c) = normL 47 46 (jstep 47 X c) := by
  by_cases hc : c.take 1 = [47]
  · rw [jstep_lead hc, jstep_lead hc]
  · have hp := prow_proper X
    have hrc := rootL_cases X
    rw [normL_place (jstep 47 (normL 47 46 X) c), normL_place (jstep 47 X c), rootL_join _ _ hc, rootL_join _ _ hc, prow_join _ _ _ hc, prow_join _ _ _ hc, normL_place X]
    generalize prow (0, []) c = st
    obtain ⟨u0, n0⟩ := st
    have hx : prow (u0, n0) X = _ := PF_from u0 n0 (cutL 47 X)
    have hy : prow (u0, n0) (placeEnd (rootL 47 X, prow (0, []) X)) = _ := PF_from u0 n0 (cutL 47 (placeEnd (rootL 47 X, prow (0, []) X)))
    rw [← prow_eq] at hx hy
    obtain ⟨k1, k2⟩ := place_read hrc (prow (0, []) X).1 (prow (0, []) X).2 hp
    have e : ((prow (0, []) X).1, (prow (0, []) X).2) = prow (0, []) X := rfl
    rw [e] at k1 k2
    rw [hy, hx, k2, k1]
    unfold placeEnd
    by_cases hr : rootL 47 X = []
    · rw [hr]; rfl
    · simp only [ne_eq, hr, not_false_eq_true, if_true]

theorem slashed_glue {a c : List Nat} (hc : ¬ c.take 1 = [47]) : jstep 47 a c = slashed a ++ c := by
  have hh : ¬ c.head? = some 47 := by
    intro h
    cases c with
    | nil => cases h
    | cons x y => exact hc (by rw [Option.some.inj h]; rfl)
  rcases List.eq_nil_or_concat a with rfl | ⟨b, x, rfl⟩
  · rw [jstep_new (.inr rfl)]; rfl
  · rw [List.concat_eq_append]
    have nor : ¬ (c.head? = some 47 ∨ b ++ [x] = []) := by rintro (h | h); exact hh h; simp at h
    have ed : (b ++ [x]).drop ((b ++ [x]).length - 1) = [x] := by simp
    by_cases hx : x = 47
    · subst hx
      rw [jstep_on nor (by simp), slashed_keep (by rw [ed]; exact .inr rfl)]
    · rw [jstep_sep nor (by simpa using hx), slashed_add (by rw [ed]; rintro (h | h); cases h; exact hx (by simpa using h))]
      simp
theorem slashed_twice (a b : List Nat) : slashed (slashed a ++ b) = slashed a ++ slashed b := by
  rcases List.eq_nil_or_concat b with rfl | ⟨c, x, rfl⟩
  · have e0 : slashed [] = [] := rfl
    rw [e0, List.append_nil]
    rcases List.eq_nil_or_concat a with rfl | ⟨c, x, rfl⟩
    · rfl
    · rw [List.concat_eq_append]
      have ed : (c ++ [x]).drop ((c ++ [x]).length - 1) = [x] := by simp
      by_cases hx : x = 47
      · have e1 : slashed (c ++ [x]) = c ++ [x] := slashed_keep (by rw [ed, hx]; exact .inr rfl)
        rw [e1, e1]
      · have e1 : slashed (c ++ [x]) = c ++ [x] ++ [47] := slashed_add (by rw [ed]; rintro (h | h); cases h; exact hx (by simpa using h))
        rw [e1]
        exact slashed_keep (.inr (by simp))
  · rw [List.concat_eq_append, ← List.append_assoc]
    have ed : ∀ d : List Nat, (d ++ [x]).drop ((d ++ [x]).length - 1) = [x] := fun d => by simp
    by_cases hx : x = 47
    · rw [slashed_keep (by rw [ed, hx]; exact .inr rfl), slashed_keep (c := c ++ [x]) (by rw [ed, hx]; exact .inr rfl), List.append_assoc]
    · rw [slashed_add (by rw [ed]; rintro (h | h); cases h; exact hx (by simpa using h)), slashed_add (c := c ++ [x]) (by rw [ed]; rintro (h | h); cases h; exact hx (by simpa using h))]
      simp
end Mine
namespace Mine
theorem joinL_nil_snoc (ps : List (List Nat)) (a : List Nat) : joinL [] (ps ++ [a]) = joinL [] ps ++ a := by
  rw [joinL_nil, joinL_nil]; simp
/-- what is glued of the rows but the last, and the last: the join -/
theorem whole_step (tail : List (List Nat)) (ht : tail ≠ []) (c : List Nat) : wholeL (tstep tail c) = jstep 47 (wholeL tail) c := by
  by_cases hc : c.take 1 = [47]
  · rw [tstep_new hc, jstep_lead hc]
    simp [wholeL, joinL]
  · rw [tstep_on hc, slashed_glue hc]
    rcases List.eq_nil_or_concat tail with h | ⟨t, a, h⟩
    · exact absurd h ht
    · rw [List.concat_eq_append] at h
      subst h
      have key : ∀ t : List (List Nat), slashed (joinL [] (t.map slashed)) = joinL [] (t.map slashed) := by
        intro t
        rw [joinL_nil]
        induction t with
        | nil => rfl
        | cons b t ih =>
          rw [List.map_cons, List.flatten_cons, slashed_twice, ih]
      have e1 : wholeL (t ++ [a]) = joinL [] (t.map slashed) ++ a := by simp [wholeL]
      have e2 : wholeL (t ++ [a] ++ [c]) = joinL [] (t.map slashed) ++ slashed a ++ c := by
        unfold wholeL
        rw [List.dropLast_concat, List.map_append, List.map_cons, List.map_nil, joinL_nil_snoc]
        simp
      rw [e1, e2]
      have e3 := slashed_twice [] (joinL [] (t.map slashed) ++ a)
      have h4 : slashed (joinL [] (t.map slashed) ++ a) = joinL [] (t.map slashed) ++ slashed a := by
        have := slashed_twice (joinL [] (t.map slashed)) a
        rw [key] at this
        exact this
      rw [h4]
end Mine
namespace Mine
theorem core_inv {root : List Nat} (hr : root = [] ∨ root = [47]) (k : Nat) : ∀ (n : Nat) (rows : List (List Nat)), rows.length = n →
    ∃ st, rows.foldl (dstep root k) ([], [], [root]) = st ∧ st.2.1 = rows.map (drow k) ∧ st.2.2 ≠ [] ∧ wholeL st.2.2 = (rows.map (drow k)).foldl (jstep 47) root ∧
      (rows.map (drow k)).foldl (gstep 47 46) [root] = root :: st.1 ∧ ((rows = [] ∧ st.1 = []) ∨ ∃ d, st.1 = d ++ [placeL root (rows.map (drow k))])
  | 0, rows, h => by
    have e := List.eq_nil_of_length_eq_zero h
    subst e
    refine ⟨_, rfl, rfl, by simp, ?_, rfl, .inl ⟨rfl, rfl⟩⟩
    simp [wholeL, joinL]
  | n + 1, rows, h => by
    rcases List.eq_nil_or_concat rows with e | ⟨pre, c, e⟩
    · subst e; cases h
    · rw [List.concat_eq_append] at e
      subst e
      obtain ⟨st, h1, h2, h3, h4, h5, h6⟩ := core_inv hr k n pre (by simpa using h)
      have hnew : (pre ++ [c]).map (drow k) = pre.map (drow k) ++ [drow k c] := by simp
      refine ⟨_, dfold_snoc root k h1, ?_, ?_, ?_, ?_, .inr ⟨st.1, ?_⟩⟩
      · rw [hnew]; show st.2.1 ++ [drow k c] = _; rw [h2]
      · show tstep st.2.2 (drow k c) ≠ []
        unfold tstep
        split <;> simp
      · show wholeL (tstep st.2.2 (drow k c)) = _
        rw [whole_step _ h3, h4, hnew, List.foldl_append]
        rfl
      · rw [hnew, List.foldl_append, h5]
        show gstep 47 46 (root :: st.1) (drow k c) = root :: (st.1 ++ [placeL root (st.2.1 ++ [drow k c])])
        unfold gstep
        rw [List.cons_append, h2]
        congr 3
        rw [← place_whole hr (pre.map (drow k) ++ [drow k c]), List.foldl_append]
        show _ = normL 47 46 (jstep 47 ((pre.map (drow k)).foldl (jstep 47) root) (drow k c))
        rcases h6 with ⟨e1, e2⟩ | ⟨d, e2⟩
        · subst e1
          rw [e2]
          rfl
        · rw [e2, ← place_step ((pre.map (drow k)).foldl (jstep 47) root), place_whole hr (pre.map (drow k))]
          have : (root :: (d ++ [placeL root (pre.map (drow k))])).getLast? = some (placeL root (pre.map (drow k))) := by
            rw [← List.cons_append, List.getLast?_concat]
          rw [this]
          rfl
      · rw [hnew]
        show st.1 ++ [placeL root (st.2.1 ++ [drow k c])] = _
        rw [h2]
/-- the readers' places are the ones that the rows tell -/
theorem core {root : List Nat} (hr : root = [] ∨ root = [47]) (k : Nat) (rows : List (List Nat)) (hne : rows ≠ []) : goneL 47 46 root (rows.map (drow k)) = dueL root rows k := by
  obtain ⟨st, h1, h2, h3, h4, h5, h6⟩ := core_inv hr k rows.length rows rfl
  unfold goneL dueL dueEnd
  rw [h1, h5, place_whole hr, h4]
  rcases h6 with ⟨e, _⟩ | ⟨d, e⟩
  · exact absurd e hne
  · rw [e]
    simp
end Mine
end
section
namespace Mine
/-- each line end one feed -/
def nlL : List Nat → List Nat
  | [] => []
  | [c] => if c = 10 ∨ c = 13 then [10] else [c]
  | c :: d :: r => if c = 13 then (if d = 10 then 10 :: nlL r else 10 :: nlL (d :: r)) else if c = 10 then 10 :: nlL (d :: r) else c :: nlL (d :: r)
def crlf (l : List Nat) : List Nat := joinL [13, 10] (cutL 10 l)
theorem crlf_nil : crlf [] = [] := rfl
theorem crlf_hit (r : List Nat) : crlf (10 :: r) = 13 :: 10 :: crlf r := by
  unfold crlf
  rw [cutL_hit, joinL_cons _ _ (cutL_ne 10 r)]
  rfl
theorem crlf_miss {c : Nat} (r : List Nat) (h : c ≠ 10) : crlf (c :: r) = c :: crlf r := by
  unfold crlf
  obtain ⟨p, ps, h1, h2⟩ := cutL_miss (c := 10) r h
  rw [h1, h2]
  rfl
theorem fix_crlf_nl : ∀ w : List Nat, fixL w = crlf (nlL w)
  | [] => rfl
  | [c] => by
    unfold fixL nlL
    split
    · rfl
    · rename_i h
      rw [crlf_miss [] (fun e => h (.inl e))]
      rfl
  | c :: d :: r => by
    unfold fixL nlL
    split
    · split
      · rw [crlf_hit, fix_crlf_nl r]
      · rw [crlf_hit, fix_crlf_nl (d :: r)]
    · split
      · rw [crlf_hit, fix_crlf_nl (d :: r)]
      · rename_i h
        rw [crlf_miss _ h, fix_crlf_nl (d :: r)]
theorem nl_free : ∀ w : List Nat, 13 ∉ nlL w
  | [] => by simp [nlL]
  | [c] => by
    unfold nlL
    split
    · simp
    · rename_i h
      simp only [List.mem_singleton]
      exact fun e => h (.inr e.symm)
  | c :: d :: r => by
    unfold nlL
    split
    · split
      · simpa using nl_free r
      · simpa using nl_free (d :: r)
    · rename_i h1
      split
      · simpa using nl_free (d :: r)
      · simp only [List.mem_cons, not_or]
        exact ⟨fun e => h1 e.symm, nl_free (d :: r)⟩
/-- no return stands: the rows' ends alone are made long -/
theorem fix_free : ∀ l : List Nat, 13 ∉ l → fixL l = crlf l
  | [], _ => rfl
  | [c], h => by
    unfold fixL
    split
    · rename_i h2
      rcases h2 with rfl | rfl
      · rfl
      · exact absurd (.head _) h
    · rename_i h2
      rw [crlf_miss [] (fun e => h2 (.inl e))]; rfl
  | c :: d :: r, h => by
    unfold fixL
    split
    · rename_i h2; subst h2; exact absurd (.head _) h
    · split
      · rename_i h2; subst h2; rw [crlf_hit, fix_free (d :: r) fun e => h (.tail _ e)]
      · rename_i h2; rw [crlf_miss _ h2, fix_free (d :: r) fun e => h (.tail _ e)]
/-- fixing what is fixed -/
theorem fix_fixed : ∀ l : List Nat, 13 ∉ l → fixL (crlf l) = crlf l
  | [], _ => rfl
  | c :: r, h => by
    have ih := fix_fixed r fun e => h (.tail _ e)
    by_cases hc : c = 10
    · subst hc
      rw [crlf_hit, fix_crlf, ih]
    · rw [crlf_miss r hc, fix_plain c _ hc (fun e => h (by rw [e]; exact .head _)), ih]
end Mine
namespace Mine
theorem dots_crlf : ∀ (l : List Nat) (b : Bool), dotsL 10 46 b (crlf l) = crlf (dotsL 10 46 b l)
  | [], b => by cases b <;> rfl
  | c :: r, b => by
    by_cases hc : c = 10
    · subst hc
      rw [crlf_hit]
      have e1 : dotsL 10 46 b (13 :: 10 :: crlf r) = 13 :: 10 :: dotsL 10 46 true (crlf r) := by simp [dotsL]
      have e2 : dotsL 10 46 b (10 :: r) = 10 :: dotsL 10 46 true r := by simp [dotsL]
      rw [e1, e2, crlf_hit, dots_crlf r true]
    · rw [crlf_miss r hc]
      by_cases hb : b = true ∧ c = 46
      · have e1 : ∀ x, dotsL 10 46 b (c :: x) = 46 :: 46 :: dotsL 10 46 false x := fun x => by simp [dotsL, hb]
        rw [e1, e1, crlf_miss _ (by decide), crlf_miss _ (by decide), dots_crlf r false]
      · have e1 : ∀ x, dotsL 10 46 b (c :: x) = c :: dotsL 10 46 false x := fun x => by
          rw [dotsL, if_neg hb]; simp [hc]
        rw [e1, e1, crlf_miss _ hc, dots_crlf r false]
theorem dots_free : ∀ (l : List Nat) (b : Bool), 13 ∉ l → 13 ∉ dotsL 10 46 b l
  | [], b, _ => by cases b <;> simp [dotsL]
  | c :: r, b, h => by
    have ih := fun b => dots_free r b fun e => h (.tail _ e)
    have hc : 13 ≠ c := fun e => h (by rw [e]; exact .head _)
    unfold dotsL
    split
    · simp only [List.mem_cons, not_or]
      exact ⟨by decide, by decide, ih _⟩
    · simp only [List.mem_cons, not_or]
      exact ⟨hc, ih _⟩
/-- the rows behind the dots -/
theorem dots_cut : ∀ (l : List Nat) (b : Bool), ∃ p ps, cutL 10 l = p :: ps ∧ cutL 10 (dotsL 10 46 b l) = (if b = true then drow 1 p else p) :: ps.map (drow 1)
  | [], b => ⟨[], [], rfl, by cases b <;> rfl⟩
  | c :: r, b => by
    by_cases hc : c = 10
    · subst hc
      obtain ⟨p, ps, h1, h2⟩ := dots_cut r true
      refine ⟨[], cutL 10 r, cutL_hit 10 r, ?_⟩
      have e2 : dotsL 10 46 b (10 :: r) = 10 :: dotsL 10 46 true r := by simp [dotsL]
      rw [e2, cutL_hit, h2, h1]
      have e3 : drow 1 [] = [] := rfl
      cases b <;> simp [e3]
    · obtain ⟨p, ps, h1, h2⟩ := dots_cut r false
      simp only [Bool.false_eq_true, if_false] at h2
      obtain ⟨p', ps', h3, h4⟩ := cutL_miss (c := 10) r hc
      rw [h1] at h3
      obtain ⟨rfl, rfl⟩ := List.cons.inj h3
      refine ⟨c :: p, ps, h4, ?_⟩
      by_cases hb : b = true ∧ c = 46
      · have e1 : dotsL 10 46 b (c :: r) = 46 :: 46 :: dotsL 10 46 false r := by simp [dotsL, hb]
        obtain ⟨q, qs, h5, h6⟩ := cutL_miss (c := 10) (a := 46) (dotsL 10 46 false r) (by decide)
        obtain ⟨q', qs', h7, h8⟩ := cutL_miss (c := 10) (a := 46) (46 :: dotsL 10 46 false r) (by decide)
        rw [h2] at h5
        obtain ⟨rfl, rfl⟩ := List.cons.inj h5
        rw [h6] at h7
        obtain ⟨rfl, rfl⟩ := List.cons.inj h7
        rw [e1, h8, hb.1, hb.2, if_pos rfl, drow_dot (k := 1) (row := 46 :: p) rfl]
        rfl
      · have e1 : dotsL 10 46 b (c :: r) = c :: dotsL 10 46 false r := by rw [dotsL, if_neg hb]; simp [hc]
        obtain ⟨q, qs, h5, h6⟩ := cutL_miss (c := 10) (dotsL 10 46 false r) hc
        rw [h2] at h5
        obtain ⟨rfl, rfl⟩ := List.cons.inj h5
        rw [e1, h6]
        by_cases hb1 : b = true
        · have h46 : c ≠ 46 := fun e => hb ⟨hb1, e⟩
          rw [if_pos hb1, drow_no (row := c :: p) (by simpa using h46)]
        · rw [if_neg hb1]
theorem dots_rows (l : List Nat) : cutL 10 (dotsL 10 46 true l) = (cutL 10 l).map (drow 1) := by
  obtain ⟨p, ps, h1, h2⟩ := dots_cut l true
  rw [h2, h1, if_pos rfl]
  rfl
theorem drow_zero (r : List Nat) : drow 0 r = r := by
  unfold drow
  split
  · rfl
  · rfl
theorem drow_two (r : List Nat) : drow 1 (drow 1 r) = drow 2 r := by
  by_cases h : r.take 1 = [46]
  · rw [drow_dot h, drow_dot (k := 2) h, drow_dot rfl]
    rfl
  · rw [drow_no h, drow_no h, drow_no h]
def dotsN : Nat → List Nat → List Nat
  | 0, l => l
  | k + 1, l => dotsL 10 46 true (dotsN k l)
theorem dotsN_rows {k : Nat} (hk : k ≤ 2) (l : List Nat) : cutL 10 (dotsN k l) = (cutL 10 l).map (drow k) := by
  match k, hk with
  | 0, _ =>
    have : drow 0 = id := funext drow_zero
    rw [this, List.map_id]; rfl
  | 1, _ => exact dots_rows l
  | 2, _ =>
    show cutL 10 (dotsL 10 46 true (dotsL 10 46 true l)) = _
    rw [dots_rows, dots_rows, List.map_map]
    exact congrArg (fun f => (cutL 10 l).map f) (funext drow_two)
/-- the law for texts -/
theorem law_text {root : List Nat} (hr : root = [] ∨ root = [47]) {k : Nat} (hk : k ≤ 2) (n : List Nat) : goneL 47 46 root (cutL 10 (dotsN k n)) = dueL root (cutL 10 n) k := by
  rw [dotsN_rows hk]
  exact core hr k _ (cutL_ne 10 n)
theorem mail_one (w : List Nat) : dotsL 10 46 true (fixL w) = crlf (dotsN 1 (nlL w)) := by rw [fix_crlf_nl, dots_crlf]; rfl
theorem mail_two (w : List Nat) : dotsL 10 46 true (fixL (dotsL 10 46 true (fixL w))) = crlf (dotsN 2 (nlL w)) := by
  rw [mail_one w]; show dotsL 10 46 true (fixL (crlf (dotsL 10 46 true (nlL w)))) = _; rw [fix_fixed _ (dots_free _ _ (nl_free w)), dots_crlf]; rfl
end Mine
end
section
namespace Mine
section
variable {α β : Type} [DecidableEq α] [DecidableEq β] (g : α → β) (hg : ∀ a b, g a = g b → a = b)
include hg
theorem mapG_inj : ∀ {x y : List α}, x.map g = y.map g → x = y
  | [], [], _ => rfl
  | [], _ :: _, h => by cases h
  | _ :: _, [], h => by cases h
  | a :: x, b :: y, h => by
    rw [List.map_cons, List.map_cons] at h
    obtain ⟨h1, h2⟩ := List.cons.inj h
    rw [hg a b h1, mapG_inj h2]
theorem eqG {x y : List α} : x.map g = y.map g ↔ x = y := ⟨mapG_inj g hg, fun e => by rw [e]⟩
theorem cutG (c : α) : ∀ x : List α, cutL (g c) (x.map g) = (cutL c x).map (·.map g)
  | [] => rfl
  | a :: x => by
    by_cases h : a = c
    · subst h
      rw [List.map_cons, cutL_hit, cutL_hit, cutG a x]; rfl
    · obtain ⟨p, ps, h1, h2⟩ := cutL_miss x h
      obtain ⟨q, qs, h3, h4⟩ := cutL_miss (c := g c) (x.map g) (fun e => h (hg _ _ e))
      rw [cutG c x, h1, List.map_cons] at h3
      obtain ⟨e1, e2⟩ := List.cons.inj h3
      rw [List.map_cons, h4, h2, ← e1, ← e2]; rfl
theorem rootG (sl : α) (x : List α) : rootL (g sl) (x.map g) = (rootL sl x).map g := by
  have e1 : ((x.map g).take 1 = [g sl]) ↔ x.take 1 = [sl] := by rw [← List.map_take]; exact eqG g hg (y := [sl])
  have e2 : (((x.map g).drop 1).take 1 = [g sl]) ↔ (x.drop 1).take 1 = [sl] := by rw [← List.map_drop, ← List.map_take]; exact eqG g hg (y := [sl])
  have e3 : (((x.map g).drop 2).take 1 = [g sl]) ↔ (x.drop 2).take 1 = [sl] := by rw [← List.map_drop, ← List.map_take]; exact eqG g hg (y := [sl])
  unfold rootL
  simp only [ne_eq, e1, e2, e3]
  split
  · rfl
  · split
    · rfl
    · split
      · rfl
      · rw [List.map_take]
theorem tailG (sl : α) (x : List α) : tailL (g sl) (x.map g) = (tailL sl x).map g := by
  have e1 : ((x.map g).take 1 = [g sl]) ↔ x.take 1 = [sl] := by rw [← List.map_take]; exact eqG g hg (y := [sl])
  have e2 : (((x.map g).drop 1).take 1 = [g sl]) ↔ (x.drop 1).take 1 = [sl] := by rw [← List.map_drop, ← List.map_take]; exact eqG g hg (y := [sl])
  have e3 : (((x.map g).drop 2).take 1 = [g sl]) ↔ (x.drop 2).take 1 = [sl] := by rw [← List.map_drop, ← List.map_take]; exact eqG g hg (y := [sl])
  unfold tailL
  simp only [ne_eq, e1, e2, e3]
  split
  · rfl
  · split
    · rw [List.map_drop]
    · split
      · rw [List.map_drop]
      · rw [List.map_drop]
omit hg [DecidableEq α] [DecidableEq β] in
theorem joinG (s : List α) (ps : List (List α)) : joinL (s.map g) (ps.map (·.map g)) = (joinL s ps).map g := by
  cases ps with
  | nil => rfl
  | cons a ps =>
    show a.map g ++ (ps.map (·.map g)).flatMap (fun p => s.map g ++ p) = (a ++ ps.flatMap fun p => s ++ p).map g
    rw [List.map_append]
    congr 1
    induction ps with
    | nil => rfl
    | cons b ps ih => rw [List.map_cons, List.flatMap_cons, ih, List.flatMap_cons, List.map_append, List.map_append]
theorem nstepG (dt : α) (root : List α) (acc : List (List α)) (c : List α) : nstep (g dt) (root.map g) (acc.map (·.map g)) (c.map g) = (nstep dt root acc c).map (·.map g) := by
  have e0 : c.map g = [] ↔ c = [] := by simp
  have e1 : c.map g = [g dt] ↔ c = [dt] := eqG g hg (y := [dt])
  have e2 : c.map g = [g dt, g dt] ↔ c = [dt, dt] := eqG g hg (y := [dt, dt])
  have e3 : root.map g = [] ↔ root = [] := by simp
  have e4 : acc.map (·.map g) = [] ↔ acc = [] := by simp
  have e5 : (acc.map (·.map g)).getLast? = some [g dt, g dt] ↔ acc.getLast? = some [dt, dt] := by
    rw [List.getLast?_map]
    cases acc.getLast? with
    | none => simp
    | some d =>
      show some (d.map g) = some [g dt, g dt] ↔ some d = some [dt, dt]
      rw [Option.some.injEq, Option.some.injEq]
      exact eqG g hg (y := [dt, dt])
  unfold nstep
  simp only [ne_eq, e0, e1, e2, e3, e4, e5]
  split
  · rfl
  · split
    · simp
    · rw [List.map_dropLast]
theorem nfoldG (dt : α) (root : List α) : ∀ (cs acc : List (List α)), (cs.map (·.map g)).foldl (nstep (g dt) (root.map g)) (acc.map (·.map g)) = (cs.foldl (nstep dt root) acc).map (·.map g)
  | [], _ => rfl
  | c :: cs, acc => by
    rw [List.map_cons, List.foldl_cons, List.foldl_cons, nstepG g hg, nfoldG dt root cs]
theorem normG (sl dt : α) (x : List α) : normL (g sl) (g dt) (x.map g) = (normL sl dt x).map g := by
  have key : rootL (g sl) (x.map g) ++ joinL [g sl] ((cutL (g sl) (tailL (g sl) (x.map g))).foldl (nstep (g dt) (rootL (g sl) (x.map g))) []) = (rootL sl x ++ joinL [sl] ((cutL sl (tailL sl x)).foldl (nstep dt (rootL sl x)) [])).map g := by
    rw [rootG g hg, tailG g hg, cutG g hg, List.map_append]
    have := nfoldG g hg dt (rootL sl x) (cutL sl (tailL sl x)) []
    rw [List.map_nil] at this
    rw [this]
    exact congrArg _ (joinG g [sl] _)
  unfold normL
  rw [key]
  have e0 : x.map g = [] ↔ x = [] := by simp
  have e1 : ∀ y : List α, y.map g = [] ↔ y = [] := fun y => by simp
  simp only [e0, e1]
  split
  · rfl
  · split <;> rfl
theorem jstepG (sl : α) (a c : List α) : jstep (g sl) (a.map g) (c.map g) = (jstep sl a c).map g := by
  have e1 : (c.map g).head? = some (g sl) ↔ c.head? = some sl := by
    cases c with
    | nil => simp
    | cons x y => simp only [List.map_cons, List.head?_cons, Option.some.injEq]; exact ⟨hg _ _, fun e => by rw [e]⟩
  have e2 : (a.map g).getLast? = some (g sl) ↔ a.getLast? = some sl := by
    rw [List.getLast?_map]
    cases a.getLast? with
    | none => simp
    | some d => simp only [Option.map_some, Option.some.injEq]; exact ⟨hg _ _, fun e => by rw [e]⟩
  have e3 : a.map g = [] ↔ a = [] := by simp
  unfold jstep
  simp only [e1, e2, e3]
  split
  · rfl
  · split
    · rw [List.map_append]
    · rw [List.map_append, List.map_cons]
theorem jfoldG (sl : α) : ∀ (cs : List (List α)) (a : List α), (cs.map (·.map g)).foldl (jstep (g sl)) (a.map g) = (cs.foldl (jstep sl) a).map g
  | [], _ => rfl
  | c :: cs, a => by rw [List.map_cons, List.foldl_cons, List.foldl_cons, jstepG g hg, jfoldG sl cs]
theorem gfoldG (sl dt : α) : ∀ (cs acc : List (List α)), (cs.map (·.map g)).foldl (gstep (g sl) (g dt)) (acc.map (·.map g)) = (cs.foldl (gstep sl dt) acc).map (·.map g)
  | [], _ => rfl
  | c :: cs, acc => by
    rw [List.map_cons, List.foldl_cons, List.foldl_cons]
    have e : gstep (g sl) (g dt) (acc.map (·.map g)) (c.map g) = (gstep sl dt acc c).map (·.map g) := by
      unfold gstep
      have h : ((acc.map (·.map g)).getLast?.getD []) = (acc.getLast?.getD []).map g := by
        rw [List.getLast?_map]
        cases acc.getLast? <;> rfl
      rw [h, jstepG g hg, normG g hg, List.map_append]
      rfl
    rw [e, gfoldG sl dt cs]
theorem goneG (sl dt : α) (root : List α) (cs : List (List α)) : goneL (g sl) (g dt) (root.map g) (cs.map (·.map g)) = (goneL sl dt root cs).map (·.map g) := by
  unfold goneL
  have h := gfoldG g hg sl dt cs [root]
  rw [List.map_cons, List.map_nil] at h
  rw [h, jfoldG g hg, normG g hg, List.map_append, List.map_drop]
  rfl
theorem dotsG (nl dt : α) : ∀ (x : List α) (b : Bool), dotsL (g nl) (g dt) b (x.map g) = (dotsL nl dt b x).map g
  | [], b => by cases b <;> rfl
  | c :: x, b => by
    have e1 : g c = g dt ↔ c = dt := ⟨hg _ _, fun e => by rw [e]⟩
    have e2 : decide (g c = g nl) = decide (c = nl) := by
      by_cases h : c = nl
      · rw [h]; simp
      · rw [decide_eq_false h, decide_eq_false fun e => h (hg _ _ e)]
    rw [List.map_cons]
    unfold dotsL
    simp only [e1, e2]
    split
    · rw [dotsG nl dt x]; rfl
    · rw [dotsG nl dt x]; rfl
end
end Mine
namespace Mine
abbrev octs (l : List Nat) : List UInt8 := l.map UInt8.ofNat
theorem octs_back {w : List Nat} (h : ∀ c ∈ w, c < 256) : (octs w).map UInt8.toNat = w := by
  rw [octs, List.map_map]
  have : ∀ c ∈ w, (UInt8.toNat ∘ UInt8.ofNat) c = c := fun c hc => by
    show c % 256 = c
    exact Nat.mod_eq_of_lt (h c hc)
  rw [List.map_congr_left this]
  exact List.map_id' w
theorem nat_inj (a b : UInt8) (h : a.toNat = b.toNat) : a = b := UInt8.toNat_inj.mp h
def dotsB : Nat → List UInt8 → List UInt8
  | 0, l => l
  | k + 1, l => dotsL 10 46 true (dotsB k l)
theorem dotsB_nat (k : Nat) (l : List UInt8) : (dotsB k l).map UInt8.toNat = dotsN k (l.map UInt8.toNat) := by
  induction k with
  | zero => rfl
  | succ k ih =>
    show (dotsL 10 46 true (dotsB k l)).map UInt8.toNat = dotsL 10 46 true (dotsN k (l.map UInt8.toNat))
    rw [← ih]
    exact (dotsG UInt8.toNat nat_inj 10 46 (dotsB k l) true).symm
theorem octs_of (x : List UInt8) : octs (x.map UInt8.toNat) = x := by
  rw [octs, List.map_map]
  have : (UInt8.ofNat ∘ UInt8.toNat) = id := funext fun x => by simp
  rw [this, List.map_id]
/-- the law for octets -/
theorem law_octets {root : List Nat} (hr : root = [] ∨ root = [47]) {k : Nat} (hk : k ≤ 2) {w : List Nat} (hb : ∀ c ∈ w, c < 256) :
    goneL 47 46 (octs root) (cutL 10 (dotsB k (octs w))) = (dueL root (cutL 10 w) k).map octs := by
  have hroot : (octs root).map UInt8.toNat = root := by rcases hr with rfl | rfl <;> rfl
  have h := goneG UInt8.toNat nat_inj 47 46 (octs root) (cutL 10 (dotsB k (octs w)))
  rw [hroot, ← cutG UInt8.toNat nat_inj 10, dotsB_nat, octs_back hb] at h
  have h2 : goneL 47 46 root (cutL 10 (dotsN k w)) = dueL root (cutL 10 w) k := law_text hr hk w
  have h3 : (goneL 47 46 (octs root) (cutL 10 (dotsB k (octs w)))).map (·.map UInt8.toNat) = dueL root (cutL 10 w) k := h.symm.trans h2
  rw [← h3, List.map_map]
  have : (octs ∘ fun (x : List UInt8) => x.map UInt8.toNat) = id := funext octs_of
  rw [this, List.map_id]
end Mine
end
section
open PySem PySem.W PyProof.Rows PySem.Calls PySem.Builtin PySem.Builtin.Str
namespace Mine
section
open StrLaws
variable {L : List Nat} {c : Nat} {r : List Nat}
/-- the separator starts nowhere in the piece -/
def Lone (sep p : List Nat) : Prop := ∀ i, i < p.length → ((p ++ sep).drop i).take sep.length ≠ sep
theorem parts_lone (f : Nat) : ∀ (rows : List (List Nat)) (a : Nat) (cuts : List Nat), rows ≠ [] → (∀ p ∈ rows, Lone (c :: r) p) → L.drop a = joinL (c :: r) rows → ChainG ⟨L.toArray⟩ ⟨(c :: r).toArray⟩ L.length a cuts f → (∀ k, f ≤ k → ¬ At ⟨L.toArray⟩ ⟨(c :: r).toArray⟩ L.length k) →
    partsFrom ⟨L.toArray⟩ (r.length + 1) a cuts = rows.map fun p => ⟨p.toArray⟩
  | [], _, _, h, _, _, _, _ => absurd rfl h
  | [p], a, cuts, _, hf, hd, hC, hn => by
    have hd' : L.drop a = p := by rw [hd]; simp [joinL]
    have no : ∀ k, a ≤ k → ¬ At ⟨L.toArray⟩ ⟨(c :: r).toArray⟩ L.length k := by
      intro k hk hA
      rw [at_S] at hA
      have e : L.drop k = p.drop (k - a) := by rw [← hd', List.drop_drop]; congr 1; omega
      rw [e] at hA
      have hl := congrArg List.length hA
      simp only [List.length_take, List.length_drop, List.length_cons] at hl
      have hi : k - a < p.length := by omega
      refine hf p (.head _) (k - a) hi ?_
      rw [List.drop_append_of_le_length (by omega), List.take_append_of_le_length (by rw [List.length_drop, List.length_cons]; omega)]
      exact hA
    cases cuts with
    | nil =>
      show [strSub ⟨L.toArray⟩ a (⟨L.toArray⟩ : PySem.Str).length] = _
      rw [sub_S, len_S, hd', List.take_of_length_le]
      · rfl
      · rw [← hd']; simp
    | cons d cs => exact absurd hC.2.1 (no d hC.1)
  | p :: q :: rest, a, cuts, _, hf, hd, hC, hn => by
    have hd' : L.drop a = p ++ (c :: r) ++ joinL (c :: r) (q :: rest) := by rw [hd, joinL_cons _ _ (by simp)]
    have hyes : At ⟨L.toArray⟩ ⟨(c :: r).toArray⟩ L.length (a + p.length) := by
      rw [at_S, ← List.drop_drop, hd', List.append_assoc, List.drop_left, List.take_left']
      simp
    have no : ∀ k, a ≤ k → k < a + p.length → ¬ At ⟨L.toArray⟩ ⟨(c :: r).toArray⟩ L.length k := by
      intro k hk hk2 hA
      rw [at_S] at hA
      have e : L.drop k = (p ++ (c :: r)).drop (k - a) ++ joinL (c :: r) (q :: rest) := by
        have : L.drop k = (L.drop a).drop (k - a) := by rw [List.drop_drop]; congr 1; omega
        rw [this, hd', List.drop_append_of_le_length (by rw [List.length_append]; omega)]
      rw [e, List.take_append_of_le_length (by rw [List.length_drop, List.length_append, List.length_cons]; omega)] at hA
      exact hf p (.head _) (k - a) (by omega) hA
    cases cuts with
    | nil =>
      have e : f = a := hC
      exact absurd hyes (hn _ (by omega))
    | cons d cs =>
      obtain ⟨c1, c2, c3, c4⟩ := hC
      have ed : d = a + p.length := by
        rcases Nat.lt_trichotomy d (a + p.length) with h | h | h
        · exact absurd c2 (no d c1 h)
        · exact h
        · exact absurd hyes (c3 _ (by omega) h)
      subst ed
      have ih := parts_lone f (q :: rest) (a + p.length + (r.length + 1)) cs (by simp) (fun p' hp' => hf p' (.tail _ hp')) ?_ ?_ hn
      · show strSub ⟨L.toArray⟩ a (a + p.length) :: partsFrom ⟨L.toArray⟩ (r.length + 1) (a + p.length + (r.length + 1)) cs = _
        rw [ih, sub_S, hd']
        have e : a + p.length - a = p.length := by omega
        rw [e, List.append_assoc, List.take_left]
        rfl
      · have e : L.drop (a + p.length + (r.length + 1)) = (L.drop a).drop (p.length + (r.length + 1)) := by rw [List.drop_drop]; congr 1; omega
        rw [e, hd', List.drop_left']
        simp
      · have e : (⟨(c :: r).toArray⟩ : PySem.Str).length = r.length + 1 := by rw [len_S]; rfl
        rw [e] at c4
        exact c4
theorem replace_lone {rows : List (List Nat)} {z : List Nat} (hne : rows ≠ []) (hf : ∀ p ∈ rows, Lone (c :: r) p) (hL : L = joinL (c :: r) rows) :
    Txt.replace ⟨L.toArray⟩ ⟨(c :: r).toArray⟩ ⟨z.toArray⟩ = ⟨(joinL z rows).toArray⟩ := by
  have hw : (⟨(c :: r).toArray⟩ : PySem.Str).length = r.length + 1 := by rw [len_S]; rfl
  obtain ⟨f, hG, hn⟩ := occ_tight ⟨L.toArray⟩ ⟨(c :: r).toArray⟩ (by rw [hw]; omega)
  rw [len_S] at hG hn
  have key := parts_lone (L := L) f rows 0 _ hne hf (by rw [List.drop_zero, hL]) hG hn
  unfold Txt.replace
  rw [len_S]
  have h10 : ((⟨(c :: r).toArray⟩ : PySem.Str).length == 0) = false := by rw [hw]; rfl
  rw [h10, Bool.false_and, Bool.or_false]
  split
  · rename_i he
    rw [List.isEmpty_iff.mp he] at key
    have hk : [strSub ⟨L.toArray⟩ 0 L.length] = rows.map fun p => (⟨p.toArray⟩ : PySem.Str) := by
      rw [← key]
      show _ = [strSub ⟨L.toArray⟩ 0 (⟨L.toArray⟩ : PySem.Str).length]
      rw [len_S]
    cases rows with
    | nil => exact absurd rfl hne
    | cons p rest =>
      cases rest with
      | nil =>
        rw [hL]
        simp [joinL]
      | cons q rest => simp at hk
  · rw [glued_eq_join, partsBetween_eq, hw, key]
    first | exact txt_join z rows | (have h := txt_join z rows; unfold Txt.join at h; simpa [glued_eq_join] using h)
end
end Mine
end
section
namespace Mine
/-- cut at a return with its feed -/
def cutW : List Nat → List (List Nat)
  | [] => [[]]
  | [c] => [[c]]
  | c :: d :: r => if c = 13 ∧ d = 10 then [] :: cutW r else match cutW (d :: r) with
    | [] => [[c]]
    | p :: ps => (c :: p) :: ps
theorem cutW_ne : ∀ w, cutW w ≠ []
  | [] => by simp [cutW]
  | [c] => by simp [cutW]
  | c :: d :: r => by
    unfold cutW
    split
    · simp
    · split <;> simp
theorem cutW_hit (r : List Nat) : cutW (13 :: 10 :: r) = [] :: cutW r := by simp [cutW]
theorem cutW_miss {c d : Nat} (r : List Nat) (h : ¬ (c = 13 ∧ d = 10)) : ∃ p ps, cutW (d :: r) = p :: ps ∧ cutW (c :: d :: r) = (c :: p) :: ps := by
  rw [cutW, if_neg h]
  cases e : cutW (d :: r) with
  | nil => exact absurd e (cutW_ne _)
  | cons p ps => exact ⟨p, ps, rfl, rfl⟩
theorem joinL_head (s : List Nat) (c : Nat) (p : List Nat) (ps : List (List Nat)) : joinL s ((c :: p) :: ps) = c :: joinL s (p :: ps) := rfl
theorem joinW : ∀ w, joinL [13, 10] (cutW w) = w
  | [] => rfl
  | [c] => by simp [cutW, joinL]
  | c :: d :: r => by
    by_cases h : c = 13 ∧ d = 10
    · obtain ⟨rfl, rfl⟩ := h
      rw [cutW_hit, joinL_cons _ _ (cutW_ne r), joinW r]; rfl
    · obtain ⟨p, ps, h1, h2⟩ := cutW_miss r h
      rw [h2, joinL_head, ← h1, joinW (d :: r)]
end Mine
namespace Mine
theorem cutW_first {d : Nat} {r : List Nat} {p : List Nat} {ps : List (List Nat)} (e : cutW (d :: r) = p :: ps) : p = [] ∨ ∃ t, p = d :: t := by
  cases r with
  | nil =>
    have e : [[d]] = p :: ps := e
    exact .inr ⟨[], (List.cons.inj e).1.symm⟩
  | cons x r =>
    by_cases h : d = 13 ∧ x = 10
    · obtain ⟨rfl, rfl⟩ := h
      rw [cutW_hit] at e
      exact .inl (List.cons.inj e).1.symm
    · obtain ⟨q, qs, _, h2⟩ := cutW_miss r h
      rw [h2] at e
      exact .inr ⟨q, (List.cons.inj e).1.symm⟩
theorem lone_nil (sep : List Nat) : Lone sep [] := fun i h => absurd h (Nat.not_lt_zero _)
theorem lone_cons {c : Nat} {p : List Nat} (h0 : ((c :: p ++ [13, 10]) : List Nat).take 2 ≠ [13, 10]) (h : Lone [13, 10] p) : Lone [13, 10] (c :: p) := by
  intro i hi
  cases i with
  | zero => exact h0
  | succ i => exact h i (by simpa using hi)
theorem loneW : ∀ w, ∀ p ∈ cutW w, Lone [13, 10] p
  | [], p, h => by
    rw [List.mem_singleton.mp h]; exact lone_nil _
  | [c], p, h => by
    rw [List.mem_singleton.mp h]
    exact lone_cons (by simp) (lone_nil _)
  | c :: d :: r, p, h => by
    by_cases hc : c = 13 ∧ d = 10
    · obtain ⟨rfl, rfl⟩ := hc
      rw [cutW_hit] at h
      rcases List.mem_cons.mp h with rfl | h
      · exact lone_nil _
      · exact loneW r p h
    · obtain ⟨q, qs, h1, h2⟩ := cutW_miss r hc
      have ih := loneW (d :: r)
      rw [h1] at ih
      rw [h2] at h
      rcases List.mem_cons.mp h with rfl | h
      · refine lone_cons ?_ (ih q (.head _))
        rcases cutW_first h1 with rfl | ⟨t, rfl⟩
        · simp
        · intro e
          have e : [c, d] = [13, 10] := e
          simp at e
          exact hc e
      · exact ih p (.tail _ h)
/-- the first replacing, then the second -/
def lf1 (w : List Nat) : List Nat := joinL [10] (cutW w)
theorem joinC (c : Nat) (x : List Nat) : joinL [10] (cutL 13 (c :: x)) = (if c = 13 then 10 else c) :: joinL [10] (cutL 13 x) := by
  by_cases h : c = 13
  · subst h
    rw [cutL_hit, joinL_cons _ _ (cutL_ne 13 x), if_pos rfl]; rfl
  · obtain ⟨p, ps, h1, h2⟩ := cutL_miss (c := 13) x h
    rw [h2, h1, if_neg h]; rfl
theorem lf_nl : ∀ w, joinL [10] (cutL 13 (lf1 w)) = nlL w
  | [] => rfl
  | [c] => by
    show joinL [10] (cutL 13 [c]) = _
    rw [joinC]
    show [if c = 13 then 10 else c] = nlL [c]
    unfold nlL
    by_cases h : c = 13
    · rw [if_pos h, if_pos (.inr h)]
    · by_cases h2 : c = 10
      · rw [if_neg h, if_pos (.inl h2), h2]
      · rw [if_neg h, if_neg (by rintro (e | e); exact h2 e; exact h e)]
  | c :: d :: r => by
    by_cases hc : c = 13 ∧ d = 10
    · obtain ⟨rfl, rfl⟩ := hc
      have e : lf1 (13 :: 10 :: r) = 10 :: lf1 r := by
        unfold lf1
        rw [cutW_hit, joinL_cons _ _ (cutW_ne r)]; rfl
      rw [e, joinC, lf_nl r]
      simp [nlL]
    · obtain ⟨p, ps, h1, h2⟩ := cutW_miss r hc
      have e : lf1 (c :: d :: r) = c :: lf1 (d :: r) := by
        unfold lf1
        rw [h2, h1, joinL_head]
      rw [e, joinC, lf_nl (d :: r)]
      by_cases h : c = 13
      · have hd : ¬ d = 10 := fun e => hc ⟨h, e⟩
        subst h
        rw [nlL, if_pos rfl, if_pos rfl, if_neg hd]
      · rw [nlL, if_neg h, if_neg h]
        by_cases h10 : c = 10
        · rw [if_pos h10, h10]
        · rw [if_neg h10]
open PySem in
theorem replaces (w : List Nat) : Txt.replace (Txt.replace ⟨w.toArray⟩ ⟨[13, 10].toArray⟩ ⟨[10].toArray⟩) ⟨[13].toArray⟩ ⟨[10].toArray⟩ = ⟨(nlL w).toArray⟩ := by
  rw [replace_lone (cutW_ne w) (loneW w) (joinW w).symm]
  show Txt.replace ⟨(lf1 w).toArray⟩ _ _ = _
  rw [replace_lone (c := 13) (r := []) (cutL_ne 13 (lf1 w)) (fun p hp i hi e => ?_) (joinL_cutL 13 (lf1 w)).symm, lf_nl]
  have hf := cutL_free 13 (lf1 w) p hp
  rw [List.drop_append_of_le_length (by omega), List.drop_eq_getElem_cons hi] at e
  have e : p[i] = 13 := by
    rw [List.cons_append] at e
    exact (List.cons.inj e).1
  exact hf (e ▸ List.getElem_mem hi)
end Mine
end
section
namespace Mine
theorem nl_length : ∀ w : List Nat, (nlL w).length ≤ w.length
  | [] => Nat.le_refl _
  | [c] => by unfold nlL; split <;> simp
  | c :: d :: r => by
    have h1 := nl_length r
    have h2 := nl_length (d :: r)
    unfold nlL
    split
    · split
      · simp only [List.length_cons]; omega
      · simp only [List.length_cons] at h2 ⊢; omega
    · split
      · simp only [List.length_cons] at h2 ⊢; omega
      · simp only [List.length_cons] at h2 ⊢; omega
theorem dotsN_length {k : Nat} (hk : k ≤ 2) (l : List Nat) : (dotsN k l).length ≤ 4 * l.length := by
  match k, hk with
  | 0, _ => show l.length ≤ _; omega
  | 1, _ => have := dotsL_length 10 46 true l; show (dotsL 10 46 true l).length ≤ _; omega
  | 2, _ => have h1 := dotsL_length 10 46 true l; have h2 := dotsL_length 10 46 true (dotsL 10 46 true l); show (dotsL 10 46 true (dotsL 10 46 true l)).length ≤ _; omega
theorem dotsB_length {k : Nat} (hk : k ≤ 2) (l : List UInt8) : (dotsB k l).length ≤ 4 * l.length := by
  match k, hk with
  | 0, _ => show l.length ≤ _; omega
  | 1, _ => have := dotsL_length (10 : UInt8) 46 true l; show (dotsL 10 46 true l).length ≤ _; omega
  | 2, _ => have h1 := dotsL_length (10 : UInt8) 46 true l; have h2 := dotsL_length (10 : UInt8) 46 true (dotsL 10 46 true l); show (dotsL 10 46 true (dotsL 10 46 true l)).length ≤ _; omega
theorem gfold_all {α : Type} [DecidableEq α] (sl dt : α) : ∀ (cs acc : List (List α)) (M : Nat), (∀ x ∈ acc, x.length ≤ M) → ∀ x ∈ cs.foldl (gstep sl dt) acc, x.length ≤ M + (cs.map (·.length)).sum + 2 * cs.length
  | [], acc, M, h, x, hx => by have := h x hx; omega
  | c :: cs, acc, M, h, x, hx => by
    have hl : (acc.getLast?.getD []).length ≤ M := by
      cases e : acc.getLast? with
      | none => exact Nat.zero_le _
      | some y => exact h y (List.mem_of_getLast? e)
    have h4 := normL_size sl dt (jstep sl (acc.getLast?.getD []) c)
    have h5 := jstep_length sl (acc.getLast?.getD []) c
    have ih := gfold_all sl dt cs (gstep sl dt acc c) (M + c.length + 2) (fun y hy => by
      unfold gstep at hy
      rcases List.mem_append.mp hy with hy | hy
      · have := h y hy; omega
      · rw [List.mem_singleton.mp hy]; omega) x hx
    rw [List.map_cons, List.sum_cons, List.length_cons]
    omega
theorem gone_all {α : Type} [DecidableEq α] (sl dt : α) (root : List α) (cs : List (List α)) : ∀ x ∈ goneL sl dt root cs, x.length ≤ root.length + (cs.map (·.length)).sum + 2 * cs.length + 2 := by
  intro x hx
  have h1 := gfold_all sl dt cs [root] root.length (fun y hy => by rw [List.mem_singleton.mp hy]; exact Nat.le_refl _)
  have h2 := jfold_length sl cs root
  have h3 := normL_size sl dt (cs.foldl (jstep sl) root)
  unfold goneL at hx
  rcases List.mem_append.mp hx with hx | hx
  · have := h1 x (List.mem_of_mem_drop hx); omega
  · rcases List.mem_cons.mp hx with rfl | hx
    · omega
    · rw [List.mem_singleton.mp hx]; omega
section
variable {root : List Nat} (hr : root = [] ∨ root = [47]) {k : Nat} (hk : k ≤ 2) {w : List Nat}
include hr hk
/-- the places told are no longer than this -/
theorem due_size (hw : w.length ≤ 30) : ∀ x ∈ dueL root (cutL 10 w) k, x.length ≤ 1000 := by
  intro x hx
  rw [← law_text hr hk w] at hx
  have h1 := gone_all 47 46 root _ x hx
  have h2 := cutL_length_sum 10 (dotsN k w)
  have h3 := dotsN_length hk w
  have h4 : root.length ≤ 1 := by rcases hr with rfl | rfl <;> simp
  omega
/-- and all signs below 256 -/
theorem due_signs (hb : ∀ c ∈ w, c < 256) : ∀ x ∈ dueL root (cutL 10 w) k, ∀ c ∈ x, c < 256 := by
  intro x hx c hc
  have hroot : (octs root).map UInt8.toNat = root := by rcases hr with rfl | rfl <;> rfl
  have h := goneG UInt8.toNat nat_inj 47 46 (octs root) (cutL 10 (dotsB k (octs w)))
  rw [hroot, ← cutG UInt8.toNat nat_inj 10, dotsB_nat, octs_back hb] at h
  have h2 : goneL 47 46 root (cutL 10 (dotsN k w)) = dueL root (cutL 10 w) k := law_text hr hk w
  have h3 : (goneL 47 46 (octs root) (cutL 10 (dotsB k (octs w)))).map (·.map UInt8.toNat) = dueL root (cutL 10 w) k := h.symm.trans h2
  rw [← h3] at hx
  obtain ⟨y, _, rfl⟩ := List.mem_map.mp hx
  obtain ⟨b, _, rfl⟩ := List.mem_map.mp hc
  exact b.toNat_lt
/-- room for the readers -/
theorem gone_room (hw : w.length ≤ 30) : root.length + ((cutL 10 (dotsN k w)).map (·.length)).sum + 2 * (cutL 10 (dotsN k w)).length ≤ 500 := by
  have h2 := cutL_length_sum 10 (dotsN k w)
  have h3 := dotsN_length hk w
  have h4 : root.length ≤ 1 := by rcases hr with rfl | rfl <;> simp
  omega
theorem gone_roomB {b : List UInt8} (hw : b.length ≤ 30) : (octs root).length + ((cutL 10 (dotsB k b)).map (·.length)).sum + 2 * (cutL 10 (dotsB k b)).length ≤ 500 := by
  have h2 := cutL_length_sum 10 (dotsB k b)
  have h3 := dotsB_length hk b
  have h4 : (octs root).length ≤ 1 := by rcases hr with rfl | rfl <;> simp
  omega
omit hk in
theorem due_room (hw : w.length ≤ 30) : root.length + ((cutL 10 w).map (·.length)).sum + 3 * (cutL 10 w).length ≤ 97 := by
  have h2 := cutL_length_sum 10 w
  have h4 : root.length ≤ 1 := by rcases hr with rfl | rfl <;> simp
  omega
end
/-- the three mails -/
def mailL (w : List Nat) (k : Nat) : List Nat := crlf (dotsN k (nlL w))
theorem mail_free {w : List Nat} {k : Nat} (hk : k ≤ 2) : ∀ p ∈ cutL 10 (dotsN k (nlL w)), 13 ∉ p := by
  have h13 : 13 ∉ dotsN k (nlL w) := by
    match k, hk with
    | 0, _ => exact nl_free w
    | 1, _ => exact dots_free _ _ (nl_free w)
    | 2, _ => exact dots_free _ _ (dots_free _ _ (nl_free w))
  intro p hp h
  have e := joinL_cutL 10 (dotsN k (nlL w))
  refine h13 ?_
  rw [← e]
  generalize cutL 10 (dotsN k (nlL w)) = ps at hp
  clear e h13
  induction ps with
  | nil => cases hp
  | cons q qs ih =>
    cases qs with
    | nil => rw [List.mem_singleton.mp hp] at h; simpa [joinL] using h
    | cons q2 qs =>
      rw [joinL_cons _ _ (by simp)]
      rcases List.mem_cons.mp hp with rfl | hp
      · exact List.mem_append_left _ (List.mem_append_left _ h)
      · exact List.mem_append_right _ (ih hp)
theorem mail_length {w : List Nat} {k : Nat} (hk : k ≤ 2) (hw : w.length ≤ 30) : (mailL w k).length ≤ 10000 := by
  have h1 := nl_length w
  have h3 := dotsN_length hk (nlL w)
  have h2 := cutL_length_sum 10 (dotsN k (nlL w))
  have h4 := joinL_length [13, 10] (cutL 10 (dotsN k (nlL w)))
  simp only [List.length_cons, List.length_nil] at h4
  unfold mailL crlf
  omega
theorem mail_0 (w : List Nat) : fixL w = mailL w 0 := fix_crlf_nl w
theorem mail_1 (w : List Nat) : dotsL 10 46 true (fixL w) = mailL w 1 := mail_one w
theorem mail_2 (w : List Nat) : dotsL 10 46 true (fixL (dotsL 10 46 true (fixL w))) = mailL w 2 := mail_two w
end Mine
end
section
open PySem PySem.W PyProof.Rows PySem.Calls PyProof.V
namespace Mine
set_option maxRecDepth 100000
theorem All2.two {α β : Type} {R : α → β → Prop} : ∀ {vs us : List α} {cs : List β}, All2 R vs cs → All2 R us cs → ∀ (j : Nat) (h1 : j < vs.length) (h2 : j < us.length), ∃ c, R vs[j] c ∧ R us[j] c
  | _, _, _, .nil, .nil, _, h, _ => absurd h (Nat.not_lt_zero _)
  | _, _, _, .cons a _, .cons b _, 0, _, _ => ⟨_, a, b⟩
  | _, _, _, .cons _ p, .cons _ q, j + 1, h1, h2 => All2.two p q j (by simpa using h1) (by simpa using h2)
section
variable {prog : Program} {w : World} {A : Around} {E : Value → Shared → Prop} {s : Shared} {a b : Addr} {n k : Nat} {vs us : List Value} {Q : Value → Shared → Prop}
theorem ne_same {γ : Type} {Item : Value → γ → Prop} {cs : List γ} (hI : ∀ (A : Around) (s : Shared) (v u : Value) (c : γ), Item v c → Item u c → SeqAt.EqAt A s v u true) (ha : s.heap.get? a = some (lstObj vs n)) (hb : s.heap.get? b = some (lstObj us k))
    (hv : All2 Item vs cs) (hu : All2 Item us cs) (hr : A.units < cLine) (h : Q (.bool false) s) : wpAny (model prog w) A (compareOp .NotEq (.ref a) (.ref b)) Q E s := by
  have key := SeqAt.RcNeAt.lists (A := A) (e := fun _ => true) (isList_lst ha) (isList_lst hb) (by simp [hv.length, hu.length]) hr (fun j h1 h2 => ?_)
  · refine key prog w E Q ?_
    have e : (!(List.range vs.toArray.size).all fun _ => true) = false := by simp
    rw [e]
    exact h
  · obtain ⟨c, p, q⟩ := All2.two hv hu j (by simpa using h1) (by simpa using h2)
    exact hI _ _ _ _ c (by simpa using p) (by simpa using q)
theorem eqS (A : Around) (s : Shared) (v u : Value) (c : List Nat) (h1 : SItem v c) (h2 : SItem u c) : SeqAt.EqAt A s v u true := by
  obtain ⟨t, rfl⟩ := h1
  obtain ⟨t', rfl⟩ := h2
  intro prog w E Q h
  refine PyProof.Rows.eqBool_str ?_
  simpa using h
theorem eqB (A : Around) (s : Shared) (v u : Value) (c : List UInt8) (h1 : BItem v c) (h2 : BItem u c) : SeqAt.EqAt A s v u true := by
  obtain ⟨t, rfl⟩ := h1
  obtain ⟨t', rfl⟩ := h2
  intro prog w E Q h
  refine PySem.W.eqBool_bytes ?_
  simpa using h
end
section
variable {prog : Program} {w : World} {A : Around} {E : Value → Shared → Prop} {s : Shared} {env : Env} {h₀ : Heap} {x : Str} {body : List Stmt} {Q : Flow → Shared → Prop}
/-- where a turn comes to that changes one letter alone and keeps what is made -/
def TurnK (h₀ : Heap) (L : Addr) (x z : Str) (news own : List (Addr × Obj)) (m₀ : Str → Option Value) (s₁ : Shared) (Q : Flow → Shared → Prop) (f : Flow) (s₂ : Shared) : Prop :=
  match f with
  | .ret v => Q (.ret v) s₂
  | .brk => Q .next s₂
  | _ => ∃ h' tk m' n₂, s₂ = { s₁ with heap := h', toks := tk } ∧ Fr h₀ L h' m' ∧ News h₀ L h' n₂ ∧ (∀ p ∈ news ++ own, p ∈ n₂) ∧ ∀ y, y ≠ x → y ≠ z → m' y = m₀ y
theorem TurnK.next {L : Addr} {z : Str} {news own n₂ : List (Addr × Obj)} {m₀ m' : Str → Option Value} {s₁ : Shared} {h' : Heap} {tk : Nat}
    (F : Fr h₀ L h' m') (N : News h₀ L h' n₂) (hs : ∀ p ∈ news ++ own, p ∈ n₂) (hm : ∀ y, y ≠ x → y ≠ z → m' y = m₀ y) : TurnK h₀ L x z news own m₀ s₁ Q .next { s₁ with heap := h', toks := tk } :=
  ⟨h', tk, m', n₂, rfl, F, N, hs, hm⟩
/-- a loop over a range that changes one letter alone -/
theorem iter_turns {r : Addr} {b₀ : Int} {t₀ u₀ v₀ : Tok} {n : Nat} {m₀ : Str → Option Value} {news : List (Addr × Obj)} (z : Str)
    (hh : A.handled = none) (hr : IsRange s.heap r 0 b₀ 1 t₀ u₀ v₀) (hsmall : Builtin.Range.small 0 b₀ 1 = true) (hn : Builtin.Range.rangeSize 0 b₀ 1 = (n : Int)) (F : Fr h₀ env.locals s.heap m₀) (N : News h₀ env.locals s.heap news)
    (turn : ∀ (i : Nat) t (u : Option Value) h tk own, i < n → Fr h₀ env.locals h (fun y => if y = x then some (.int (i : Nat) t) else if y = z then u else m₀ y) → News h₀ env.locals h (news ++ own) →
      wpAny (model prog w) A (execs body env) (TurnK h₀ env.locals x z news own m₀ { s with heap := h, toks := tk } Q) E { s with heap := h, toks := tk })
    (done : ∀ (u v : Option Value) h tk, Fr h₀ env.locals h (fun y => if y = x then v else if y = z then u else m₀ y) → News h₀ env.locals h news → Q .next { s with heap := h, toks := tk }) :
    wpAny (model prog w) A (pyIter (.ref r)) (fun it s₂ => LoopAtV prog w A h₀ env x body Q E it s₂) E s := by
  have mp : ∀ {m₁ : Str → Option Value} (v : Option Value), (∀ y, y ≠ x → y ≠ z → m₁ y = m₀ y) → (fun y => if y = x then v else m₁ y) = fun y => if y = x then v else if y = z then m₁ z else m₀ y := by
    intro m₁ v h
    funext y
    by_cases q : y = x
    · simp [q]
    · by_cases q2 : y = z
      · subst q2; simp [q]
      · simp [q, q2, h y q q2]
  refine kpr_invN (fun _ m nx => nx = news ∧ ∀ y, y ≠ x → y ≠ z → m y = m₀ y) hh hr hsmall hn F N ⟨rfl, fun _ _ _ => rfl⟩ ?_ ?_
  · rintro i k t m₁ nx h tk own hk ho ⟨rfl, hm⟩ F' N'
    have hi : i < n ∧ k = (i : Int) := by
      have h1 := (List.getElem?_eq_some_iff.mp hk).1
      rw [rangeKs_length] at h1
      refine ⟨h1, ?_⟩
      have : (rangeKs 0 n)[i]? = some (0 + (i : Int)) := by simp [rangeKs, h1]
      rw [this] at hk
      have := Option.some.inj hk
      omega
    obtain ⟨hi, rfl⟩ := hi
    rw [mp _ hm] at F'
    refine wpAny_mono (turn i t _ h tk own hi F' N') (fun f s₂ q => ?_) fun _ _ e => e
    have fin : (∃ h' tk' m' n₂, s₂ = { ({ s with heap := h, toks := tk } : Shared) with heap := h', toks := tk' } ∧ Fr h₀ env.locals h' m' ∧ News h₀ env.locals h' n₂ ∧ (∀ p ∈ nx ++ own, p ∈ n₂) ∧ ∀ y, y ≠ x → y ≠ z → m' y = m₀ y) →
        InvEndN h₀ env.locals (fun m nx' => nx' = nx ∧ ∀ y, y ≠ x → y ≠ z → m y = m₀ y) own (nx.map (·.1)) { s with heap := h, toks := tk } s₂ := by
      rintro ⟨h', tk', m', n₂, rfl, F2, N2, hs, hm2⟩
      exact InvEndN.intro F2 N2 ⟨rfl, hm2⟩ rfl (fun p hp => hs p (List.mem_append_left _ hp)) (fun p hp => hs p (List.mem_append_right _ hp))
    cases f with
    | ret v => exact q
    | brk => exact q
    | next => exact fin q
    | cont => exact fin q
  · rintro m₁ nx h tk ⟨rfl, hm⟩ F' N'
    refine done (m₁ z) (m₁ x) h tk ?_ N'
    have := mp (m₁ x) hm
    rw [← this]
    have e : (fun y => if y = x then m₁ x else m₁ y) = m₁ := by
      funext y
      by_cases q : y = x
      · simp [q]
      · simp [q]
    rw [e]
    exact F'
end
end Mine
namespace Mine
def Signs (n : Nat) (cs : List (List Nat)) : Prop := cs.length = n ∧ ∀ c ∈ cs, c.length ≤ 3 ∧ ∀ x ∈ c, x < 256
abbrev GotSigns (n : Nat) (ys : List Value) : Prop := ∃ cs, All2 SItem ys cs ∧ Signs n cs
theorem lit_a : Str.ofString "a" = ⟨[97].toArray⟩ := by decide +kernel
theorem lit_sdd : Str.ofString "/.." = ⟨[47, 46, 46].toArray⟩ := by decide +kernel
abbrev Sign (v : Value) : Prop := ∃ c, SItem v c ∧ c.length ≤ 3 ∧ ∀ x ∈ c, x < 256
theorem sign_lit {x : Str} {t : Tok} {c : List Nat} (e : x = ⟨c.toArray⟩) (h1 : c.length ≤ 3) (h2 : ∀ x ∈ c, x < 256) : Sign (.str x t) := ⟨c, ⟨t, by rw [e]⟩, h1, h2⟩
theorem sign_chr {j : Int} {t : Tok} : Sign (.str ⟨#[(j.fmod 256).toNat]⟩ t) := ⟨[(j.fmod 256).toNat], ⟨t, rfl⟩, by simp, fun x hx => by
  rw [List.mem_singleton.mp hx]
  have h1 := Int.fmod_lt_of_pos j (show (0 : Int) < 256 by omega)
  have h2 := Int.fmod_nonneg_of_pos j (show (0 : Int) < 256 by omega)
  omega⟩
theorem all8 {P : Value → Prop} {a b c d e f g h : Value} (ha : P a) (hb : P b) (hc : P c) (hd : P d) (he : P e) (hf : P f) (hg : P g) (hh : P h) : ∀ v ∈ [a, b, c, d, e, f, g, h], P v := by
  intro v hv
  simp only [List.mem_cons, List.not_mem_nil, or_false] at hv
  rcases hv with rfl | rfl | rfl | rfl | rfl | rfl | rfl | rfl <;> assumption
theorem menu_S {prog : Program} {w : World} {A : Around} {E : Value → Shared → Prop} {s : Shared} {h₀ : Heap} {L D : Addr} {news : List (Addr × Obj)} {vs : List Value} {n : Nat} {value slice : PySem.Expr} {j : Int} {u : Tok} {Q : Value → Shared → Prop} {P : Value → Prop} (N : News h₀ L s.heap news) (hm : (D, listOf vs.toArray n) ∈ news)
    (h0 : 0 ≤ j) (h1 : j < vs.length) (hz : vs.length ≤ 1000) (hall : ∀ v ∈ vs, P v) (h : ∀ v, P v → Q v s)
    (hs : subscripted slice false (.ref D) (.int j u) = operate [.ref D, .int j u] (getItem (.ref D) (.int j u)) := by with_unfolding_all rfl) :
    wpAny (model prog w) A (subscriptTail value slice (.ref D) (.int j u)) Q E s := by
  have hl := isList_lst (N _ hm).1
  have hj : j.toNat < vs.length := by omega
  exact tail_any hl.typeIs slot_list_getitem.lookup (wpAny_getItem_list hl h0 (by omega) (by simp [hj]) (h _ (hall _ (List.getElem_mem hj)))) hs
end Mine
namespace Mine
theorem star_plain {e : PySem.Expr} {rest : List PySem.Expr} {env : Env} (h : ∀ x p, e ≠ .Starred x p) : starEach (e :: rest) env = (false, eval e env) :: starEach rest env := by
  cases e <;> first | exact absurd rfl (h _ _) | rw [starEach] <;> (intros; contradiction)
def plainE : PySem.Expr → Bool
  | .Starred _ _ => false
  | _ => true
theorem spliced_plain {M : Model} {A : Around} {E : Value → Shared → Prop} {s : Shared} {e : PySem.Expr} {rest : List PySem.Expr} {env : Env} {pos : Pos} {Q : List Value → Shared → Prop} (hp : plainE e = true)
    (h : wpAny M A (eval e env) (fun v s₁ => wpAny M A (spliced (backTo pos (starEach rest env))) (fun vs s₂ => Q (v :: vs) s₂) E s₁) E s) : wpAny M A (spliced (backTo pos (starEach (e :: rest) env))) Q E s :=
  args_cons h (star_plain fun x p q => by rw [q] at hp; cases hp)
end Mine
namespace Mine
theorem callWith_m1 {M : Model} {A : Around} {E : Value → Shared → Prop} {s : Shared} {e : PySem.Expr} {env : Env} {pos : Pos} {id : String} {f : Value} {first : List Value} {Q : Value → Shared → Prop} (hp : plainE e = true)
    (h : wpAny M A (spliced (backTo pos (starEach [e] env))) (fun vs s₁ => wpAny M A (call (.builtin id) (f :: first ++ vs)) Q E s₁) E s) :
    wpAny M A (callWith pos (.builtin id) (f :: first) (backTo pos (starEach [e] env)) []) Q E s :=
  callWith_method1 h (star_plain fun x p q => by rw [q] at hp; cases hp) rfl
end Mine
namespace Mine
/-- where the walk stands still -/
def Stop (p : Prop) : Prop := p
theorem Stop.mk {p : Prop} (h : Stop p) : p := h
end Mine
end
section
open PySem PySem.W PyProof.Rows PySem.Calls PyProof.V PySem.Builtin PySem.Builtin.Str
namespace Mine
set_option maxRecDepth 100000
section
variable {prog : Program} {w : World} {A : Around} {E : Value → Shared → Prop} {s : Shared} {t u v : Tok} {Q : Value → Shared → Prop}
/-- what a join makes, and that the counter does not fall -/
theorem made_join {sep : PySem.Str} (l : List (PySem.Str × Tok)) (hfit : (Txt.join sep (l.map (·.1))).length ≤ sizeLine) (h : ∀ t' k, s.toks ≤ k → Q (.str (Txt.join sep (l.map (·.1))) t') { s with toks := k }) : (joinMade sep l).post Q s := by
  match l, hfit, h with
  | [], hfit, h => exact ⟨hfit, h _ _ (Nat.le_succ _)⟩
  | [p], _, h => exact h p.2 s.toks (Nat.le_refl _)
  | _ :: _ :: _, hfit, h => exact ⟨hfit, h _ _ (Nat.le_succ _)⟩
theorem join_signs {y : PySem.Str} {D : Addr} {vs : List Value} {cs : List (List Nat)} {n : Nat} {W : List Nat} (hy : y = ⟨([] : List Nat).toArray⟩) (hl : s.heap.get? D = some (lstObj vs n)) (hv : All2 SItem vs cs) (e : joinL [] cs = W) (hz : (cs.map (·.length)).sum ≤ 1000)
    (h : ∀ t' k, s.toks ≤ k → Q (.str ⟨W.toArray⟩ t') { s with toks := k }) : wpAny (model prog w) A (call (.builtin "str.join") [.str y t, .ref D]) Q E s := by
  subst hy e
  obtain ⟨l, hv2, ht⟩ := strsAre_values (strsOf hv)
  have hok : JoinOk ⟨([] : List Nat).toArray⟩ (cs.map fun c => (⟨c.toArray⟩ : PySem.Str)) = true := by
    refine joinOk_of ?_
    have e1 : ((cs.map fun c => (⟨c.toArray⟩ : PySem.Str)).map (·.length)) = cs.map (·.length) := by
      rw [List.map_map]
      exact List.map_congr_left fun a _ => List.size_toArray
    rw [e1, len_S]
    simp only [List.length_nil, Nat.mul_zero]
    omega
  rw [← ht] at hok
  unfold JoinOk at hok
  rw [Bool.not_eq_true'] at hok
  refine call_meets F.slot_str_join (typeIs_str _ _ _) F.entry_str_join (F.args_str_join_2 _ _) (meets_str_join_list _ t D l hok) ⟨?_, made_join l (joinFit_length hok) fun t' k hk => ?_⟩
  · have := isList_lst hl
    rw [hv2] at this
    exact this
  · rw [ht, txt_join]
    exact h t' k hk
theorem replace_t {x y z : PySem.Str} (hu : u ≠ 0) (hv : v ≠ 0) (huv : u ≠ v) (hyz : (y == z) = false) (hb : x.length + (x.length + 1) * z.length ≤ 16777216)
    (h : ∀ t' k, s.toks ≤ k → Q (.str (Txt.replace x y z) t') { s with toks := k }) : wpAny (model prog w) A (call (.builtin "str.replace") [.str x t, .str y u, .str z v]) Q E s := by
  have hl : tooLong (x.length + (occurrences x y 0 x.length (x.length + 1)).length * z.length) = false := by
    have h1 := StrLaws.occ_length_le x y 0 x.length (x.length + 1)
    have h2 : (occurrences x y 0 x.length (x.length + 1)).length * z.length ≤ (x.length + 1) * z.length := Nat.mul_le_mul_right _ h1
    have e : (2 : Nat) ^ 24 = 16777216 := by decide
    unfold tooLong sizeLine
    exact decide_eq_false (by omega)
  refine call_gives F.slot_str_replace (typeIs_str _ _ _) F.entry_str_replace (F.args_str_replace_3 _ _ _) (gives_str_replace x y z t u v fun _ => ⟨by simp [hu, hv], by simp [huv], hyz, hl⟩) ?_
  have h' := h
  unfold Txt.replace at h'
  cases hc : ((occurrences x y 0 x.length (x.length + 1)).isEmpty || (y.length == 0 && z.length == 0)) <;> rw [hc] at h'
  · simp only [Bool.false_eq_true, if_false] at h' ⊢
    exact ⟨fits_replaced y hb, h' _ _ (Nat.le_succ _)⟩
  · simp only [if_true] at h' ⊢
    exact h' t s.toks (Nat.le_refl _)
theorem replace_1 {W : List Nat} {y z : PySem.Str} (hy : y = ⟨[13, 10].toArray⟩) (hz : z = ⟨[10].toArray⟩) (hu : u ≠ 0) (hv : v ≠ 0) (huv : u ≠ v) (hw : W.length ≤ 30)
    (h : ∀ t' k, s.toks ≤ k → Q (.str ⟨(lf1 W).toArray⟩ t') { s with toks := k }) : wpAny (model prog w) A (call (.builtin "str.replace") [.str ⟨W.toArray⟩ t, .str y u, .str z v]) Q E s := by
  subst hy hz
  refine replace_t hu hv huv (by decide) (by rw [len_S, len_S]; simp only [List.length_cons, List.length_nil]; omega) fun t' k hk => ?_
  rw [replace_lone (cutW_ne W) (loneW W) (joinW W).symm]
  exact h t' k hk
theorem lf1_length (W : List Nat) : (lf1 W).length ≤ W.length := by
  have h1 : ∀ w : List Nat, (joinL [10] (cutW w)).length ≤ w.length := by
    intro w
    have key : ∀ n, ∀ w : List Nat, w.length ≤ n → (joinL [10] (cutW w)).length ≤ w.length := by
      intro n
      induction n with
      | zero =>
        intro w hw
        have : w = [] := List.eq_nil_of_length_eq_zero (by omega)
        subst this
        simp [cutW, joinL]
      | succ n ih =>
        intro w hw
        match w, hw with
        | [], _ => simp [cutW, joinL]
        | [c], _ => simp [cutW, joinL]
        | c :: d :: r, hw =>
          simp only [List.length_cons] at hw
          by_cases h : c = 13 ∧ d = 10
          · obtain ⟨rfl, rfl⟩ := h
            have := ih r (by omega)
            rw [cutW_hit, joinL_cons _ _ (cutW_ne r)]
            simp only [List.nil_append, List.length_append, List.length_cons, List.length_nil]
            omega
          · obtain ⟨p, ps, e1, e2⟩ := cutW_miss r h
            have := ih (d :: r) (by simp only [List.length_cons]; omega)
            rw [e1] at this
            rw [e2, joinL_head]
            simp only [List.length_cons] at this ⊢
            omega
    exact key _ w (Nat.le_refl _)
  exact h1 W
theorem replace_2 {W : List Nat} {y z : PySem.Str} (hy : y = ⟨[13].toArray⟩) (hz : z = ⟨[10].toArray⟩) (hu : u ≠ 0) (hv : v ≠ 0) (huv : u ≠ v) (hw : W.length ≤ 30)
    (h : ∀ t' k, s.toks ≤ k → Q (.str ⟨(nlL W).toArray⟩ t') { s with toks := k }) : wpAny (model prog w) A (call (.builtin "str.replace") [.str ⟨(lf1 W).toArray⟩ t, .str y u, .str z v]) Q E s := by
  subst hy hz
  have hl := lf1_length W
  refine replace_t hu hv huv (by decide) (by rw [len_S, len_S]; simp only [List.length_cons, List.length_nil]; omega) fun t' k hk => ?_
  have e := replaces W
  rw [replace_lone (cutW_ne W) (loneW W) (joinW W).symm] at e
  have e2 : Txt.replace ⟨(lf1 W).toArray⟩ ⟨[13].toArray⟩ ⟨[10].toArray⟩ = ⟨(nlL W).toArray⟩ := e
  rw [e2]
  exact h t' k hk
end
/-- the signs joined -/
theorem signs_small {n : Nat} {cs : List (List Nat)} (h : Signs n cs) (hn : n ≤ 10) : (cs.map (·.length)).sum ≤ 30 ∧ (joinL [] cs).length ≤ 30 ∧ ∀ c ∈ joinL [] cs, c < 256 := by
  have h1 : ∀ cs : List (List Nat), (∀ c ∈ cs, c.length ≤ 3) → (cs.map (·.length)).sum ≤ 3 * cs.length := by
    intro cs
    induction cs with
    | nil => intro _; simp
    | cons a r ih =>
      intro h
      have h1 := h a (.head _)
      have h2 := ih fun c hc => h c (.tail _ hc)
      simp only [List.map_cons, List.sum_cons, List.length_cons]
      omega
  have h2 := h1 cs fun c hc => (h.2 c hc).1
  have h3 := joinL_length [] cs
  have h4 := h.1
  simp only [List.length_nil, Nat.mul_zero] at h3
  refine ⟨by omega, by omega, ?_⟩
  intro c hc
  rw [joinL_nil] at hc
  obtain ⟨p, hp, hcp⟩ := List.mem_flatten.mp hc
  exact (h.2 p hp).2 c hcp
end Mine
end
section
open PySem PySem.W PyProof.Rows PySem.Calls PyProof.V
namespace Mine
set_option maxRecDepth 100000
section
variable {prog : Program} {w : World} {A : Around} {E : Value → Shared → Prop} {s : Shared} {h₀ : Heap} {L D : Addr} {m : Str → Option Value} {news : List (Addr × Obj)} {n : Nat} {vs : List Value} {value slice : PySem.Expr} {t u : Tok} {Q : Value → Shared → Prop}
theorem pick_L {γ : Type} {Item : Value → γ → Prop} {f : Nat → γ} {i : Nat} (N : News h₀ L s.heap news) (hm : (D, listOf vs.toArray n) ∈ news) (hv : All2 Item vs (([0, 1, 2] : List Nat).map f)) (hi : i ≤ 2) (h : ∀ v, Item v (f i) → Q v s)
    (hs : subscripted slice false (.ref D) (.int (i : Nat) u) = operate [.ref D, .int (i : Nat) u] (getItem (.ref D) (.int (i : Nat) u)) := by with_unfolding_all rfl) :
    wpAny (model prog w) A (subscriptTail value slice (.ref D) (.int (i : Nat) u)) Q E s := by
  have hl := isList_lst (N _ hm).1
  cases hv with
  | cons h0 hv => cases hv with
    | cons h1 hv => cases hv with
      | cons h2 hv => cases hv with
        | nil =>
          match i, hi with
          | 0, _ => exact tail_any hl.typeIs slot_list_getitem.lookup (wpAny_getItem_list hl (by omega) (by omega) (by rfl) (h _ h0)) hs
          | 1, _ => exact tail_any hl.typeIs slot_list_getitem.lookup (wpAny_getItem_list hl (by omega) (by omega) (by rfl) (h _ h1)) hs
          | 2, _ => exact tail_any hl.typeIs slot_list_getitem.lookup (wpAny_getItem_list hl (by omega) (by omega) (by rfl) (h _ h2)) hs
theorem split_crlf {W : List Nat} {k : Nat} {y : Str} (F : Fr h₀ L s.heap m) (N : News h₀ L s.heap news) (hy : y = ⟨[13, 10].toArray⟩) (hk : k ≤ 2) (hw : W.length ≤ 30)
    (h : ∀ D vs h' tk, All2 SItem vs (cutL 10 (dotsN k (nlL W))) → Fr h₀ L h' m → News h₀ L h' ((D, PySem.W.listOf vs.toArray 0) :: news) → (∀ p ∈ news, p.1 < D) → Q (.ref D) { s with heap := h', toks := tk }) :
    wpAny (model prog w) A (call (.builtin "str.split") [.str ⟨(mailL W k).toArray⟩ t, .str y u]) Q E s :=
  split_S F N hy rfl (by decide) (by have := mail_length hk hw; omega) rfl (cutL_ne 10 _) (mail_free hk) h
theorem split_feed {l : List Nat} {y : Str} (F : Fr h₀ L s.heap m) (N : News h₀ L s.heap news) (hy : y = ⟨[10].toArray⟩) (hz : l.length ≤ 1000000)
    (h : ∀ D vs h' tk, All2 SItem vs (cutL 10 l) → Fr h₀ L h' m → News h₀ L h' ((D, PySem.W.listOf vs.toArray 0) :: news) → (∀ p ∈ news, p.1 < D) → Q (.ref D) { s with heap := h', toks := tk }) :
    wpAny (model prog w) A (call (.builtin "str.split") [.str ⟨l.toArray⟩ t, .str y u]) Q E s :=
  split_S F N hy rfl (by decide) (by omega) (joinL_cutL 10 l).symm (cutL_ne 10 _) (cutL_free 10 l) h
end
section
variable {w : World} {mean : ExcName → Option Value} {mg mb : Str → Option Value} {A : Around} {s : Shared} {h₀ : Heap} {L R : Addr} {m : Str → Option Value} {news : List (Addr × Obj)} {n : Nat} {vs : List Value} {t : Tok} {Q E : Value → Shared → Prop}
theorem call_gone_S {l : List Nat} {cs X : List (List Nat)} (F : Fr h₀ L s.heap m) (X₀ : (hd.heap_39 w.params).In h₀) (N : News h₀ L s.heap news) (T : TopM mean mg mb h₀) (hm : (R, listOf vs.toArray n) ∈ news) (hv : All2 SItem vs cs)
    (hz : l.length + (cs.map (·.length)).sum + 2 * cs.length ≤ 500) (hr : Room A 5 24) (e : goneL 47 46 l cs = X)
    (h : ∀ a ys k h' tk', All2 SItem ys X → Fr h₀ L h' m → News h₀ L h' ((a, listOf ys.toArray k) :: news) → (∀ p ∈ news, p.1 ≠ a) → Q (.ref a) { s with heap := h', toks := tk' }) : wpAny (model PP w) A (call (.ref 194) [.str ⟨l.toArray⟩ t, .ref R]) Q E s := by
  subst e
  refine call_new _ F X₀ N T (gone_str w mean mg mb l t R vs cs n hv hz) ListOut.new hr (N _ hm).1 fun a o h' tk' P F' N' l1 => ?_
  obtain ⟨ys, k, rfl, hys⟩ := P
  exact h a ys k h' tk' hys F' N' l1
theorem call_gone_B {l : List UInt8} {cs X : List (List UInt8)} (F : Fr h₀ L s.heap m) (X₀ : (hd.heap_39 w.params).In h₀) (N : News h₀ L s.heap news) (T : TopM mean mg mb h₀) (hm : (R, listOf vs.toArray n) ∈ news) (hv : All2 BItem vs cs)
    (hz : l.length + (cs.map (·.length)).sum + 2 * cs.length ≤ 500) (hr : Room A 5 24) (e : goneL 47 46 l cs = X)
    (h : ∀ a ys k h' tk', All2 BItem ys X → Fr h₀ L h' m → News h₀ L h' ((a, listOf ys.toArray k) :: news) → (∀ p ∈ news, p.1 ≠ a) → Q (.ref a) { s with heap := h', toks := tk' }) : wpAny (model PP w) A (call (.ref 194) [.bytes l.toArray t, .ref R]) Q E s := by
  subst e
  refine call_new _ F X₀ N T (gone_bytes w mean mg mb l t R vs cs n hv hz) ListOut.new hr (N _ hm).1 fun a o h' tk' P F' N' l1 => ?_
  obtain ⟨ys, k, rfl, hys⟩ := P
  exact h a ys k h' tk' hys F' N' l1
theorem call_due {l : List Nat} {cs : List (List Nat)} {i : Nat} {ti : Tok} (F : Fr h₀ L s.heap m) (X₀ : (hd.heap_39 w.params).In h₀) (N : News h₀ L s.heap news) (T : TopM mean mg mb h₀) (hm : (R, listOf vs.toArray n) ∈ news) (hv : All2 SItem vs cs)
    (hz : l.length + (cs.map (·.length)).sum + 3 * cs.length ≤ 97) (hi : i ≤ 2) (hne : cs ≠ []) (hr : Room A 3 18)
    (h : ∀ a ys k h' tk', All2 SItem ys (dueL l cs i) → Fr h₀ L h' m → News h₀ L h' ((a, listOf ys.toArray k) :: news) → (∀ p ∈ news, p.1 ≠ a) → Q (.ref a) { s with heap := h', toks := tk' }) : wpAny (model PP w) A (call (.ref 206) [.str ⟨l.toArray⟩ t, .ref R, .int (i : Nat) ti]) Q E s := by
  refine call_new _ F X₀ N T (due_spec w mean mg mb l t R vs cs n i ti hv hz hi hne) ListOut.new hr (N _ hm).1 fun a o h' tk' P F' N' l1 => ?_
  obtain ⟨ys, k, rfl, hys⟩ := P
  exact h a ys k h' tk' hys F' N' l1
theorem call_oct {l : List Nat} (F : Fr h₀ L s.heap m) (X₀ : (hd.heap_39 w.params).In h₀) (N : News h₀ L s.heap news) (T : TopM mean mg mb h₀) (hb : ∀ c ∈ l, c < 256) (hz : l.length ≤ 100000) (hr : Room A 1 12)
    (h : ∀ t' h' tk', Fr h₀ L h' m → News h₀ L h' news → Q (.bytes (octs l).toArray t') { s with heap := h', toks := tk' }) : wpAny (model PP w) A (call (.ref 187) [.str ⟨l.toArray⟩ t]) Q E s :=
  call_spec F X₀ N T (octets_str w mean mg mb l t hb hz) hr trivial fun v h' tk' F' N' _ o => by
    obtain ⟨t', rfl⟩ := o
    exact h t' h' tk' F' N'
/-- the same from a comprehension's block -/
theorem call_octC {l : List Nat} (X : (hd.heap_39 w.params).In s.heap) (T : TopM mean mg mb s.heap) (hb : ∀ c ∈ l, c < 256) (hz : l.length ≤ 100000) (hr : Room A 1 12)
    (h : ∀ t' h' tk', Keeps s.heap h' → Q (.bytes (octs l).toArray t') { s with heap := h', toks := tk' }) : wpAny (model PP w) A (call (.ref 187) [.str ⟨l.toArray⟩ t]) Q E s :=
  wpAny_call (octets_str w mean mg mb l t hb hz A s _ hr X T trivial fun v h' tk' k o => by
    obtain ⟨t', rfl⟩ := o
    exact h t' h' tk' k)
end
end Mine
end
section
open PySem PySem.W PyProof.Rows PySem.Calls PyProof.V
namespace Mine
set_option maxRecDepth 100000
section
variable {prog : Program} {w : World} {A : Around} {E : Value → Shared → Prop} {s : Shared} {h₀ : Heap} {m : Str → Option Value} {news : List (Addr × Obj)}
/-- a comprehension over a list of the ledger, stored under a name -/
theorem comp_LA {γ δ : Type} {Item : Value → γ → Prop} {Got : Value → δ → Prop} {a : Addr} {vs : List Value} {cs : List γ} {n : Nat} (f : γ → δ) {env : Env} {elt : Expr} {x y : Str} {scope : Scope} {Q : Flow → Shared → Prop} (hh : A.handled = none) (hv : All2 Item vs cs) (hz : cs.length ≤ 1000000)
    (hItem : ∀ v c c', Item v c → Item v c' → c = c')
    (F : Fr h₀ env.locals s.heap m) (N : News h₀ env.locals s.heap news) (ha : (a, listOf vs.toArray n) ∈ news)
    (g2 : ∀ C c v s₂ m₂ E', c ∈ cs → Item v c → s₂.heap.Ns C m₂ → m₂ x = some v → (∀ b o, s.heap.get? b = some o → s₂.heap.get? b = some o) → wpAny (model prog w) A (eval elt (compEnv scope C env)) (fun y s₃ => Got y (f c) ∧ PySem.Keeps s₂ s₃) E' s₂)
    (g3 : ∀ D ys k h' tk, All2 Got ys (cs.map f) → Fr h₀ env.locals h' (fun z => if z = y then some (.ref D) else m z) → News h₀ env.locals h' ((D, lstObj ys k) :: news) → (∀ p ∈ news, p.1 ≠ D) → Q .next { s with heap := h', toks := tk }) :
    wpAny (model prog w) A (pyIter (.ref a)) (CompPostA prog w A env scope x y [] elt Q) E s := by
  have hl := (N _ ha).1
  have hlt : a < s.heap.objs.size := Heap.lt_size hl
  refine wpAny_pyIter_list (isList_lst hl) ?_
  have hlen := hv.length
  have whole : ∀ us : List Value, us.length = vs.toArray.size → (∀ (j : Nat) v, us[j]? = some v → vs.toArray[j]? = some v) → us = vs := fun us h1 h2 => by
    have e := PyProof.Rows.walked_is h1 h2
    simpa using e
  have W := Walks.list (prog := prog) (w := w) (A := A) hh s.heap.objs.size a (Nat.ne_of_lt hlt) vs.toArray
  generalize ho₀ : ({ cls := .type "list_iterator", data := _ } : Obj) = o₀
  have up : ∀ (h' : Heap), (∀ b o', b ≠ env.locals → b ∉ [s.heap.objs.size] → (s.heap.push o₀).get? b = some o' → h'.get? b = some o') → ∀ b o', b ≠ env.locals → s.heap.get? b = some o' → h'.get? b = some o' :=
    fun h' hk b o' hb e => hk b o' hb (PyProof.Rows.not_iter_of_old e) (Heap.get?_push_of_some _ e)
  have hIn : env.locals ∉ [s.heap.objs.size] := fun hm => absurd F.ns.lt ((List.mem_singleton.mp hm) ▸ Nat.lt_irrefl _)
  refine ⟨fun _ => true, fun v y => ∃ c ∈ cs, Item v c ∧ Got y (f c), s.heap.objs.size, _, [s.heap.objs.size], _, _, _, m, rfl, W, by rw [List.size_toArray, sizeLine_eq]; omega, ?_, ?_, hIn, (F.push _).ns, ⟨?_, ?_⟩, ?_⟩
  · subst ho₀
    exact ⟨⟨_, Heap.get?_push_size _ rfl, rfl, rfl⟩, (isList_lst hl).at fun o e => Heap.get?_push_of_some _ e⟩
  · intro b hb
    rw [Heap.size_push]
    rcases List.mem_cons.mp hb with rfl | hb
    · exact Nat.lt_succ_self _
    · rw [List.mem_singleton.mp hb]; exact Nat.lt_succ_of_lt hlt
  · intro C i v s₃ m₃ E' _ _ _ _ _
    exact wpAny_pure ⟨rfl, _, _, rfl, fun _ _ e => e⟩
  · intro C i v s₃ m₃ E' hPi _ hn hm hk _
    obtain ⟨c, h1, h2, _⟩ := hv.at (i := i) (by simpa using hPi)
    have hc : c ∈ cs := h1 ▸ List.mem_append_right _ (List.mem_cons_self ..)
    exact wpAny_mono (g2 C c v s₃ m₃ E' hc h2 hn hm (fun b o e => hk b o (PyProof.Rows.not_iter_of_old e) (Heap.get?_push_of_some _ e))) (fun y s₄ q => ⟨⟨c, hc, h2, q.1⟩, q.2⟩) fun _ _ e => e
  · intro D h' tk ys us hnew _ hpl hlen' hPv hF hns hk
    obtain ⟨k, hpl⟩ := hpl
    have hF : Paired (fun v y => ∃ c ∈ cs, Item v c ∧ Got y (f c)) us ys.toList := by
      have e : us.filter (fun _ => true) = us := List.filter_eq_self.mpr fun _ _ => rfl
      rw [e] at hF
      exact hF
    have hne : ∀ b o, s.heap.get? b = some o → b ≠ D := by
      rintro b o e rfl
      rw [Heap.get?_push_of_some _ e] at hnew
      cases hnew
    have hL : D ≠ env.locals := by
      obtain ⟨o', _, _, h1, _⟩ := F.ns
      exact (hne _ _ h1).symm
    have h0 : h₀.get? D = none := by
      cases e : h₀.get? D with
      | none => rfl
      | some o => exact absurd rfl (hne _ _ (F.keep _ _ e))
    have F' : Fr h₀ env.locals h' (fun z => if z = y then some (.ref D) else m z) :=
      ⟨hns, fun b o e => up h' hk b o (fun q => Nat.lt_irrefl _ (Nat.lt_of_lt_of_le (q ▸ Heap.lt_size e) F.above)) (F.keep _ _ e), F.above⟩
    refine g3 D ys.toList k h' tk ?_ F' (fun p hp => ?_) fun p hp => hne _ _ (N p hp).1
    · refine all2_of_paired hF ((whole us hlen' hPv) ▸ hv) fun v y c hc hi q => ?_
      obtain ⟨c', _, hi', hg⟩ := q
      rw [hItem v c c' hi hi']
      exact hg
    · rcases List.mem_cons.mp hp with rfl | hp
      · refine ⟨?_, hL, h0⟩
        show h'.get? D = some (lstObj ys.toList k)
        unfold lstObj
        rw [Array.toArray_toList]
        exact hpl
      · exact ⟨up h' hk _ _ (N p hp).2.1 (N p hp).1, (N p hp).2⟩
end
end Mine
end
section
open PySem PySem.W PyProof.Rows PySem.Calls
namespace Mine
theorem kf_fn10 : PySem.Challenge.rw_ik0040_01 = PySem.Challenge.rw_ik0040_01 ∧ hd.heap_39 = hd.heap_39 := by
  k_with_none
  k_with "exec For" => (k_here; (with_reducible rename Fr _ _ _ _ => lF'); k_dflt (refine' For_invVF lF' ?qdj0_k1 ?qdj0_k2 ?_ ?qdj0_k3 ?qdj0_k4; (case qdj0_k1 => exact rfl); (case qdj0_k2 => exact rfl); (case qdj0_k3 => intro _; rfl); (case qdj0_k4 => exact PassesOwn.never); k_whole))
  k_with "subscriptTail Name Slice str ref" => (k_here; k_dflt (refine' slice_S (s := ⟨_, _, _, _, _⟩) ?qdj1_F ?qdj1_N ?qdj1_hl ?qdj1_hu ?qdj1_hz ?qdj1_e ?_; (case qdj1_F => k_asm); (case qdj1_N => k_asm); (case qdj1_hl => constructor); (case qdj1_hu => constructor); (case qdj1_hz => first | omega | ((try simp only [List.length_take, List.length_drop, List.length_append, List.length_cons, List.length_nil]); omega)); (case qdj1_e => first | with_reducible exact cut_h1 _ | with_reducible exact cut_h2 _ | with_reducible exact cut_l1 _ | with_reducible exact cut_l2 _ | with_reducible exact cut_12 _ | with_reducible exact cut_23 _ | with_reducible exact cut_m1 _); (intro h' t' k' F' N'; try k_sweep)))
  k_with "subscriptTail Name Slice bytes ref" => (k_here; k_dflt (refine' slice_B (s := ⟨_, _, _, _, _⟩) ?qdj2_F ?qdj2_N ?qdj2_hl ?qdj2_hu ?qdj2_hz ?qdj2_e ?_; (case qdj2_F => k_asm); (case qdj2_N => k_asm); (case qdj2_hl => constructor); (case qdj2_hu => constructor); (case qdj2_hz => first | omega | ((try simp only [List.length_take, List.length_drop, List.length_append, List.length_cons, List.length_nil]); omega)); (case qdj2_e => first | with_reducible exact cut_h1 _ | with_reducible exact cut_h2 _ | with_reducible exact cut_l1 _ | with_reducible exact cut_l2 _ | with_reducible exact cut_12 _ | with_reducible exact cut_23 _ | with_reducible exact cut_m1 _); (intro h' t' k' F' N'; try k_sweep)))
  k_with "compareOp Eq str str" => (k_here; k_dflt (refine' eq_S ?qdj3_hx ?qdj3_hy ?_; (case qdj3_hx => first | with_reducible exact lit_slash | with_reducible exact lit_dot | with_reducible exact lit_dd | with_reducible exact lit_empty | with_reducible exact lit_nl | with_reducible exact lit_crlf | with_reducible exact lit_cr | with_reducible exact rfl); (case qdj3_hy => first | with_reducible exact lit_slash | with_reducible exact lit_dot | with_reducible exact lit_dd | with_reducible exact lit_empty | with_reducible exact lit_nl | with_reducible exact lit_crlf | with_reducible exact lit_cr | with_reducible exact rfl)))
  k_with "compareOp Eq bytes bytes" => (k_here; k_dflt (refine' eq_B ?qdj4_hx ?qdj4_hy ?_; (case qdj4_hx => first | with_reducible exact blit_slash | with_reducible exact blit_dot | with_reducible exact blit_dd | with_reducible exact blit_empty | with_reducible exact blit_nl | with_reducible exact rfl); (case qdj4_hy => first | with_reducible exact blit_slash | with_reducible exact blit_dot | with_reducible exact blit_dd | with_reducible exact blit_empty | with_reducible exact blit_nl | with_reducible exact rfl)))
  k_with "compareOp NotEq str str" => (k_here; k_dflt (refine' ne_S ?qdj5_hx ?qdj5_hy ?_; (case qdj5_hx => first | with_reducible exact lit_slash | with_reducible exact lit_dot | with_reducible exact lit_dd | with_reducible exact lit_empty | with_reducible exact lit_nl | with_reducible exact lit_crlf | with_reducible exact lit_cr | with_reducible exact rfl); (case qdj5_hy => first | with_reducible exact lit_slash | with_reducible exact lit_dot | with_reducible exact lit_dd | with_reducible exact lit_empty | with_reducible exact lit_nl | with_reducible exact lit_crlf | with_reducible exact lit_cr | with_reducible exact rfl)))
  k_with "compareOp NotEq bytes bytes" => (k_here; k_dflt (refine' ne_B ?qdj6_hx ?qdj6_hy ?_; (case qdj6_hx => first | with_reducible exact blit_slash | with_reducible exact blit_dot | with_reducible exact blit_dd | with_reducible exact blit_empty | with_reducible exact blit_nl | with_reducible exact rfl); (case qdj6_hy => first | with_reducible exact blit_slash | with_reducible exact blit_dot | with_reducible exact blit_dd | with_reducible exact blit_empty | with_reducible exact blit_nl | with_reducible exact rfl)))
  k_with "truthy str" => (k_here; k_dflt (refine' truthy_S ?qdj7_hz ?_; (case qdj7_hz => first | omega | ((try simp only [List.length_take, List.length_drop, List.length_append, List.length_cons, List.length_nil]); omega)); intro k'))
  k_with "truthy bytes" => (k_here; k_dflt (refine' truthy_B ?qdj8_hz ?_; (case qdj8_hz => first | omega | ((try simp only [List.length_take, List.length_drop, List.length_append, List.length_cons, List.length_nil]); omega)); intro k'))
  k_with "binaryOp Add str str" => (k_here; k_dflt (refine' add_S ?qdj9_hx ?qdj9_hy ?qdj9_hz ?_; (case qdj9_hx => first | with_reducible exact lit_slash | with_reducible exact lit_dot | with_reducible exact lit_dd | with_reducible exact lit_empty | with_reducible exact lit_nl | with_reducible exact lit_crlf | with_reducible exact lit_cr | with_reducible exact rfl); (case qdj9_hy => first | with_reducible exact lit_slash | with_reducible exact lit_dot | with_reducible exact lit_dd | with_reducible exact lit_empty | with_reducible exact lit_nl | with_reducible exact lit_crlf | with_reducible exact lit_cr | with_reducible exact rfl); (case qdj9_hz => first | omega | ((try simp only [List.length_take, List.length_drop, List.length_append, List.length_cons, List.length_nil]); omega)); intro t' k'))
  k_with "binaryOp Add bytes bytes" => (k_here; k_dflt (refine' add_B ?qdj10_hx ?qdj10_hy ?qdj10_hz ?_; (case qdj10_hx => first | with_reducible exact blit_slash | with_reducible exact blit_dot | with_reducible exact blit_dd | with_reducible exact blit_empty | with_reducible exact blit_nl | with_reducible exact rfl); (case qdj10_hy => first | with_reducible exact blit_slash | with_reducible exact blit_dot | with_reducible exact blit_dd | with_reducible exact blit_empty | with_reducible exact blit_nl | with_reducible exact rfl); (case qdj10_hz => first | omega | ((try simp only [List.length_take, List.length_drop, List.length_append, List.length_cons, List.length_nil]); omega)); intro t' k'))
  k_with "inplaceOp Add str str" => (k_here; k_dflt (refine' iadd_S ?qdj11_hx ?qdj11_hy ?qdj11_hz ?_; (case qdj11_hx => first | with_reducible exact lit_slash | with_reducible exact lit_dot | with_reducible exact lit_dd | with_reducible exact lit_empty | with_reducible exact lit_nl | with_reducible exact lit_crlf | with_reducible exact lit_cr | with_reducible exact rfl); (case qdj11_hy => first | with_reducible exact lit_slash | with_reducible exact lit_dot | with_reducible exact lit_dd | with_reducible exact lit_empty | with_reducible exact lit_nl | with_reducible exact lit_crlf | with_reducible exact lit_cr | with_reducible exact rfl); (case qdj11_hz => first | omega | ((try simp only [List.length_take, List.length_drop, List.length_append, List.length_cons, List.length_nil]); omega)); intro t' k'))
  k_with "inplaceOp Add bytes bytes" => (k_here; k_dflt (refine' iadd_B ?qdj12_hx ?qdj12_hy ?qdj12_hz ?_; (case qdj12_hx => first | with_reducible exact blit_slash | with_reducible exact blit_dot | with_reducible exact blit_dd | with_reducible exact blit_empty | with_reducible exact blit_nl | with_reducible exact rfl); (case qdj12_hy => first | with_reducible exact blit_slash | with_reducible exact blit_dot | with_reducible exact blit_dd | with_reducible exact blit_empty | with_reducible exact blit_nl | with_reducible exact rfl); (case qdj12_hz => first | omega | ((try simp only [List.length_take, List.length_drop, List.length_append, List.length_cons, List.length_nil]); omega)); intro t' k'))
  k_with "call builtin:str.startswith" => (k_here; k_dflt (refine' starts_S ?qdj13_hy ?_; (case qdj13_hy => first | with_reducible exact lit_slash | with_reducible exact lit_dot | with_reducible exact lit_dd | with_reducible exact lit_empty | with_reducible exact lit_nl | with_reducible exact lit_crlf | with_reducible exact lit_cr | with_reducible exact rfl)))
  k_with "call builtin:str.endswith" => (k_here; k_dflt (refine' ends_S ?qdj14_hy ?_; (case qdj14_hy => first | with_reducible exact lit_slash | with_reducible exact lit_dot | with_reducible exact lit_dd | with_reducible exact lit_empty | with_reducible exact lit_nl | with_reducible exact lit_crlf | with_reducible exact lit_cr | with_reducible exact rfl)))
  k_with "call builtin:bytes.startswith" => (k_here; k_dflt (refine' starts_B ?qdj15_hy ?_; (case qdj15_hy => first | with_reducible exact blit_slash | with_reducible exact blit_dot | with_reducible exact blit_dd | with_reducible exact blit_empty | with_reducible exact blit_nl | with_reducible exact rfl)))
  k_with "call builtin:bytes.endswith" => (k_here; k_dflt (refine' ends_B ?qdj16_hy ?_; (case qdj16_hy => first | with_reducible exact blit_slash | with_reducible exact blit_dot | with_reducible exact blit_dd | with_reducible exact blit_empty | with_reducible exact blit_nl | with_reducible exact rfl)))
  k_with "getMethod bytes" => (k_here; k_dflt (first | with_reducible refine' gm_bytes FB.slot_bytes_startswith FB.type_bytes_startswith ?_ | with_reducible refine' gm_bytes FB.slot_bytes_endswith FB.type_bytes_endswith ?_ | with_reducible refine' gm_bytes BF.slot_split BF.type_split ?_ | with_reducible refine' gm_bytes BF.slot_join BF.type_join ?_))
  k_with "truthy ref" => (k_here; k_dflt (refine' truthy_L ?qdj18_N ?qdj18_m ?qdj18_z ?qdj18_e ?_; (case qdj18_N => k_asm); (case qdj18_m => k_mem); (case qdj18_z => first | omega | ((try simp only [List.length_take, List.length_drop, List.length_append, List.length_cons, List.length_nil]); omega)); (case qdj18_e => first | exact rfl | simp); intro k'))
  k_with "subscriptTail Name UnaryOp ref int" => (k_here; k_dflt (refine' last_L ?qdj19_N ?qdj19_m ?qdj19_e ?qdj19_z ?_; (case qdj19_N => k_asm); (case qdj19_m => k_mem); (case qdj19_e => exact rfl); (case qdj19_z => first | omega | ((try simp only [List.length_take, List.length_drop, List.length_append, List.length_cons, List.length_nil]); omega))))
  k_with "call builtin:list.append" => (k_here; k_dflt (refine' app_L ?qdj20_F ?qdj20_N ?qdj20_U ?qdj20_z ?_; (case qdj20_F => k_asm); (case qdj20_N => k_asm); (case qdj20_U => k_upd); (case qdj20_z => first | omega | ((try simp only [List.length_take, List.length_drop, List.length_append, List.length_cons, List.length_nil]); omega)); (intro h' F' N'; try k_sweep)))
  k_with "call builtin:list.pop" => (k_here; k_dflt (refine' pop_L ?qdj21_F ?qdj21_N ?qdj21_m ?qdj21_e ?qdj21_U ?qdj21_z ?_; (case qdj21_F => k_asm); (case qdj21_N => k_asm); (case qdj21_m => k_mem); (case qdj21_e => exact rfl); (case qdj21_U => k_upd); (case qdj21_z => first | omega | ((try simp only [List.length_take, List.length_drop, List.length_append, List.length_cons, List.length_nil]); omega)); (intro h' F' N'; try k_sweep)))
  k_with "assign Tuple" => (k_here; k_dflt (refine' unpackN_ ?qdj22_F ?qdj22_N ?qdj22_T ?qdj22_k4 ?qdj22_k5 ?qdj22_k6 ?_; (case qdj22_F => k_asm); (case qdj22_N => k_asm); (case qdj22_T => exact News.isTup (by k_asm) (by k_mem)); (case qdj22_k4 => exact Room.hh (by assumption)); (case qdj22_k5 => exact rfl); (case qdj22_k6 => exact rfl); (intro h' F' N'; try k_sweep)))
  k_with "call builtin:str.join" => (k_here; k_dflt (refine' join_S ?qdj23_hy ?qdj23_hl ?qdj23_hv ?qdj23_hz ?_; (case qdj23_hy => first | with_reducible exact lit_slash | with_reducible exact lit_dot | with_reducible exact lit_dd | with_reducible exact lit_empty | with_reducible exact lit_nl | with_reducible exact lit_crlf | with_reducible exact lit_cr | with_reducible exact rfl); (case qdj23_hl => exact at_news (by k_asm) (by k_mem)); (case qdj23_hv => assumption); (case qdj23_hz => first | omega | ((try simp only [List.length_take, List.length_drop, List.length_append, List.length_cons, List.length_nil]); omega)); intro t' k'))
  k_with "call builtin:bytes.join" => (k_here; k_dflt (refine' join_B ?qdj24_hy ?qdj24_hl ?qdj24_hv ?qdj24_hz ?_; (case qdj24_hy => first | with_reducible exact blit_slash | with_reducible exact blit_dot | with_reducible exact blit_dd | with_reducible exact blit_empty | with_reducible exact blit_nl | with_reducible exact rfl); (case qdj24_hl => exact at_news (by k_asm) (by k_mem)); (case qdj24_hv => assumption); (case qdj24_hz => first | omega | ((try simp only [List.length_take, List.length_drop, List.length_append, List.length_cons, List.length_nil]); omega)); intro t' k'))
  k_with "call builtin:bytes.split" => (k_here; k_dflt (refine' split_B ?qdj25_F ?qdj25_N ?qdj25_hy ?qdj25_hz ?_; (case qdj25_F => k_asm); (case qdj25_N => k_asm); (case qdj25_hy => first | with_reducible exact blit_slash | with_reducible exact blit_dot | with_reducible exact blit_dd | with_reducible exact blit_empty | with_reducible exact blit_nl | with_reducible exact rfl); (case qdj25_hz => first | omega | ((try simp only [List.length_take, List.length_drop, List.length_append, List.length_cons, List.length_nil]); omega)); (intro D vs h' k' hv F' N' l1; (try k_lt l1); try k_sweep)))
  k_with "unpackItems ref" => (k_here; k_dflt (refine' unpackItemsN_ ?qdj26_F ?qdj26_N ?qdj26_T ?qdj26_k4 ?qdj26_k5 ?_; (case qdj26_F => k_asm); (case qdj26_N => k_asm); (case qdj26_T => exact News.isTup (by k_asm) (by k_mem)); (case qdj26_k4 => exact Room.hh (by assumption)); (case qdj26_k5 => exact rfl); (intro h' F' N'; try k_sweep)))
  k_with "callWith" => (k_here; (with_reducible refine' callWith_m1 ?qdj27_hp ?_); (case qdj27_hp => k_dflt (exact rfl)))
  k_with "spliced" => (k_here; (with_reducible refine' spliced_plain ?qdj28_hp ?_); (case qdj28_hp => k_dflt (exact rfl)))
  k_with "pyIter ref" => (k_here; refine Stop.mk ?_)
  k_with "subscriptTail List" => (k_here; k_dflt (refine' menu_S (P := Sign) (vs := [_, _, _, _, _, _, _, _]) ?qdj30_N ?qdj30_m ?qdj30_z ?qdj30_o ?qdj30_y ?qdj30_all ?_; (case qdj30_N => k_asm); (case qdj30_m => k_mem); (case qdj30_z => exact Int.fmod_nonneg_of_pos _ (by decide)); (case qdj30_o => exact Int.fmod_lt_of_pos _ (by decide)); (case qdj30_y => exact Nat.le_of_ble_eq_true rfl); (case qdj30_all => exact all8 (sign_lit lit_slash (by decide) (by decide)) (sign_lit lit_dot (by decide) (by decide)) (sign_lit lit_dd (by decide) (by decide)) (sign_lit lit_a (by decide) (by decide)) (sign_lit lit_nl (by decide) (by decide)) (sign_lit lit_cr (by decide) (by decide)) (sign_lit lit_sdd (by decide) (by decide)) sign_chr); intro v' hv'))
  k_fill
  exact ⟨rfl, rfl⟩
section
variable (w : World) (mean : ExcName → Option Value) (mg mb : Str → Option Value)
set_option maxRecDepth 100000
set_option maxHeartbeats 8000000
theorem law_sign {name qual : Str} {params : Arguments} {s1 : Stmt} {tg itx : Expr} {fb oe rest : List Stmt} {ps : Pos} {scope : Scope} {dV kV doc pm cdv cdw ct oc : Value} {an od : Option Addr} {osl : Array (Option Value)} {f : Addr} (ho : (hd.heap_39 w.params).lookup 211 = some ⟨oc, od, .func (fnOf name qual params (s1 :: .For tg itx fb oe ps :: rest) scope dV kV doc pm an cdv ct), osl⟩)
    (A : Around) (h₀ : Heap) (L : Addr) (s : Shared) (hR : Room A 6 70) (X : (hd.heap_39 w.params).In h₀) (T : TopM mean mg mb h₀) (r : List Nat) (tr : Tok) (g a I : Addr) (i : Int) (ti : Tok) (it : Obj) (ys : List Value) (k n : Nat) (sr : Addr) (so : Obj) (Q : Flow → Shared → Prop) (hG : GotSigns n ys) (hn : n ≤ 9) (hgI : g < I) (hsI : sr < I) (hgs : g < sr)
    (F : Fr h₀ L s.heap (fun y => if y = Str.ofString "x" then some (.int i ti) else (fun y => if y = Str.ofString "root" then some (.str ⟨r.toArray⟩ tr) else if y = Str.ofString "signs" then some (Value.ref g) else List.lookup y [(Str.ofString "script", Value.ref a)].reverse) y)) (N : News h₀ L s.heap ((I, it) :: (g, W.listOf ys.toArray k) :: [(sr, so)])) :
    wpAny (model PP w) A (execs fb (envOf qual scope L f cdw)) (TurnG h₀ L (Str.ofString "x") I it g [(sr, so)] (fun y => if y = Str.ofString "root" then some (.str ⟨r.toArray⟩ tr) else if y = Str.ofString "signs" then some (Value.ref g) else List.lookup y [(Str.ofString "script", Value.ref a)].reverse) (GotSigns (n + 1)) s Q) (fun _ _ => False) s := by
  cases ho
  obtain ⟨cs, hys, hcs⟩ := hG
  have hyl := hys.length
  have hcl := hcs.1
  have hgI := PySem.W.ltN hgI
  have hsI := PySem.W.ltN hsI
  have hgs := PySem.W.ltN hgs
  (try dsimp only); (try k_fold)
  repeat' (goal_lacks Stop; first | (k_unfold; (try dsimp only)) | (k_end; wrow_close) | walk1 | (dsimp only; walk1) | (leave1; try dsimp only))
  (with_reducible rename News _ _ _ _ => N1)
  (with_reducible rename Fr _ _ _ _ => F1)
  rename Sign _ => hv
  obtain ⟨c, hc, h3, h256⟩ := hv
  refine TurnG.next (ys := ys ++ [_]) F1 (fun p hp => N1 p (.tail _ hp)) ⟨cs ++ [c], hys.snoc hc, by simp [hcl], fun d hd => ?_⟩ (fun y hy => if_neg hy)
  rcases List.mem_append.mp hd with hd | hd
  · exact hcs.2 d hd
  · rw [List.mem_singleton.mp hd]; exact ⟨h3, h256⟩
end
end Mine
end
section
open PySem PySem.W PyProof.Rows PySem.Calls
namespace Mine
theorem kf_fn11 : PySem.Challenge.rw_ik0040_01 = PySem.Challenge.rw_ik0040_01 ∧ hd.heap_39 = hd.heap_39 := by
  k_with_none
  k_with "subscriptTail Name Slice str ref" => (k_here; k_dflt (refine' slice_S (s := ⟨_, _, _, _, _⟩) ?qea0_F ?qea0_N ?qea0_hl ?qea0_hu ?qea0_hz ?qea0_e ?_; (case qea0_F => k_asm); (case qea0_N => k_asm); (case qea0_hl => constructor); (case qea0_hu => constructor); (case qea0_hz => first | omega | ((try simp only [List.length_take, List.length_drop, List.length_append, List.length_cons, List.length_nil]); omega)); (case qea0_e => first | with_reducible exact cut_h1 _ | with_reducible exact cut_h2 _ | with_reducible exact cut_l1 _ | with_reducible exact cut_l2 _ | with_reducible exact cut_12 _ | with_reducible exact cut_23 _ | with_reducible exact cut_m1 _); (intro h' t' k' F' N'; try k_sweep)))
  k_with "subscriptTail Name Slice bytes ref" => (k_here; k_dflt (refine' slice_B (s := ⟨_, _, _, _, _⟩) ?qea1_F ?qea1_N ?qea1_hl ?qea1_hu ?qea1_hz ?qea1_e ?_; (case qea1_F => k_asm); (case qea1_N => k_asm); (case qea1_hl => constructor); (case qea1_hu => constructor); (case qea1_hz => first | omega | ((try simp only [List.length_take, List.length_drop, List.length_append, List.length_cons, List.length_nil]); omega)); (case qea1_e => first | with_reducible exact cut_h1 _ | with_reducible exact cut_h2 _ | with_reducible exact cut_l1 _ | with_reducible exact cut_l2 _ | with_reducible exact cut_12 _ | with_reducible exact cut_23 _ | with_reducible exact cut_m1 _); (intro h' t' k' F' N'; try k_sweep)))
  k_with "compareOp Eq str str" => (k_here; k_dflt (refine' eq_S ?qea2_hx ?qea2_hy ?_; (case qea2_hx => first | with_reducible exact lit_slash | with_reducible exact lit_dot | with_reducible exact lit_dd | with_reducible exact lit_empty | with_reducible exact lit_nl | with_reducible exact lit_crlf | with_reducible exact lit_cr | with_reducible exact rfl); (case qea2_hy => first | with_reducible exact lit_slash | with_reducible exact lit_dot | with_reducible exact lit_dd | with_reducible exact lit_empty | with_reducible exact lit_nl | with_reducible exact lit_crlf | with_reducible exact lit_cr | with_reducible exact rfl)))
  k_with "compareOp Eq bytes bytes" => (k_here; k_dflt (refine' eq_B ?qea3_hx ?qea3_hy ?_; (case qea3_hx => first | with_reducible exact blit_slash | with_reducible exact blit_dot | with_reducible exact blit_dd | with_reducible exact blit_empty | with_reducible exact blit_nl | with_reducible exact rfl); (case qea3_hy => first | with_reducible exact blit_slash | with_reducible exact blit_dot | with_reducible exact blit_dd | with_reducible exact blit_empty | with_reducible exact blit_nl | with_reducible exact rfl)))
  k_with "compareOp NotEq str str" => (k_here; k_dflt (refine' ne_S ?qea4_hx ?qea4_hy ?_; (case qea4_hx => first | with_reducible exact lit_slash | with_reducible exact lit_dot | with_reducible exact lit_dd | with_reducible exact lit_empty | with_reducible exact lit_nl | with_reducible exact lit_crlf | with_reducible exact lit_cr | with_reducible exact rfl); (case qea4_hy => first | with_reducible exact lit_slash | with_reducible exact lit_dot | with_reducible exact lit_dd | with_reducible exact lit_empty | with_reducible exact lit_nl | with_reducible exact lit_crlf | with_reducible exact lit_cr | with_reducible exact rfl)))
  k_with "compareOp NotEq bytes bytes" => (k_here; k_dflt (refine' ne_B ?qea5_hx ?qea5_hy ?_; (case qea5_hx => first | with_reducible exact blit_slash | with_reducible exact blit_dot | with_reducible exact blit_dd | with_reducible exact blit_empty | with_reducible exact blit_nl | with_reducible exact rfl); (case qea5_hy => first | with_reducible exact blit_slash | with_reducible exact blit_dot | with_reducible exact blit_dd | with_reducible exact blit_empty | with_reducible exact blit_nl | with_reducible exact rfl)))
  k_with "truthy str" => (k_here; k_dflt (refine' truthy_S ?qea6_hz ?_; (case qea6_hz => first | omega | ((try simp only [List.length_take, List.length_drop, List.length_append, List.length_cons, List.length_nil]); omega)); intro k'))
  k_with "truthy bytes" => (k_here; k_dflt (refine' truthy_B ?qea7_hz ?_; (case qea7_hz => first | omega | ((try simp only [List.length_take, List.length_drop, List.length_append, List.length_cons, List.length_nil]); omega)); intro k'))
  k_with "binaryOp Add str str" => (k_here; k_dflt (refine' add_S ?qea8_hx ?qea8_hy ?qea8_hz ?_; (case qea8_hx => first | with_reducible exact lit_slash | with_reducible exact lit_dot | with_reducible exact lit_dd | with_reducible exact lit_empty | with_reducible exact lit_nl | with_reducible exact lit_crlf | with_reducible exact lit_cr | with_reducible exact rfl); (case qea8_hy => first | with_reducible exact lit_slash | with_reducible exact lit_dot | with_reducible exact lit_dd | with_reducible exact lit_empty | with_reducible exact lit_nl | with_reducible exact lit_crlf | with_reducible exact lit_cr | with_reducible exact rfl); (case qea8_hz => first | omega | ((try simp only [List.length_take, List.length_drop, List.length_append, List.length_cons, List.length_nil]); omega)); intro t' k'))
  k_with "binaryOp Add bytes bytes" => (k_here; k_dflt (refine' add_B ?qea9_hx ?qea9_hy ?qea9_hz ?_; (case qea9_hx => first | with_reducible exact blit_slash | with_reducible exact blit_dot | with_reducible exact blit_dd | with_reducible exact blit_empty | with_reducible exact blit_nl | with_reducible exact rfl); (case qea9_hy => first | with_reducible exact blit_slash | with_reducible exact blit_dot | with_reducible exact blit_dd | with_reducible exact blit_empty | with_reducible exact blit_nl | with_reducible exact rfl); (case qea9_hz => first | omega | ((try simp only [List.length_take, List.length_drop, List.length_append, List.length_cons, List.length_nil]); omega)); intro t' k'))
  k_with "inplaceOp Add str str" => (k_here; k_dflt (refine' iadd_S ?qea10_hx ?qea10_hy ?qea10_hz ?_; (case qea10_hx => first | with_reducible exact lit_slash | with_reducible exact lit_dot | with_reducible exact lit_dd | with_reducible exact lit_empty | with_reducible exact lit_nl | with_reducible exact lit_crlf | with_reducible exact lit_cr | with_reducible exact rfl); (case qea10_hy => first | with_reducible exact lit_slash | with_reducible exact lit_dot | with_reducible exact lit_dd | with_reducible exact lit_empty | with_reducible exact lit_nl | with_reducible exact lit_crlf | with_reducible exact lit_cr | with_reducible exact rfl); (case qea10_hz => first | omega | ((try simp only [List.length_take, List.length_drop, List.length_append, List.length_cons, List.length_nil]); omega)); intro t' k'))
  k_with "inplaceOp Add bytes bytes" => (k_here; k_dflt (refine' iadd_B ?qea11_hx ?qea11_hy ?qea11_hz ?_; (case qea11_hx => first | with_reducible exact blit_slash | with_reducible exact blit_dot | with_reducible exact blit_dd | with_reducible exact blit_empty | with_reducible exact blit_nl | with_reducible exact rfl); (case qea11_hy => first | with_reducible exact blit_slash | with_reducible exact blit_dot | with_reducible exact blit_dd | with_reducible exact blit_empty | with_reducible exact blit_nl | with_reducible exact rfl); (case qea11_hz => first | omega | ((try simp only [List.length_take, List.length_drop, List.length_append, List.length_cons, List.length_nil]); omega)); intro t' k'))
  k_with "call builtin:str.startswith" => (k_here; k_dflt (refine' starts_S ?qea12_hy ?_; (case qea12_hy => first | with_reducible exact lit_slash | with_reducible exact lit_dot | with_reducible exact lit_dd | with_reducible exact lit_empty | with_reducible exact lit_nl | with_reducible exact lit_crlf | with_reducible exact lit_cr | with_reducible exact rfl)))
  k_with "call builtin:str.endswith" => (k_here; k_dflt (refine' ends_S ?qea13_hy ?_; (case qea13_hy => first | with_reducible exact lit_slash | with_reducible exact lit_dot | with_reducible exact lit_dd | with_reducible exact lit_empty | with_reducible exact lit_nl | with_reducible exact lit_crlf | with_reducible exact lit_cr | with_reducible exact rfl)))
  k_with "call builtin:bytes.startswith" => (k_here; k_dflt (refine' starts_B ?qea14_hy ?_; (case qea14_hy => first | with_reducible exact blit_slash | with_reducible exact blit_dot | with_reducible exact blit_dd | with_reducible exact blit_empty | with_reducible exact blit_nl | with_reducible exact rfl)))
  k_with "call builtin:bytes.endswith" => (k_here; k_dflt (refine' ends_B ?qea15_hy ?_; (case qea15_hy => first | with_reducible exact blit_slash | with_reducible exact blit_dot | with_reducible exact blit_dd | with_reducible exact blit_empty | with_reducible exact blit_nl | with_reducible exact rfl)))
  k_with "getMethod bytes" => (k_here; k_dflt (first | with_reducible refine' gm_bytes FB.slot_bytes_startswith FB.type_bytes_startswith ?_ | with_reducible refine' gm_bytes FB.slot_bytes_endswith FB.type_bytes_endswith ?_ | with_reducible refine' gm_bytes BF.slot_split BF.type_split ?_ | with_reducible refine' gm_bytes BF.slot_join BF.type_join ?_))
  k_with "truthy ref" => (k_here; k_dflt (refine' truthy_L ?qea17_N ?qea17_m ?qea17_z ?qea17_e ?_; (case qea17_N => k_asm); (case qea17_m => k_mem); (case qea17_z => first | omega | ((try simp only [List.length_take, List.length_drop, List.length_append, List.length_cons, List.length_nil]); omega)); (case qea17_e => first | exact rfl | simp); intro k'))
  k_with "subscriptTail Name UnaryOp ref int" => (k_here; k_dflt (refine' last_L ?qea18_N ?qea18_m ?qea18_e ?qea18_z ?_; (case qea18_N => k_asm); (case qea18_m => k_mem); (case qea18_e => exact rfl); (case qea18_z => first | omega | ((try simp only [List.length_take, List.length_drop, List.length_append, List.length_cons, List.length_nil]); omega))))
  k_with "call builtin:list.append" => (k_here; k_dflt (refine' app_L ?qea19_F ?qea19_N ?qea19_U ?qea19_z ?_; (case qea19_F => k_asm); (case qea19_N => k_asm); (case qea19_U => k_upd); (case qea19_z => first | omega | ((try simp only [List.length_take, List.length_drop, List.length_append, List.length_cons, List.length_nil]); omega)); (intro h' F' N'; try k_sweep)))
  k_with "call builtin:list.pop" => (k_here; k_dflt (refine' pop_L ?qea20_F ?qea20_N ?qea20_m ?qea20_e ?qea20_U ?qea20_z ?_; (case qea20_F => k_asm); (case qea20_N => k_asm); (case qea20_m => k_mem); (case qea20_e => exact rfl); (case qea20_U => k_upd); (case qea20_z => first | omega | ((try simp only [List.length_take, List.length_drop, List.length_append, List.length_cons, List.length_nil]); omega)); (intro h' F' N'; try k_sweep)))
  k_with "assign Tuple" => (k_here; k_dflt (refine' unpackN_ ?qea21_F ?qea21_N ?qea21_T ?qea21_k4 ?qea21_k5 ?qea21_k6 ?_; (case qea21_F => k_asm); (case qea21_N => k_asm); (case qea21_T => exact News.isTup (by k_asm) (by k_mem)); (case qea21_k4 => exact Room.hh (by assumption)); (case qea21_k5 => exact rfl); (case qea21_k6 => exact rfl); (intro h' F' N'; try k_sweep)))
  k_with "call builtin:str.join" => (k_here; k_dflt (refine' join_S ?qea22_hy ?qea22_hl ?qea22_hv ?qea22_hz ?_; (case qea22_hy => first | with_reducible exact lit_slash | with_reducible exact lit_dot | with_reducible exact lit_dd | with_reducible exact lit_empty | with_reducible exact lit_nl | with_reducible exact lit_crlf | with_reducible exact lit_cr | with_reducible exact rfl); (case qea22_hl => exact at_news (by k_asm) (by k_mem)); (case qea22_hv => assumption); (case qea22_hz => first | omega | ((try simp only [List.length_take, List.length_drop, List.length_append, List.length_cons, List.length_nil]); omega)); intro t' k'))
  k_with "call builtin:bytes.join" => (k_here; k_dflt (refine' join_B ?qea23_hy ?qea23_hl ?qea23_hv ?qea23_hz ?_; (case qea23_hy => first | with_reducible exact blit_slash | with_reducible exact blit_dot | with_reducible exact blit_dd | with_reducible exact blit_empty | with_reducible exact blit_nl | with_reducible exact rfl); (case qea23_hl => exact at_news (by k_asm) (by k_mem)); (case qea23_hv => assumption); (case qea23_hz => first | omega | ((try simp only [List.length_take, List.length_drop, List.length_append, List.length_cons, List.length_nil]); omega)); intro t' k'))
  k_with "call builtin:bytes.split" => (k_here; k_dflt (refine' split_B ?qea24_F ?qea24_N ?qea24_hy ?qea24_hz ?_; (case qea24_F => k_asm); (case qea24_N => k_asm); (case qea24_hy => first | with_reducible exact blit_slash | with_reducible exact blit_dot | with_reducible exact blit_dd | with_reducible exact blit_empty | with_reducible exact blit_nl | with_reducible exact rfl); (case qea24_hz => first | omega | ((try simp only [List.length_take, List.length_drop, List.length_append, List.length_cons, List.length_nil]); omega)); (intro D vs h' k' hv F' N' l1; (try k_lt l1); try k_sweep)))
  k_with "unpackItems ref" => (k_here; k_dflt (refine' unpackItemsN_ ?qea25_F ?qea25_N ?qea25_T ?qea25_k4 ?qea25_k5 ?_; (case qea25_F => k_asm); (case qea25_N => k_asm); (case qea25_T => exact News.isTup (by k_asm) (by k_mem)); (case qea25_k4 => exact Room.hh (by assumption)); (case qea25_k5 => exact rfl); (intro h' F' N'; try k_sweep)))
  k_with "callWith" => (k_here; (with_reducible refine' callWith_m1 ?qea26_hp ?_); (case qea26_hp => k_dflt (exact rfl)))
  k_with "spliced" => (k_here; (with_reducible refine' spliced_plain ?qea27_hp ?_); (case qea27_hp => k_dflt (exact rfl)))
  k_with "pyIter ref" => (k_here; refine Stop.mk ?_)
  k_with "subscriptTail Name Name ref int" => (k_here; k_dflt (refine' pick_L ?qea29_N ?qea29_m ?qea29_v ?qea29_i ?_; (case qea29_N => k_asm); (case qea29_m => k_mem); (case qea29_v => assumption); (case qea29_i => assumption); (intro v' hv'; obtain ⟨t', e'⟩ := hv'; subst e'; try dsimp only)))
  k_with "call builtin:str.split" => (k_here; k_dflt (first | (with_reducible refine' split_crlf ?qea30_F ?qea30_N ?qea30_hy ?qea30_hk ?qea30_hw ?_; (case qea30_hy => with_reducible exact lit_crlf); (case qea30_hk => assumption); (case qea30_hw => assumption); (case qea30_F => k_asm); (case qea30_N => k_asm); (intro D' vs' h' k' hv' F' N' l1; (try k_lt l1); try k_sweep)) | (with_reducible refine' split_feed ?qea30_F ?qea30_N ?qea30_hy ?qea30_hz ?_; (case qea30_hy => with_reducible exact lit_nl); (case qea30_hz => omega); (case qea30_F => k_asm); (case qea30_N => k_asm); (intro D' vs' h' k' hv' F' N' l1; (try k_lt l1); try k_sweep))))
  k_with "compareOp NotEq ref ref" => (k_here; k_dflt (first | (refine' ne_same eqS ?qea31_a ?qea31_b ?qea31_v ?qea31_u ?qea31_r ?_; (case qea31_a => exact at_news (by k_asm) (by k_mem)); (case qea31_b => exact at_news (by k_asm) (by k_mem)); (case qea31_v => assumption); (case qea31_u => assumption); (case qea31_r => exact Nat.lt_of_le_of_lt (Nat.le_add_right _ _) (Room.un (by assumption)))) | (refine' ne_same eqB ?qea31_a ?qea31_b ?qea31_v ?qea31_u ?qea31_r ?_; (case qea31_a => exact at_news (by k_asm) (by k_mem)); (case qea31_b => exact at_news (by k_asm) (by k_mem)); (case qea31_v => assumption); (case qea31_u => assumption); (case qea31_r => exact Nat.lt_of_le_of_lt (Nat.le_add_right _ _) (Room.un (by assumption))))))
  k_with "call ref" => (k_here; (with_reducible refine' call_gone_S ?qea32_F ?qea32_X ?qea32_N ?qea32_T ?qea32_m ?qea32_v ?qea32_z ?qea32_R ?qea32_e ?_); (case qea32_F => k_asm); (case qea32_X => k_asm); (case qea32_N => k_asm); (case qea32_T => k_asm); (case qea32_m => k_mem); (case qea32_v => assumption); (case qea32_z => assumption); (case qea32_R => exact Room.less (by assumption) (by decide) (by decide)); (case qea32_e => assumption); (intro a' ys' k' h' tk' hv' F' N' l1; try k_sweep))
  k_with "call ref" => (k_here; (with_reducible refine' call_gone_B ?qea33_F ?qea33_X ?qea33_N ?qea33_T ?qea33_m ?qea33_v ?qea33_z ?qea33_R ?qea33_e ?_); (case qea33_F => k_asm); (case qea33_X => k_asm); (case qea33_N => k_asm); (case qea33_T => k_asm); (case qea33_m => k_mem); (case qea33_v => assumption); (case qea33_z => assumption); (case qea33_R => exact Room.less (by assumption) (by decide) (by decide)); (case qea33_e => assumption); (intro a' ys' k' h' tk' hv' F' N' l1; try k_sweep))
  k_with "call ref" => (k_here; (with_reducible refine' call_due ?qea34_F ?qea34_X ?qea34_N ?qea34_T ?qea34_m ?qea34_v ?qea34_z ?qea34_i ?qea34_n ?qea34_R ?_); (case qea34_F => k_asm); (case qea34_X => k_asm); (case qea34_N => k_asm); (case qea34_T => k_asm); (case qea34_m => k_mem); (case qea34_v => assumption); (case qea34_z => assumption); (case qea34_i => assumption); (case qea34_n => exact cutL_ne _ _); (case qea34_R => exact Room.less (by assumption) (by decide) (by decide)); (intro a' ys' k' h' tk' hv' F' N' l1; try k_sweep))
  k_with "call ref" => (k_here; (with_reducible refine' call_oct ?qea35_F ?qea35_X ?qea35_N ?qea35_T ?qea35_b ?qea35_z ?qea35_R ?_); (case qea35_F => k_asm); (case qea35_X => k_asm); (case qea35_N => k_asm); (case qea35_T => k_asm); (case qea35_b => assumption); (case qea35_z => omega); (case qea35_R => exact Room.less (by assumption) (by decide) (by decide)); (intro t' h' tk' F' N'; try k_sweep))
  k_with "call ref" => (k_here; (with_reducible refine' call_octC ?qea36_X ?qea36_T ?qea36_b ?qea36_z ?qea36_R ?_); (case qea36_X => assumption); (case qea36_T => assumption); (case qea36_b => assumption); (case qea36_z => assumption); (case qea36_R => exact Room.less (by assumption) (by decide) (by decide)); (intro t' h' tk' kp'))
  k_fill
  exact ⟨rfl, rfl⟩
section
variable (w : World) (mean : ExcName → Option Value) (mg mb : Str → Option Value)
set_option maxRecDepth 100000
set_option maxHeartbeats 8000000
theorem gone_count {α : Type} [DecidableEq α] (sl dt : α) (root : List α) (cs : List (List α)) : (goneL sl dt root cs).length = cs.length + 2 := by
  obtain ⟨acc', p, h1, _, h3⟩ := gfold_last sl dt cs [root] (by simp)
  unfold goneL
  rw [h1]
  simp only [List.length_append, List.length_drop, List.length_cons, List.length_nil] at h3 ⊢
  omega
theorem due_count {root : List Nat} (hr : root = [] ∨ root = [47]) {k : Nat} (hk : k ≤ 2) {l : List Nat} (hl : l.length ≤ 30) : (dueL root (cutL 10 l) k).length ≤ 1000000 := by
  rw [← law_text hr hk l, gone_count]
  have h2 := cutL_length_sum 10 (dotsN k l)
  have h3 := dotsN_length hk l
  omega
theorem law_turn {name qual : Str} {params : Arguments} {s0 s1 s2 s3 s4 s5 s6 : Stmt} {tg itx : Expr} {fb oe rest : List Stmt} {ps : Pos} {scope : Scope} {dV kV doc pm cdv cdw ct ocl : Value} {an od : Option Addr} {osl : Array (Option Value)} {f : Addr} (ho : (hd.heap_39 w.params).lookup 211 = some ⟨ocl, od, .func (fnOf name qual params (s0 :: s1 :: s2 :: s3 :: s4 :: s5 :: s6 :: .For tg itx fb oe ps :: rest) scope dV kV doc pm an cdv ct), osl⟩)
    (A : Around) (h₀ : Heap) (L : Addr) (s : Shared) (hR : Room A 6 70) (X : (hd.heap_39 w.params).In h₀) (T : TopM mean mg mb h₀) (r W : List Nat) (tr tb tw ti : Tok) (g a oc ml rw : Addr) (u0 ud : Option Value) (vo vm vr : List Value) (no nm nr i : Nat) (own : List (Addr × Obj)) (Q : Flow → Shared → Prop)
    (hi : i ≤ 2) (hr : r = [] ∨ r = [47]) (hw : W.length ≤ 30) (h256 : ∀ c ∈ W, c < 256) (hvr : All2 SItem vr (cutL 10 (nlL W))) (hvm : All2 SItem vm (([0, 1, 2] : List Nat).map (mailL W))) (hvo : All2 BItem vo (([0, 1, 2] : List Nat).map fun k => dotsB k (octs W)))
    (F : Fr h₀ L s.heap (fun y => if y = Str.ofString "times" then some (.int (i : Nat) ti) else if y = Str.ofString "due" then ud else (fun y => if y = Str.ofString "octets" then some (Value.ref oc) else if y = Str.ofString "bare" then some (Value.bytes (octs W).toArray tb) else if y = Str.ofString "mails" then some (Value.ref ml) else if y = Str.ofString "rows" then some (Value.ref rw) else if y = Str.ofString "written" then some (Value.str ⟨W.toArray⟩ tw) else if y = Str.ofString "x" then u0 else if y = Str.ofString "root" then some (Value.str ⟨r.toArray⟩ tr) else if y = Str.ofString "signs" then some (Value.ref g) else List.lookup y [(Str.ofString "script", Value.ref a)].reverse) y)) (N : News h₀ L s.heap ((oc, PySem.W.listOf vo.toArray no) :: (ml, PySem.W.listOf vm.toArray nm) :: (rw, PySem.W.listOf vr.toArray nr) :: own)) :
    wpAny (model PP w) A (execs fb (envOf qual scope L f cdw)) (TurnK h₀ L (Str.ofString "times") (Str.ofString "due") [(oc, PySem.W.listOf vo.toArray no), (ml, PySem.W.listOf vm.toArray nm), (rw, PySem.W.listOf vr.toArray nr)] own (fun y => if y = Str.ofString "octets" then some (Value.ref oc) else if y = Str.ofString "bare" then some (Value.bytes (octs W).toArray tb) else if y = Str.ofString "mails" then some (Value.ref ml) else if y = Str.ofString "rows" then some (Value.ref rw) else if y = Str.ofString "written" then some (Value.str ⟨W.toArray⟩ tw) else if y = Str.ofString "x" then u0 else if y = Str.ofString "root" then some (Value.str ⟨r.toArray⟩ tr) else if y = Str.ofString "signs" then some (Value.ref g) else List.lookup y [(Str.ofString "script", Value.ref a)].reverse) s Q) (fun _ _ => False) s := by
  cases ho
  have e1 : goneL 47 46 r (cutL 10 (dotsN i (nlL W))) = dueL r (cutL 10 (nlL W)) i := law_text hr hi _
  have e2 : goneL 47 46 (octs r) (cutL 10 (dotsB i (octs W))) = (dueL r (cutL 10 W) i).map octs := law_octets hr hi h256
  have z1 := gone_room hr hi (w := nlL W) (Nat.le_trans (nl_length W) hw)
  have z2 := due_room hr (w := nlL W) (Nat.le_trans (nl_length W) hw)
  have z3 := due_room hr hw
  have hol : (octs W).length = W.length := List.length_map ..
  have z4 := gone_roomB hr hi (b := octs W) (by omega)
  have z5 := dotsB_length hi (octs W)
  have r256 : ∀ c ∈ r, c < 256 := by rcases hr with rfl | rfl <;> simp
  have rl : r.length ≤ 1 := by rcases hr with rfl | rfl <;> simp
  have d256 := due_signs hr hi h256
  have dsz := due_size hr hi hw
  (try dsimp only); (try k_fold)
  repeat' (goal_lacks Stop; first | (k_unfold; (try dsimp only)) | (k_end; wrow_close) | walk1 | (dsimp only; walk1) | (leave1; try dsimp only))
  (with_reducible rename News _ _ _ _ => N1)
  (with_reducible rename Fr _ _ _ _ => F1)
  (with_reducible rename All2 SItem _ (dueL r (cutL 10 W) i) => hdue)
  refine comp_LA (Item := SItem) (Got := BItem) octs hR.hh hdue ?xz item_uniq F1 N1 (.head _) ?g2 ?g3
  case xz => exact due_count hr hi hw
  case g2 =>
    intro C c v s₂ m₂ E' hc hv hns hm hk
    obtain ⟨u, rfl⟩ := hv
    have c256 := d256 c hc
    have csz : c.length ≤ 100000 := Nat.le_trans (dsz c hc) (by decide)
    have k2 : Keeps h₀ s₂.heap := fun b o e => hk _ _ (F1.keep _ _ e)
    have X2 := X.keeps k2
    have T2 := T.keeps k2
    k_steps
    all_goals (first | exact ⟨_, rfl⟩ | exact ⟨_, _, rfl, by assumption⟩)
  case g3 =>
    intro D ys k h' tk hys F N hne
    (try dsimp only); (try k_fold)
    repeat' (goal_lacks Stop; first | (k_unfold; (try dsimp only)) | (k_end; wrow_close) | walk1 | (dsimp only; walk1) | (leave1; try dsimp only))
    (try dsimp only)
    (with_reducible rename News _ _ _ _ => N2)
    (with_reducible rename Fr _ _ _ _ => F2)
    refine TurnK.next F2 N2 (fun p hp => ?_) (fun y q1 q2 => ?_)
    · repeat (first | exact hp | refine List.mem_cons_of_mem _ ?_)
    · simp only [if_neg q1, if_neg q2]
end
end Mine
end
section
open PySem PySem.W PyProof.Rows PySem.Calls
namespace Mine
theorem kf_fn12 : PySem.Challenge.rw_ik0040_01 = PySem.Challenge.rw_ik0040_01 ∧ hd.heap_39 = hd.heap_39 := by
  k_with_none
  k_with "exec For" => (k_here; (with_reducible rename Fr _ _ _ _ => lF'); k_dflt (refine' For_invVF lF' ?qeb0_k1 ?qeb0_k2 ?_ ?qeb0_k3 ?qeb0_k4; (case qeb0_k1 => exact rfl); (case qeb0_k2 => exact rfl); (case qeb0_k3 => intro _; rfl); (case qeb0_k4 => exact PassesOwn.never); k_whole))
  k_with "subscriptTail Name Slice str ref" => (k_here; k_dflt (refine' slice_S (s := ⟨_, _, _, _, _⟩) ?qeb1_F ?qeb1_N ?qeb1_hl ?qeb1_hu ?qeb1_hz ?qeb1_e ?_; (case qeb1_F => k_asm); (case qeb1_N => k_asm); (case qeb1_hl => constructor); (case qeb1_hu => constructor); (case qeb1_hz => first | omega | ((try simp only [List.length_take, List.length_drop, List.length_append, List.length_cons, List.length_nil]); omega)); (case qeb1_e => first | with_reducible exact cut_h1 _ | with_reducible exact cut_h2 _ | with_reducible exact cut_l1 _ | with_reducible exact cut_l2 _ | with_reducible exact cut_12 _ | with_reducible exact cut_23 _ | with_reducible exact cut_m1 _); (intro h' t' k' F' N'; try k_sweep)))
  k_with "subscriptTail Name Slice bytes ref" => (k_here; k_dflt (refine' slice_B (s := ⟨_, _, _, _, _⟩) ?qeb2_F ?qeb2_N ?qeb2_hl ?qeb2_hu ?qeb2_hz ?qeb2_e ?_; (case qeb2_F => k_asm); (case qeb2_N => k_asm); (case qeb2_hl => constructor); (case qeb2_hu => constructor); (case qeb2_hz => first | omega | ((try simp only [List.length_take, List.length_drop, List.length_append, List.length_cons, List.length_nil]); omega)); (case qeb2_e => first | with_reducible exact cut_h1 _ | with_reducible exact cut_h2 _ | with_reducible exact cut_l1 _ | with_reducible exact cut_l2 _ | with_reducible exact cut_12 _ | with_reducible exact cut_23 _ | with_reducible exact cut_m1 _); (intro h' t' k' F' N'; try k_sweep)))
  k_with "compareOp Eq str str" => (k_here; k_dflt (refine' eq_S ?qeb3_hx ?qeb3_hy ?_; (case qeb3_hx => first | with_reducible exact lit_slash | with_reducible exact lit_dot | with_reducible exact lit_dd | with_reducible exact lit_empty | with_reducible exact lit_nl | with_reducible exact lit_crlf | with_reducible exact lit_cr | with_reducible exact rfl); (case qeb3_hy => first | with_reducible exact lit_slash | with_reducible exact lit_dot | with_reducible exact lit_dd | with_reducible exact lit_empty | with_reducible exact lit_nl | with_reducible exact lit_crlf | with_reducible exact lit_cr | with_reducible exact rfl)))
  k_with "compareOp Eq bytes bytes" => (k_here; k_dflt (refine' eq_B ?qeb4_hx ?qeb4_hy ?_; (case qeb4_hx => first | with_reducible exact blit_slash | with_reducible exact blit_dot | with_reducible exact blit_dd | with_reducible exact blit_empty | with_reducible exact blit_nl | with_reducible exact rfl); (case qeb4_hy => first | with_reducible exact blit_slash | with_reducible exact blit_dot | with_reducible exact blit_dd | with_reducible exact blit_empty | with_reducible exact blit_nl | with_reducible exact rfl)))
  k_with "compareOp NotEq str str" => (k_here; k_dflt (refine' ne_S ?qeb5_hx ?qeb5_hy ?_; (case qeb5_hx => first | with_reducible exact lit_slash | with_reducible exact lit_dot | with_reducible exact lit_dd | with_reducible exact lit_empty | with_reducible exact lit_nl | with_reducible exact lit_crlf | with_reducible exact lit_cr | with_reducible exact rfl); (case qeb5_hy => first | with_reducible exact lit_slash | with_reducible exact lit_dot | with_reducible exact lit_dd | with_reducible exact lit_empty | with_reducible exact lit_nl | with_reducible exact lit_crlf | with_reducible exact lit_cr | with_reducible exact rfl)))
  k_with "compareOp NotEq bytes bytes" => (k_here; k_dflt (refine' ne_B ?qeb6_hx ?qeb6_hy ?_; (case qeb6_hx => first | with_reducible exact blit_slash | with_reducible exact blit_dot | with_reducible exact blit_dd | with_reducible exact blit_empty | with_reducible exact blit_nl | with_reducible exact rfl); (case qeb6_hy => first | with_reducible exact blit_slash | with_reducible exact blit_dot | with_reducible exact blit_dd | with_reducible exact blit_empty | with_reducible exact blit_nl | with_reducible exact rfl)))
  k_with "truthy str" => (k_here; k_dflt (refine' truthy_S ?qeb7_hz ?_; (case qeb7_hz => first | omega | ((try simp only [List.length_take, List.length_drop, List.length_append, List.length_cons, List.length_nil]); omega)); intro k'))
  k_with "truthy bytes" => (k_here; k_dflt (refine' truthy_B ?qeb8_hz ?_; (case qeb8_hz => first | omega | ((try simp only [List.length_take, List.length_drop, List.length_append, List.length_cons, List.length_nil]); omega)); intro k'))
  k_with "binaryOp Add str str" => (k_here; k_dflt (refine' add_S ?qeb9_hx ?qeb9_hy ?qeb9_hz ?_; (case qeb9_hx => first | with_reducible exact lit_slash | with_reducible exact lit_dot | with_reducible exact lit_dd | with_reducible exact lit_empty | with_reducible exact lit_nl | with_reducible exact lit_crlf | with_reducible exact lit_cr | with_reducible exact rfl); (case qeb9_hy => first | with_reducible exact lit_slash | with_reducible exact lit_dot | with_reducible exact lit_dd | with_reducible exact lit_empty | with_reducible exact lit_nl | with_reducible exact lit_crlf | with_reducible exact lit_cr | with_reducible exact rfl); (case qeb9_hz => first | omega | ((try simp only [List.length_take, List.length_drop, List.length_append, List.length_cons, List.length_nil]); omega)); intro t' k'))
  k_with "binaryOp Add bytes bytes" => (k_here; k_dflt (refine' add_B ?qeb10_hx ?qeb10_hy ?qeb10_hz ?_; (case qeb10_hx => first | with_reducible exact blit_slash | with_reducible exact blit_dot | with_reducible exact blit_dd | with_reducible exact blit_empty | with_reducible exact blit_nl | with_reducible exact rfl); (case qeb10_hy => first | with_reducible exact blit_slash | with_reducible exact blit_dot | with_reducible exact blit_dd | with_reducible exact blit_empty | with_reducible exact blit_nl | with_reducible exact rfl); (case qeb10_hz => first | omega | ((try simp only [List.length_take, List.length_drop, List.length_append, List.length_cons, List.length_nil]); omega)); intro t' k'))
  k_with "inplaceOp Add str str" => (k_here; k_dflt (refine' iadd_S ?qeb11_hx ?qeb11_hy ?qeb11_hz ?_; (case qeb11_hx => first | with_reducible exact lit_slash | with_reducible exact lit_dot | with_reducible exact lit_dd | with_reducible exact lit_empty | with_reducible exact lit_nl | with_reducible exact lit_crlf | with_reducible exact lit_cr | with_reducible exact rfl); (case qeb11_hy => first | with_reducible exact lit_slash | with_reducible exact lit_dot | with_reducible exact lit_dd | with_reducible exact lit_empty | with_reducible exact lit_nl | with_reducible exact lit_crlf | with_reducible exact lit_cr | with_reducible exact rfl); (case qeb11_hz => first | omega | ((try simp only [List.length_take, List.length_drop, List.length_append, List.length_cons, List.length_nil]); omega)); intro t' k'))
  k_with "inplaceOp Add bytes bytes" => (k_here; k_dflt (refine' iadd_B ?qeb12_hx ?qeb12_hy ?qeb12_hz ?_; (case qeb12_hx => first | with_reducible exact blit_slash | with_reducible exact blit_dot | with_reducible exact blit_dd | with_reducible exact blit_empty | with_reducible exact blit_nl | with_reducible exact rfl); (case qeb12_hy => first | with_reducible exact blit_slash | with_reducible exact blit_dot | with_reducible exact blit_dd | with_reducible exact blit_empty | with_reducible exact blit_nl | with_reducible exact rfl); (case qeb12_hz => first | omega | ((try simp only [List.length_take, List.length_drop, List.length_append, List.length_cons, List.length_nil]); omega)); intro t' k'))
  k_with "call builtin:str.startswith" => (k_here; k_dflt (refine' starts_S ?qeb13_hy ?_; (case qeb13_hy => first | with_reducible exact lit_slash | with_reducible exact lit_dot | with_reducible exact lit_dd | with_reducible exact lit_empty | with_reducible exact lit_nl | with_reducible exact lit_crlf | with_reducible exact lit_cr | with_reducible exact rfl)))
  k_with "call builtin:str.endswith" => (k_here; k_dflt (refine' ends_S ?qeb14_hy ?_; (case qeb14_hy => first | with_reducible exact lit_slash | with_reducible exact lit_dot | with_reducible exact lit_dd | with_reducible exact lit_empty | with_reducible exact lit_nl | with_reducible exact lit_crlf | with_reducible exact lit_cr | with_reducible exact rfl)))
  k_with "call builtin:bytes.startswith" => (k_here; k_dflt (refine' starts_B ?qeb15_hy ?_; (case qeb15_hy => first | with_reducible exact blit_slash | with_reducible exact blit_dot | with_reducible exact blit_dd | with_reducible exact blit_empty | with_reducible exact blit_nl | with_reducible exact rfl)))
  k_with "call builtin:bytes.endswith" => (k_here; k_dflt (refine' ends_B ?qeb16_hy ?_; (case qeb16_hy => first | with_reducible exact blit_slash | with_reducible exact blit_dot | with_reducible exact blit_dd | with_reducible exact blit_empty | with_reducible exact blit_nl | with_reducible exact rfl)))
  k_with "getMethod bytes" => (k_here; k_dflt (first | with_reducible refine' gm_bytes FB.slot_bytes_startswith FB.type_bytes_startswith ?_ | with_reducible refine' gm_bytes FB.slot_bytes_endswith FB.type_bytes_endswith ?_ | with_reducible refine' gm_bytes BF.slot_split BF.type_split ?_ | with_reducible refine' gm_bytes BF.slot_join BF.type_join ?_))
  k_with "truthy ref" => (k_here; k_dflt (refine' truthy_L ?qeb18_N ?qeb18_m ?qeb18_z ?qeb18_e ?_; (case qeb18_N => k_asm); (case qeb18_m => k_mem); (case qeb18_z => first | omega | ((try simp only [List.length_take, List.length_drop, List.length_append, List.length_cons, List.length_nil]); omega)); (case qeb18_e => first | exact rfl | simp); intro k'))
  k_with "subscriptTail Name UnaryOp ref int" => (k_here; k_dflt (refine' last_L ?qeb19_N ?qeb19_m ?qeb19_e ?qeb19_z ?_; (case qeb19_N => k_asm); (case qeb19_m => k_mem); (case qeb19_e => exact rfl); (case qeb19_z => first | omega | ((try simp only [List.length_take, List.length_drop, List.length_append, List.length_cons, List.length_nil]); omega))))
  k_with "call builtin:list.append" => (k_here; k_dflt (refine' app_L ?qeb20_F ?qeb20_N ?qeb20_U ?qeb20_z ?_; (case qeb20_F => k_asm); (case qeb20_N => k_asm); (case qeb20_U => k_upd); (case qeb20_z => first | omega | ((try simp only [List.length_take, List.length_drop, List.length_append, List.length_cons, List.length_nil]); omega)); (intro h' F' N'; try k_sweep)))
  k_with "call builtin:list.pop" => (k_here; k_dflt (refine' pop_L ?qeb21_F ?qeb21_N ?qeb21_m ?qeb21_e ?qeb21_U ?qeb21_z ?_; (case qeb21_F => k_asm); (case qeb21_N => k_asm); (case qeb21_m => k_mem); (case qeb21_e => exact rfl); (case qeb21_U => k_upd); (case qeb21_z => first | omega | ((try simp only [List.length_take, List.length_drop, List.length_append, List.length_cons, List.length_nil]); omega)); (intro h' F' N'; try k_sweep)))
  k_with "assign Tuple" => (k_here; k_dflt (refine' unpackN_ ?qeb22_F ?qeb22_N ?qeb22_T ?qeb22_k4 ?qeb22_k5 ?qeb22_k6 ?_; (case qeb22_F => k_asm); (case qeb22_N => k_asm); (case qeb22_T => exact News.isTup (by k_asm) (by k_mem)); (case qeb22_k4 => exact Room.hh (by assumption)); (case qeb22_k5 => exact rfl); (case qeb22_k6 => exact rfl); (intro h' F' N'; try k_sweep)))
  k_with "call builtin:str.join" => (k_here; k_dflt (refine' join_S ?qeb23_hy ?qeb23_hl ?qeb23_hv ?qeb23_hz ?_; (case qeb23_hy => first | with_reducible exact lit_slash | with_reducible exact lit_dot | with_reducible exact lit_dd | with_reducible exact lit_empty | with_reducible exact lit_nl | with_reducible exact lit_crlf | with_reducible exact lit_cr | with_reducible exact rfl); (case qeb23_hl => exact at_news (by k_asm) (by k_mem)); (case qeb23_hv => assumption); (case qeb23_hz => first | omega | ((try simp only [List.length_take, List.length_drop, List.length_append, List.length_cons, List.length_nil]); omega)); intro t' k'))
  k_with "call builtin:bytes.join" => (k_here; k_dflt (refine' join_B ?qeb24_hy ?qeb24_hl ?qeb24_hv ?qeb24_hz ?_; (case qeb24_hy => first | with_reducible exact blit_slash | with_reducible exact blit_dot | with_reducible exact blit_dd | with_reducible exact blit_empty | with_reducible exact blit_nl | with_reducible exact rfl); (case qeb24_hl => exact at_news (by k_asm) (by k_mem)); (case qeb24_hv => assumption); (case qeb24_hz => first | omega | ((try simp only [List.length_take, List.length_drop, List.length_append, List.length_cons, List.length_nil]); omega)); intro t' k'))
  k_with "call builtin:bytes.split" => (k_here; k_dflt (refine' split_B ?qeb25_F ?qeb25_N ?qeb25_hy ?qeb25_hz ?_; (case qeb25_F => k_asm); (case qeb25_N => k_asm); (case qeb25_hy => first | with_reducible exact blit_slash | with_reducible exact blit_dot | with_reducible exact blit_dd | with_reducible exact blit_empty | with_reducible exact blit_nl | with_reducible exact rfl); (case qeb25_hz => first | omega | ((try simp only [List.length_take, List.length_drop, List.length_append, List.length_cons, List.length_nil]); omega)); (intro D vs h' k' hv F' N' l1; (try k_lt l1); try k_sweep)))
  k_with "unpackItems ref" => (k_here; k_dflt (refine' unpackItemsN_ ?qeb26_F ?qeb26_N ?qeb26_T ?qeb26_k4 ?qeb26_k5 ?_; (case qeb26_F => k_asm); (case qeb26_N => k_asm); (case qeb26_T => exact News.isTup (by k_asm) (by k_mem)); (case qeb26_k4 => exact Room.hh (by assumption)); (case qeb26_k5 => exact rfl); (intro h' F' N'; try k_sweep)))
  k_with "callWith" => (k_here; (with_reducible refine' callWith_m1 ?qeb27_hp ?_); (case qeb27_hp => k_dflt (exact rfl)))
  k_with "spliced" => (k_here; (with_reducible refine' spliced_plain ?qeb28_hp ?_); (case qeb28_hp => k_dflt (exact rfl)))
  k_with "pyIter ref" => (k_here; refine Stop.mk ?_)
  k_with "subscriptTail Name Name ref int" => (k_here; k_dflt (refine' pick_L ?qeb30_N ?qeb30_m ?qeb30_v ?qeb30_i ?_; (case qeb30_N => k_asm); (case qeb30_m => k_mem); (case qeb30_v => assumption); (case qeb30_i => assumption); (intro v' hv'; obtain ⟨t', e'⟩ := hv'; subst e'; try dsimp only)))
  k_with "call builtin:str.split" => (k_here; k_dflt (first | (with_reducible refine' split_crlf ?qeb31_F ?qeb31_N ?qeb31_hy ?qeb31_hk ?qeb31_hw ?_; (case qeb31_hy => with_reducible exact lit_crlf); (case qeb31_hk => assumption); (case qeb31_hw => assumption); (case qeb31_F => k_asm); (case qeb31_N => k_asm); (intro D' vs' h' k' hv' F' N' l1; (try k_lt l1); try k_sweep)) | (with_reducible refine' split_feed ?qeb31_F ?qeb31_N ?qeb31_hy ?qeb31_hz ?_; (case qeb31_hy => with_reducible exact lit_nl); (case qeb31_hz => omega); (case qeb31_F => k_asm); (case qeb31_N => k_asm); (intro D' vs' h' k' hv' F' N' l1; (try k_lt l1); try k_sweep))))
  k_with "compareOp NotEq ref ref" => (k_here; k_dflt (first | (refine' ne_same eqS ?qeb32_a ?qeb32_b ?qeb32_v ?qeb32_u ?qeb32_r ?_; (case qeb32_a => exact at_news (by k_asm) (by k_mem)); (case qeb32_b => exact at_news (by k_asm) (by k_mem)); (case qeb32_v => assumption); (case qeb32_u => assumption); (case qeb32_r => exact Nat.lt_of_le_of_lt (Nat.le_add_right _ _) (Room.un (by assumption)))) | (refine' ne_same eqB ?qeb32_a ?qeb32_b ?qeb32_v ?qeb32_u ?qeb32_r ?_; (case qeb32_a => exact at_news (by k_asm) (by k_mem)); (case qeb32_b => exact at_news (by k_asm) (by k_mem)); (case qeb32_v => assumption); (case qeb32_u => assumption); (case qeb32_r => exact Nat.lt_of_le_of_lt (Nat.le_add_right _ _) (Room.un (by assumption))))))
  k_with "call builtin:str.join" => (k_here; k_dflt (refine' join_signs ?qeb33_hy ?qeb33_hl ?qeb33_hv ?qeb33_e ?qeb33_hz ?_; (case qeb33_hy => first | with_reducible exact lit_slash | with_reducible exact lit_dot | with_reducible exact lit_dd | with_reducible exact lit_empty | with_reducible exact lit_nl | with_reducible exact lit_crlf | with_reducible exact lit_cr | with_reducible exact rfl); (case qeb33_hl => exact at_news (by k_asm) (by k_mem)); (case qeb33_hv => assumption); (case qeb33_e => assumption); (case qeb33_hz => omega); (intro t' k' hk'; (try dsimp only at hk'))))
  k_with "call builtin:str.replace" => (k_here; k_dflt (first | (with_reducible refine' replace_1 ?qeb34_hy ?qeb34_hz ?qeb34_hu ?qeb34_hv ?qeb34_huv ?qeb34_hw ?_; (case qeb34_hy => with_reducible exact lit_crlf); (case qeb34_hz => with_reducible exact lit_nl); (case qeb34_hu => ((show @Ne Nat _ _); (try dsimp only); omega)); (case qeb34_hv => ((show @Ne Nat _ _); (try dsimp only); omega)); (case qeb34_huv => ((show @Ne Nat _ _); (try dsimp only); omega)); (case qeb34_hw => assumption); (intro t' k' hk'; (try dsimp only at hk'))) | (with_reducible refine' replace_2 ?qeb34_hy ?qeb34_hz ?qeb34_hu ?qeb34_hv ?qeb34_huv ?qeb34_hw ?_; (case qeb34_hy => with_reducible exact lit_cr); (case qeb34_hz => with_reducible exact lit_nl); (case qeb34_hu => ((show @Ne Nat _ _); (try dsimp only); omega)); (case qeb34_hv => ((show @Ne Nat _ _); (try dsimp only); omega)); (case qeb34_huv => ((show @Ne Nat _ _); (try dsimp only); omega)); (case qeb34_hw => assumption); (intro t' k' hk'; (try dsimp only at hk')))))
  k_with "execs cons" => (k_here; (try dsimp only); (with_reducible refine wpAny_execs_cons ?_); (try dsimp only))
  k_with "call ref" => (k_here; (with_reducible refine' call_fix _ _ _ _ ?qeb36_F ?qeb36_X ?qeb36_N ?qeb36_T ?qeb36_e ?qeb36_z ?qeb36_R ?_); (case qeb36_F => k_asm); (case qeb36_X => k_asm); (case qeb36_N => k_asm); (case qeb36_T => k_asm); (case qeb36_e => assumption); (case qeb36_z => assumption); (case qeb36_R => exact Room.less (by assumption) (by decide) (by decide)); (intro t' h' tk' F' N'; try k_sweep))
  k_with "call ref" => (k_here; (with_reducible refine' call_quote _ _ _ _ ?qeb37_F ?qeb37_X ?qeb37_N ?qeb37_T ?qeb37_e ?qeb37_z ?qeb37_R ?_); (case qeb37_F => k_asm); (case qeb37_X => k_asm); (case qeb37_N => k_asm); (case qeb37_T => k_asm); (case qeb37_e => assumption); (case qeb37_z => assumption); (case qeb37_R => exact Room.less (by assumption) (by decide) (by decide)); (intro t' h' tk' F' N'; try k_sweep))
  k_with "call ref" => (k_here; (with_reducible refine' call_periods _ _ _ _ ?qeb38_F ?qeb38_X ?qeb38_N ?qeb38_T ?qeb38_e ?qeb38_z ?qeb38_R ?_); (case qeb38_F => k_asm); (case qeb38_X => k_asm); (case qeb38_N => k_asm); (case qeb38_T => k_asm); (case qeb38_e => assumption); (case qeb38_z => assumption); (case qeb38_R => exact Room.less (by assumption) (by decide) (by decide)); (intro t' h' tk' F' N'; try k_sweep))
  k_with "call ref" => (k_here; (with_reducible refine' call_oct ?qeb39_F ?qeb39_X ?qeb39_N ?qeb39_T ?qeb39_b ?qeb39_z ?qeb39_R ?_); (case qeb39_F => k_asm); (case qeb39_X => k_asm); (case qeb39_N => k_asm); (case qeb39_T => k_asm); (case qeb39_b => assumption); (case qeb39_z => omega); (case qeb39_R => exact Room.less (by assumption) (by decide) (by decide)); (intro t' h' tk' F' N'; try k_sweep))
  k_fill
  exact ⟨rfl, rfl⟩
section
variable (w : World) (mean : ExcName → Option Value) (mg mb : Str → Option Value)
set_option maxRecDepth 100000
set_option maxHeartbeats 8000000
theorem call_fix {A : Around} {s : Shared} {h₀ : Heap} {L : Addr} {m : Str → Option Value} {news : List (Addr × Obj)} {t : Tok} {Q E : Value → Shared → Prop} {l X : List Nat} (F : Fr h₀ L s.heap m) (X₀ : (hd.heap_39 w.params).In h₀) (N : News h₀ L s.heap news) (T : TopM mean mg mb h₀) (e : fixL l = X) (hz : l.length ≤ 10000) (hr : Room A 1 12)
    (h : ∀ t' h' tk', Fr h₀ L h' m → News h₀ L h' news → Q (.str ⟨X.toArray⟩ t') { s with heap := h', toks := tk' }) : wpAny (model PP w) A (call (.ref 74) [.str ⟨l.toArray⟩ t]) Q E s := by
  subst e
  exact call_spec F X₀ N T (fixeols_spec w mean mg mb l t) hr hz fun v h' tk' F' N' _ o => by
    obtain ⟨t', rfl⟩ := o
    exact h t' h' tk' F' N'
theorem call_quote {A : Around} {s : Shared} {h₀ : Heap} {L : Addr} {m : Str → Option Value} {news : List (Addr × Obj)} {t : Tok} {Q E : Value → Shared → Prop} {l X : List Nat} (F : Fr h₀ L s.heap m) (X₀ : (hd.heap_39 w.params).In h₀) (N : News h₀ L s.heap news) (T : TopM mean mg mb h₀) (e : dotsL 10 46 true (fixL l) = X) (hz : l.length ≤ 10000) (hr : Room A 1 12)
    (h : ∀ t' h' tk', Fr h₀ L h' m → News h₀ L h' news → Q (.str ⟨X.toArray⟩ t') { s with heap := h', toks := tk' }) : wpAny (model PP w) A (call (.ref 60) [.str ⟨l.toArray⟩ t]) Q E s := by
  subst e
  exact call_spec F X₀ N T (quotedata_spec w mean mg mb l t) hr hz fun v h' tk' F' N' _ o => by
    obtain ⟨t', rfl⟩ := o
    exact h t' h' tk' F' N'
theorem call_periods {A : Around} {s : Shared} {h₀ : Heap} {L : Addr} {m : Str → Option Value} {news : List (Addr × Obj)} {t : Tok} {Q E : Value → Shared → Prop} {l X : List UInt8} (F : Fr h₀ L s.heap m) (X₀ : (hd.heap_39 w.params).In h₀) (N : News h₀ L s.heap news) (T : TopM mean mg mb h₀) (e : dotsL 10 46 true l = X) (hz : l.length ≤ 10000) (hr : Room A 1 12)
    (h : ∀ t' h' tk', Fr h₀ L h' m → News h₀ L h' news → Q (.bytes X.toArray t') { s with heap := h', toks := tk' }) : wpAny (model PP w) A (call (.ref 67) [.bytes l.toArray t]) Q E s := by
  subst e
  exact call_spec F X₀ N T (periods_spec w mean mg mb l t) hr hz fun v h' tk' F' N' _ o => by
    obtain ⟨t', rfl⟩ := o
    exact h t' h' tk' F' N'
theorem three {h₀ h : Heap} {L : Addr} {news : List (Addr × Obj)} {a b c : Addr × Obj} (N : News h₀ L h news) (ha : a ∈ news) (hb : b ∈ news) (hc : c ∈ news) : News h₀ L h [a, b, c] := by
  intro p hp
  simp only [List.mem_cons, List.not_mem_nil, or_false] at hp
  rcases hp with rfl | rfl | rfl
  · exact N _ ha
  · exact N _ hb
  · exact N _ hc
theorem law_loop {name qual : Str} {params : Arguments} {s0 s1 s2 s3 s4 s5 s6 : Stmt} {tg itx : Expr} {fb oe rest : List Stmt} {ps : Pos} {scope : Scope} {dV kV doc pm cdv cdw ct ocl : Value} {an od : Option Addr} {osl : Array (Option Value)} {f : Addr} (ho : (hd.heap_39 w.params).lookup 211 = some ⟨ocl, od, .func (fnOf name qual params (s0 :: s1 :: s2 :: s3 :: s4 :: s5 :: s6 :: .For tg itx fb oe ps :: rest) scope dV kV doc pm an cdv ct), osl⟩)
    (A : Around) (h₀ : Heap) (L : Addr) (s : Shared) (hR : Room A 6 70) (X : (hd.heap_39 w.params).In h₀) (T : TopM mean mg mb h₀) (r W : List Nat) (tr tb tw : Tok) (g a oc ml rw rg : Addr) (u0 : Option Value) (vo vm vr : List Value) (no nm nr : Nat) (news : List (Addr × Obj)) (Q : Flow → Shared → Prop) {t₀ u₀ v₀ : Tok}
    (hr : r = [] ∨ r = [47]) (hw : W.length ≤ 30) (h256 : ∀ c ∈ W, c < 256) (hvr : All2 SItem vr (cutL 10 (nlL W))) (hvm : All2 SItem vm (([0, 1, 2] : List Nat).map (mailL W))) (hvo : All2 BItem vo (([0, 1, 2] : List Nat).map fun k => dotsB k (octs W)))
    (F : Fr h₀ L s.heap (fun y => if y = Str.ofString "octets" then some (Value.ref oc) else if y = Str.ofString "bare" then some (Value.bytes (octs W).toArray tb) else if y = Str.ofString "mails" then some (Value.ref ml) else if y = Str.ofString "rows" then some (Value.ref rw) else if y = Str.ofString "written" then some (Value.str ⟨W.toArray⟩ tw) else if y = Str.ofString "x" then u0 else if y = Str.ofString "root" then some (Value.str ⟨r.toArray⟩ tr) else if y = Str.ofString "signs" then some (Value.ref g) else List.lookup y [(Str.ofString "script", Value.ref a)].reverse)) (N : News h₀ L s.heap news) (ko : (oc, PySem.W.listOf vo.toArray no) ∈ news) (km : (ml, PySem.W.listOf vm.toArray nm) ∈ news) (kr : (rw, PySem.W.listOf vr.toArray nr) ∈ news)
    (hrg : IsRange s.heap rg 0 3 1 t₀ u₀ v₀) (done : ∀ (m : Str → Option Value) h tk, Fr h₀ L h m → Q .next { s with heap := h, toks := tk }) :
    wpAny (model PP w) A (pyIter (.ref rg)) (fun it s₂ => LoopAtV PP w A h₀ (envOf qual scope L f cdw) (Str.ofString "times") fb Q (fun _ _ => False) it s₂) (fun _ _ => False) s := by
  refine iter_turns (n := 3) (Str.ofString "due") hR.hh hrg (by decide) (by decide) F (three N ko km kr) ?turn ?done
  case turn =>
    intro i t u h tk own hi F' N'
    exact law_turn w mean mg mb ho A h₀ L { s with heap := h, toks := tk } hR X T r W tr tb tw t g a oc ml rw u0 u vo vm vr no nm nr i own Q (Nat.le_of_lt_succ hi) hr hw h256 hvr hvm hvo F' N'
  case done =>
    intro u v h tk F' _
    exact done _ h tk F'
theorem law_rest {name qual : Str} {params : Arguments} {s0 s1 s2 s3 s4 s5 s6 : Stmt} {tg itx : Expr} {fb oe rest : List Stmt} {ps : Pos} {scope : Scope} {dV kV doc pm cdv cdw ct ocl : Value} {an od : Option Addr} {osl : Array (Option Value)} {f : Addr} (ho : (hd.heap_39 w.params).lookup 211 = some ⟨ocl, od, .func (fnOf name qual params (s0 :: s1 :: s2 :: s3 :: s4 :: s5 :: s6 :: .For tg itx fb oe ps :: rest) scope dV kV doc pm an cdv ct), osl⟩)
    (A : Around) (h₀ : Heap) (L : Addr) (s : Shared) (hR : Room A 6 70) (X : (hd.heap_39 w.params).In h₀) (T : TopM mean mg mb h₀) (r : List Nat) (tr : Tok) (g a : Addr) (u0 : Option Value) (ys : List Value) (k n : Nat) (hr : r = [] ∨ r = [47]) (hG : GotSigns n ys) (hn : n ≤ 10)
    (F : Fr h₀ L s.heap (fun y => if y = Str.ofString "x" then u0 else (fun y => if y = Str.ofString "root" then some (.str ⟨r.toArray⟩ tr) else if y = Str.ofString "signs" then some (Value.ref g) else List.lookup y [(Str.ofString "script", Value.ref a)].reverse) y)) (N : News h₀ L s.heap [(g, PySem.W.listOf ys.toArray k)]) :
    wpAny (model PP w) A (execs (s2 :: s3 :: s4 :: s5 :: s6 :: .For tg itx fb oe ps :: rest) (envOf qual scope L f cdw)) (Back (fun _ _ v => v = .bool true) h₀ s) (fun _ _ => False) s := by
  have ho' := ho
  cases ho
  obtain ⟨cs, hys, hcs⟩ := hG
  obtain ⟨hsum, hw, h256⟩ := signs_small hcs hn
  generalize hW : joinL [] cs = W at *
  have hyl := hys.length
  have hnl := nl_length W
  have zw : W.length ≤ 10000 := by omega
  have hol : (octs W).length = W.length := List.length_map ..
  have zo : (octs W).length ≤ 10000 := by omega
  have me0 : fixL W = mailL W 0 := mail_0 W
  have me1 : dotsL 10 46 true (fixL W) = mailL W 1 := mail_1 W
  have me2 : dotsL 10 46 true (fixL (mailL W 1)) = mailL W 2 := by rw [← mail_1]; exact mail_2 W
  have zm := mail_length (k := 1) (by decide) hw
  have ob1 : dotsL 10 46 true (octs W) = dotsB 1 (octs W) := rfl
  have ob2 : dotsL 10 46 true (dotsB 1 (octs W)) = dotsB 2 (octs W) := rfl
  have zb : (dotsB 1 (octs W)).length ≤ 10000 := by have := dotsB_length (k := 1) (by decide) (octs W); omega
  (try dsimp only); (try k_fold)
  repeat' (goal_lacks Stop; first | (k_unfold; (try dsimp only)) | (k_end; wrow_close) | walk1 | (dsimp only; walk1) | (leave1; try dsimp only))
  rename IsRange _ _ _ _ _ _ _ _ => hrg
  (with_reducible rename News _ _ _ _ => N1)
  (with_reducible rename Fr _ _ _ _ => F1)
  rename All2 SItem _ (cutL 10 (nlL W)) => hvr
  refine law_loop w mean mg mb ho' A h₀ L _ hR X T r W _ _ _ g a _ _ _ _ u0 [_, _, _] [_, _, _] _ _ _ _ _ _ hr hw h256 hvr ?hvm ?hvo F1 N1 (.head _) (.tail _ (.head _)) (.tail _ (.tail _ (.head _))) hrg ?done
  case hvm => exact .cons ⟨_, rfl⟩ (.cons ⟨_, rfl⟩ (.cons ⟨_, rfl⟩ .nil))
  case hvo => exact .cons ⟨_, rfl⟩ (.cons ⟨_, rfl⟩ (.cons ⟨_, rfl⟩ .nil))
  case done =>
    intro m h tk F'
    (try dsimp only); (try k_fold)
    repeat' (goal_lacks Stop; first | (k_unfold; (try dsimp only)) | (k_end; wrow_close) | walk1 | (dsimp only; walk1) | (leave1; try dsimp only))
    all_goals (exact Back.ret (by assumption) rfl)
end
end Mine
end
section
open PySem PySem.W PyProof.Rows PySem.Calls
namespace Mine
theorem kf_fn13 : PySem.Challenge.rw_ik0040_01 = PySem.Challenge.rw_ik0040_01 ∧ hd.heap_39 = hd.heap_39 := by
  k_with_none
  k_with "exec For" => (k_here; (with_reducible rename Fr _ _ _ _ => lF'); k_dflt (refine' For_invVF lF' ?qec0_k1 ?qec0_k2 ?_ ?qec0_k3 ?qec0_k4; (case qec0_k1 => exact rfl); (case qec0_k2 => exact rfl); (case qec0_k3 => intro _; rfl); (case qec0_k4 => exact PassesOwn.never); k_whole))
  k_with "subscriptTail Name Slice str ref" => (k_here; k_dflt (refine' slice_S (s := ⟨_, _, _, _, _⟩) ?qec1_F ?qec1_N ?qec1_hl ?qec1_hu ?qec1_hz ?qec1_e ?_; (case qec1_F => k_asm); (case qec1_N => k_asm); (case qec1_hl => constructor); (case qec1_hu => constructor); (case qec1_hz => first | omega | ((try simp only [List.length_take, List.length_drop, List.length_append, List.length_cons, List.length_nil]); omega)); (case qec1_e => first | with_reducible exact cut_h1 _ | with_reducible exact cut_h2 _ | with_reducible exact cut_l1 _ | with_reducible exact cut_l2 _ | with_reducible exact cut_12 _ | with_reducible exact cut_23 _ | with_reducible exact cut_m1 _); (intro h' t' k' F' N'; try k_sweep)))
  k_with "subscriptTail Name Slice bytes ref" => (k_here; k_dflt (refine' slice_B (s := ⟨_, _, _, _, _⟩) ?qec2_F ?qec2_N ?qec2_hl ?qec2_hu ?qec2_hz ?qec2_e ?_; (case qec2_F => k_asm); (case qec2_N => k_asm); (case qec2_hl => constructor); (case qec2_hu => constructor); (case qec2_hz => first | omega | ((try simp only [List.length_take, List.length_drop, List.length_append, List.length_cons, List.length_nil]); omega)); (case qec2_e => first | with_reducible exact cut_h1 _ | with_reducible exact cut_h2 _ | with_reducible exact cut_l1 _ | with_reducible exact cut_l2 _ | with_reducible exact cut_12 _ | with_reducible exact cut_23 _ | with_reducible exact cut_m1 _); (intro h' t' k' F' N'; try k_sweep)))
  k_with "compareOp Eq str str" => (k_here; k_dflt (refine' eq_S ?qec3_hx ?qec3_hy ?_; (case qec3_hx => first | with_reducible exact lit_slash | with_reducible exact lit_dot | with_reducible exact lit_dd | with_reducible exact lit_empty | with_reducible exact lit_nl | with_reducible exact lit_crlf | with_reducible exact lit_cr | with_reducible exact rfl); (case qec3_hy => first | with_reducible exact lit_slash | with_reducible exact lit_dot | with_reducible exact lit_dd | with_reducible exact lit_empty | with_reducible exact lit_nl | with_reducible exact lit_crlf | with_reducible exact lit_cr | with_reducible exact rfl)))
  k_with "compareOp Eq bytes bytes" => (k_here; k_dflt (refine' eq_B ?qec4_hx ?qec4_hy ?_; (case qec4_hx => first | with_reducible exact blit_slash | with_reducible exact blit_dot | with_reducible exact blit_dd | with_reducible exact blit_empty | with_reducible exact blit_nl | with_reducible exact rfl); (case qec4_hy => first | with_reducible exact blit_slash | with_reducible exact blit_dot | with_reducible exact blit_dd | with_reducible exact blit_empty | with_reducible exact blit_nl | with_reducible exact rfl)))
  k_with "compareOp NotEq str str" => (k_here; k_dflt (refine' ne_S ?qec5_hx ?qec5_hy ?_; (case qec5_hx => first | with_reducible exact lit_slash | with_reducible exact lit_dot | with_reducible exact lit_dd | with_reducible exact lit_empty | with_reducible exact lit_nl | with_reducible exact lit_crlf | with_reducible exact lit_cr | with_reducible exact rfl); (case qec5_hy => first | with_reducible exact lit_slash | with_reducible exact lit_dot | with_reducible exact lit_dd | with_reducible exact lit_empty | with_reducible exact lit_nl | with_reducible exact lit_crlf | with_reducible exact lit_cr | with_reducible exact rfl)))
  k_with "compareOp NotEq bytes bytes" => (k_here; k_dflt (refine' ne_B ?qec6_hx ?qec6_hy ?_; (case qec6_hx => first | with_reducible exact blit_slash | with_reducible exact blit_dot | with_reducible exact blit_dd | with_reducible exact blit_empty | with_reducible exact blit_nl | with_reducible exact rfl); (case qec6_hy => first | with_reducible exact blit_slash | with_reducible exact blit_dot | with_reducible exact blit_dd | with_reducible exact blit_empty | with_reducible exact blit_nl | with_reducible exact rfl)))
  k_with "truthy str" => (k_here; k_dflt (refine' truthy_S ?qec7_hz ?_; (case qec7_hz => first | omega | ((try simp only [List.length_take, List.length_drop, List.length_append, List.length_cons, List.length_nil]); omega)); intro k'))
  k_with "truthy bytes" => (k_here; k_dflt (refine' truthy_B ?qec8_hz ?_; (case qec8_hz => first | omega | ((try simp only [List.length_take, List.length_drop, List.length_append, List.length_cons, List.length_nil]); omega)); intro k'))
  k_with "binaryOp Add str str" => (k_here; k_dflt (refine' add_S ?qec9_hx ?qec9_hy ?qec9_hz ?_; (case qec9_hx => first | with_reducible exact lit_slash | with_reducible exact lit_dot | with_reducible exact lit_dd | with_reducible exact lit_empty | with_reducible exact lit_nl | with_reducible exact lit_crlf | with_reducible exact lit_cr | with_reducible exact rfl); (case qec9_hy => first | with_reducible exact lit_slash | with_reducible exact lit_dot | with_reducible exact lit_dd | with_reducible exact lit_empty | with_reducible exact lit_nl | with_reducible exact lit_crlf | with_reducible exact lit_cr | with_reducible exact rfl); (case qec9_hz => first | omega | ((try simp only [List.length_take, List.length_drop, List.length_append, List.length_cons, List.length_nil]); omega)); intro t' k'))
  k_with "binaryOp Add bytes bytes" => (k_here; k_dflt (refine' add_B ?qec10_hx ?qec10_hy ?qec10_hz ?_; (case qec10_hx => first | with_reducible exact blit_slash | with_reducible exact blit_dot | with_reducible exact blit_dd | with_reducible exact blit_empty | with_reducible exact blit_nl | with_reducible exact rfl); (case qec10_hy => first | with_reducible exact blit_slash | with_reducible exact blit_dot | with_reducible exact blit_dd | with_reducible exact blit_empty | with_reducible exact blit_nl | with_reducible exact rfl); (case qec10_hz => first | omega | ((try simp only [List.length_take, List.length_drop, List.length_append, List.length_cons, List.length_nil]); omega)); intro t' k'))
  k_with "inplaceOp Add str str" => (k_here; k_dflt (refine' iadd_S ?qec11_hx ?qec11_hy ?qec11_hz ?_; (case qec11_hx => first | with_reducible exact lit_slash | with_reducible exact lit_dot | with_reducible exact lit_dd | with_reducible exact lit_empty | with_reducible exact lit_nl | with_reducible exact lit_crlf | with_reducible exact lit_cr | with_reducible exact rfl); (case qec11_hy => first | with_reducible exact lit_slash | with_reducible exact lit_dot | with_reducible exact lit_dd | with_reducible exact lit_empty | with_reducible exact lit_nl | with_reducible exact lit_crlf | with_reducible exact lit_cr | with_reducible exact rfl); (case qec11_hz => first | omega | ((try simp only [List.length_take, List.length_drop, List.length_append, List.length_cons, List.length_nil]); omega)); intro t' k'))
  k_with "inplaceOp Add bytes bytes" => (k_here; k_dflt (refine' iadd_B ?qec12_hx ?qec12_hy ?qec12_hz ?_; (case qec12_hx => first | with_reducible exact blit_slash | with_reducible exact blit_dot | with_reducible exact blit_dd | with_reducible exact blit_empty | with_reducible exact blit_nl | with_reducible exact rfl); (case qec12_hy => first | with_reducible exact blit_slash | with_reducible exact blit_dot | with_reducible exact blit_dd | with_reducible exact blit_empty | with_reducible exact blit_nl | with_reducible exact rfl); (case qec12_hz => first | omega | ((try simp only [List.length_take, List.length_drop, List.length_append, List.length_cons, List.length_nil]); omega)); intro t' k'))
  k_with "call builtin:str.startswith" => (k_here; k_dflt (refine' starts_S ?qec13_hy ?_; (case qec13_hy => first | with_reducible exact lit_slash | with_reducible exact lit_dot | with_reducible exact lit_dd | with_reducible exact lit_empty | with_reducible exact lit_nl | with_reducible exact lit_crlf | with_reducible exact lit_cr | with_reducible exact rfl)))
  k_with "call builtin:str.endswith" => (k_here; k_dflt (refine' ends_S ?qec14_hy ?_; (case qec14_hy => first | with_reducible exact lit_slash | with_reducible exact lit_dot | with_reducible exact lit_dd | with_reducible exact lit_empty | with_reducible exact lit_nl | with_reducible exact lit_crlf | with_reducible exact lit_cr | with_reducible exact rfl)))
  k_with "call builtin:bytes.startswith" => (k_here; k_dflt (refine' starts_B ?qec15_hy ?_; (case qec15_hy => first | with_reducible exact blit_slash | with_reducible exact blit_dot | with_reducible exact blit_dd | with_reducible exact blit_empty | with_reducible exact blit_nl | with_reducible exact rfl)))
  k_with "call builtin:bytes.endswith" => (k_here; k_dflt (refine' ends_B ?qec16_hy ?_; (case qec16_hy => first | with_reducible exact blit_slash | with_reducible exact blit_dot | with_reducible exact blit_dd | with_reducible exact blit_empty | with_reducible exact blit_nl | with_reducible exact rfl)))
  k_with "getMethod bytes" => (k_here; k_dflt (first | with_reducible refine' gm_bytes FB.slot_bytes_startswith FB.type_bytes_startswith ?_ | with_reducible refine' gm_bytes FB.slot_bytes_endswith FB.type_bytes_endswith ?_ | with_reducible refine' gm_bytes BF.slot_split BF.type_split ?_ | with_reducible refine' gm_bytes BF.slot_join BF.type_join ?_))
  k_with "truthy ref" => (k_here; k_dflt (refine' truthy_L ?qec18_N ?qec18_m ?qec18_z ?qec18_e ?_; (case qec18_N => k_asm); (case qec18_m => k_mem); (case qec18_z => first | omega | ((try simp only [List.length_take, List.length_drop, List.length_append, List.length_cons, List.length_nil]); omega)); (case qec18_e => first | exact rfl | simp); intro k'))
  k_with "subscriptTail Name UnaryOp ref int" => (k_here; k_dflt (refine' last_L ?qec19_N ?qec19_m ?qec19_e ?qec19_z ?_; (case qec19_N => k_asm); (case qec19_m => k_mem); (case qec19_e => exact rfl); (case qec19_z => first | omega | ((try simp only [List.length_take, List.length_drop, List.length_append, List.length_cons, List.length_nil]); omega))))
  k_with "call builtin:list.append" => (k_here; k_dflt (refine' app_L ?qec20_F ?qec20_N ?qec20_U ?qec20_z ?_; (case qec20_F => k_asm); (case qec20_N => k_asm); (case qec20_U => k_upd); (case qec20_z => first | omega | ((try simp only [List.length_take, List.length_drop, List.length_append, List.length_cons, List.length_nil]); omega)); (intro h' F' N'; try k_sweep)))
  k_with "call builtin:list.pop" => (k_here; k_dflt (refine' pop_L ?qec21_F ?qec21_N ?qec21_m ?qec21_e ?qec21_U ?qec21_z ?_; (case qec21_F => k_asm); (case qec21_N => k_asm); (case qec21_m => k_mem); (case qec21_e => exact rfl); (case qec21_U => k_upd); (case qec21_z => first | omega | ((try simp only [List.length_take, List.length_drop, List.length_append, List.length_cons, List.length_nil]); omega)); (intro h' F' N'; try k_sweep)))
  k_with "assign Tuple" => (k_here; k_dflt (refine' unpackN_ ?qec22_F ?qec22_N ?qec22_T ?qec22_k4 ?qec22_k5 ?qec22_k6 ?_; (case qec22_F => k_asm); (case qec22_N => k_asm); (case qec22_T => exact News.isTup (by k_asm) (by k_mem)); (case qec22_k4 => exact Room.hh (by assumption)); (case qec22_k5 => exact rfl); (case qec22_k6 => exact rfl); (intro h' F' N'; try k_sweep)))
  k_with "call builtin:str.join" => (k_here; k_dflt (refine' join_S ?qec23_hy ?qec23_hl ?qec23_hv ?qec23_hz ?_; (case qec23_hy => first | with_reducible exact lit_slash | with_reducible exact lit_dot | with_reducible exact lit_dd | with_reducible exact lit_empty | with_reducible exact lit_nl | with_reducible exact lit_crlf | with_reducible exact lit_cr | with_reducible exact rfl); (case qec23_hl => exact at_news (by k_asm) (by k_mem)); (case qec23_hv => assumption); (case qec23_hz => first | omega | ((try simp only [List.length_take, List.length_drop, List.length_append, List.length_cons, List.length_nil]); omega)); intro t' k'))
  k_with "call builtin:bytes.join" => (k_here; k_dflt (refine' join_B ?qec24_hy ?qec24_hl ?qec24_hv ?qec24_hz ?_; (case qec24_hy => first | with_reducible exact blit_slash | with_reducible exact blit_dot | with_reducible exact blit_dd | with_reducible exact blit_empty | with_reducible exact blit_nl | with_reducible exact rfl); (case qec24_hl => exact at_news (by k_asm) (by k_mem)); (case qec24_hv => assumption); (case qec24_hz => first | omega | ((try simp only [List.length_take, List.length_drop, List.length_append, List.length_cons, List.length_nil]); omega)); intro t' k'))
  k_with "call builtin:bytes.split" => (k_here; k_dflt (refine' split_B ?qec25_F ?qec25_N ?qec25_hy ?qec25_hz ?_; (case qec25_F => k_asm); (case qec25_N => k_asm); (case qec25_hy => first | with_reducible exact blit_slash | with_reducible exact blit_dot | with_reducible exact blit_dd | with_reducible exact blit_empty | with_reducible exact blit_nl | with_reducible exact rfl); (case qec25_hz => first | omega | ((try simp only [List.length_take, List.length_drop, List.length_append, List.length_cons, List.length_nil]); omega)); (intro D vs h' k' hv F' N' l1; (try k_lt l1); try k_sweep)))
  k_with "unpackItems ref" => (k_here; k_dflt (refine' unpackItemsN_ ?qec26_F ?qec26_N ?qec26_T ?qec26_k4 ?qec26_k5 ?_; (case qec26_F => k_asm); (case qec26_N => k_asm); (case qec26_T => exact News.isTup (by k_asm) (by k_mem)); (case qec26_k4 => exact Room.hh (by assumption)); (case qec26_k5 => exact rfl); (intro h' F' N'; try k_sweep)))
  k_with "callWith" => (k_here; (with_reducible refine' callWith_m1 ?qec27_hp ?_); (case qec27_hp => k_dflt (exact rfl)))
  k_with "spliced" => (k_here; (with_reducible refine' spliced_plain ?qec28_hp ?_); (case qec28_hp => k_dflt (exact rfl)))
  k_with "pyIter ref" => (k_here; refine Stop.mk ?_)
  k_fill
  exact ⟨rfl, rfl⟩
section
variable (w : World) (mean : ExcName → Option Value) (mg mb : Str → Option Value)
set_option maxRecDepth 100000
set_option maxHeartbeats 8000000
abbrev IItem (v : Value) (i : Int) : Prop := ∃ t, v = .int i t
theorem ints_two : ∀ {vs : List Value} {ns : List Int}, IntsAre vs ns → All2 IItem vs ns
  | _, _, .nil => .nil
  | _, _, .cons _ _ r => .cons ⟨_, rfl⟩ (ints_two r)
theorem news_two {h₀ h : Heap} {L : Addr} {news : List (Addr × Obj)} {a b : Addr × Obj} (N : News h₀ L h news) (ha : a ∈ news) (hb : b ∈ news) : News h₀ L h [a, b] := by
  intro p hp
  simp only [List.mem_cons, List.not_mem_nil, or_false] at hp
  rcases hp with rfl | rfl
  · exact N _ ha
  · exact N _ hb
theorem law_first {name qual : Str} {params : Arguments} {s1 : Stmt} {tg itx : Expr} {fb oe rest : List Stmt} {ps : Pos} {scope : Scope} {dV kV doc pm cdv cdw ct ocl : Value} {an od : Option Addr} {osl : Array (Option Value)} {f : Addr} (ho : (hd.heap_39 w.params).lookup 211 = some ⟨ocl, od, .func (fnOf name qual params (s1 :: .For tg itx fb oe ps :: rest) scope dV kV doc pm an cdv ct), osl⟩)
    (A : Around) (h₀ : Heap) (L : Addr) (s : Shared) (hR : Room A 6 70) (X : (hd.heap_39 w.params).In h₀) (T : TopM mean mg mb h₀) (r : List Nat) (tr : Tok) (g a sr : Addr) (ws : List Value) (is : List Int) (nw : Nat) (news : List (Addr × Obj)) (Q : Flow → Shared → Prop) (hws : All2 IItem ws is) (his : is.length ≤ 10)
    (F : Fr h₀ L s.heap (fun y => if y = Str.ofString "root" then some (.str ⟨r.toArray⟩ tr) else if y = Str.ofString "signs" then some (Value.ref g) else List.lookup y [(Str.ofString "script", Value.ref a)].reverse)) (N : News h₀ L s.heap news) (kg : (g, PySem.W.listOf ([] : List Value).toArray 0) ∈ news) (ks : (sr, PySem.W.listOf ws.toArray nw) ∈ news) (hgs : g < sr)
    (done : ∀ ys k (u : Option Value) h tk, GotSigns is.length ys → Fr h₀ L h (fun y => if y = Str.ofString "x" then u else (fun y => if y = Str.ofString "root" then some (.str ⟨r.toArray⟩ tr) else if y = Str.ofString "signs" then some (Value.ref g) else List.lookup y [(Str.ofString "script", Value.ref a)].reverse) y) → News h₀ L h [(g, PySem.W.listOf ys.toArray k)] → Q .next { s with heap := h, toks := tk }) :
    wpAny (model PP w) A (pyIter (.ref sr)) (fun it s₂ => LoopAtV PP w A h₀ (envOf qual scope L f cdw) (Str.ofString "x") fb Q (fun _ _ => False) it s₂) (fun _ _ => False) s := by
  refine iter_grow (nc := g) (ys₀ := []) (rest := [(sr, lstObj ws nw)]) (fun pre ys => GotSigns pre.length ys) hR.hh hws F (news_two N kg ks) (.inl (.head _)) ⟨[], .nil, rfl, fun _ h => nomatch h⟩ ?turn ?done
  case turn =>
    intro pre c post v ys k I it h tk hcs hvc hlt hlr hG F' N'
    obtain ⟨ti, rfl⟩ := hvc
    have hl := congrArg List.length hcs
    simp only [List.length_append, List.length_cons] at hl
    have e : (pre ++ [c]).length = pre.length + 1 := by simp
    have key := law_sign w mean mg mb (cdw := cdw) (f := f) ho A h₀ L { s with heap := h, toks := tk } hR X T r tr g a I c ti it ys k pre.length sr (lstObj ws nw) Q hG (by omega) hlt (hlr (sr, lstObj ws nw) (.head _)) hgs F' N'
    rw [← e] at key
    exact key
  case done =>
    intro ys k u h tk hG F' N'
    exact done ys k u h tk hG F' (fun p hp => by rw [List.mem_singleton.mp hp]; exact N' _ (.head _))
theorem law_head {name qual : Str} {params : Arguments} {s0 s1 s2 s3 s4 s5 s6 : Stmt} {tg itx : Expr} {fb oe rest : List Stmt} {ps : Pos} {scope : Scope} {dV kV doc pm cdv cdw ct ocl : Value} {an od : Option Addr} {osl : Array (Option Value)} {f : Addr} (ho : (hd.heap_39 w.params).lookup 211 = some ⟨ocl, od, .func (fnOf name qual params (s0 :: s1 :: s2 :: s3 :: s4 :: s5 :: s6 :: .For tg itx fb oe ps :: rest) scope dV kV doc pm an cdv ct), osl⟩)
    (A : Around) (h₀ : Heap) (L : Addr) (s : Shared) (hR : Room A 6 70) (X : (hd.heap_39 w.params).In h₀) (T : TopM mean mg mb h₀) (a : Addr) (vs : List Value) (ns : List Int) (hI : IntsAre vs ns) (hn : ns.length ≤ 63) (hl : h₀.IsList a vs.toArray) (F : Fr h₀ L s.heap (fun y => [(Str.ofString "script", Value.ref a)].reverse.lookup y)) (N : News h₀ L s.heap []) :
    wpAny (model PP w) A (execs (s0 :: s1 :: s2 :: s3 :: s4 :: s5 :: s6 :: .For tg itx fb oe ps :: rest) (envOf qual scope L f cdw)) (Back (fun _ _ v => v = .bool true) h₀ s) (fun _ _ => False) s := by
  have ho' := ho
  cases ho
  (try dsimp only); (try k_fold)
  repeat' (goal_lacks Stop; first | (k_unfold; (try dsimp only)) | (k_end; wrow_close) | walk1 | (dsimp only; walk1) | (leave1; try dsimp only))
  all_goals (with_reducible rename News _ _ _ _ => N1)
  all_goals (with_reducible rename Fr _ _ _ _ => F1)
  all_goals (try simp only [lit_slash] at F1)
  all_goals (try simp only [lit_empty] at F1)
  · refine law_first w mean mg mb ho' A h₀ L _ hR X T [47] _ _ a _ _ _ 0 _ _ (ints_two (by assumption)) (List.length_take_le _ _) F1 N1 (.tail _ (.tail _ (.head _))) (.head _) ?_ ?_
    · show @LT.lt Nat _ _ _
      omega
    · intro ys k u h tk hG F' N'
      (try dsimp only)
      exact law_rest w mean mg mb ho' A h₀ L _ hR X T [47] _ _ a u ys k _ (.inr rfl) hG (List.length_take_le _ _) F' N'
  · refine law_first w mean mg mb ho' A h₀ L _ hR X T [47] _ _ a _ [_, _, _, _, _] [3, 5, 1, 4, 2] 0 _ _ (.cons ⟨_, rfl⟩ (.cons ⟨_, rfl⟩ (.cons ⟨_, rfl⟩ (.cons ⟨_, rfl⟩ (.cons ⟨_, rfl⟩ .nil))))) (by decide) F1 N1 (.tail _ (.tail _ (.tail _ (.head _)))) (.head _) ?_ ?_
    · show @LT.lt Nat _ _ _
      omega
    · intro ys k u h tk hG F' N'
      (try dsimp only)
      exact law_rest w mean mg mb ho' A h₀ L _ hR X T [47] _ _ a u ys k _ (.inr rfl) hG (by decide) F' N'
  · refine law_first w mean mg mb ho' A h₀ L _ hR X T [] _ _ a _ _ _ 0 _ _ (ints_two (by assumption)) (List.length_take_le _ _) F1 N1 (.tail _ (.tail _ (.head _))) (.head _) ?_ ?_
    · show @LT.lt Nat _ _ _
      omega
    · intro ys k u h tk hG F' N'
      (try dsimp only)
      exact law_rest w mean mg mb ho' A h₀ L _ hR X T [] _ _ a u ys k _ (.inl rfl) hG (List.length_take_le _ _) F' N'
end
end Mine
end
end
section
open PySem PySem.W PyProof.Rows PySem.Calls
namespace Mine
theorem kf_fn14 : PySem.Challenge.rw_ik0040_01 = PySem.Challenge.rw_ik0040_01 ∧ hd.heap_39 = hd.heap_39 := by
  k_with_none
  k_fill
  exact ⟨rfl, rfl⟩
set_option maxRecDepth 100000
set_option maxHeartbeats 8000000
theorem top_holds : PySem.Challenge.rw_ik0040_01.Holds := by
  refine hd ?_
  k_go0
  all_goals (try k_fold)
  rename Fr _ _ _ _ => F
  rename News _ _ _ _ => N0
  rename Top _ _ _ _ _ _ => T
  rename Frag.In _ _ => KX
  rename IntsAre _ _ => hI
  rename Heap.IsList _ _ _ => hL
  rename _ = #[] => hg
  rename ¬ _ < _ => hc
  (try dsimp only)
  refine' wpAny_mono (law_head _ _ _ _ ?ho _ _ _ _ ?hR KX T _ _ _ hI ?hn hL F N0) ?fin (fun _ _ x => x.elim)
  case ho => k_is
  case hR => exact ⟨rfl, by first | decide | exact Nat.le_of_ble_eq_true rfl, by first | decide | exact Nat.le_of_ble_eq_true rfl⟩
  case hn => omega
  case fin =>
  intro fl s' b
  obtain ⟨h', tk', rfl, k, o⟩ := b
  cases fl with
  | ret v =>
    have o : v = Value.bool true := o
    subst o
    unfold GoodW
    refine ⟨.inl ⟨.bool true, .bool true, [], rfl, raisesW_false (by wrow_none_raised), .bool true, ?_, unshared_nil⟩, k, rfl, hg⟩
    first | rfl | decide | wrow_post
  | next => cases (show Value.none = Value.bool true from o)
  | brk => cases (show Value.none = Value.bool true from o)
  | cont => cases (show Value.none = Value.bool true from o)
end Mine
end
set_option maxRecDepth 100000 in
set_option maxHeartbeats 8000000 in
theorem PySem.Challenge.cw_ik0040_01_holds : PySem.Challenge.rw_ik0040_01.Holds := by
  exact Mine.top_holds
