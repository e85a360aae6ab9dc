import PyProof.Rows.All
import Wide.All
import OpenK.AllK
import Wide.FinOn
import PyProof.StrLawsReplace
import PySem.Challenge.RW_ny0028_01
set_option Elab.async false
set_option linter.all false
section
open PySem PySem.W PyProof.Rows
namespace Mine
set_option maxRecDepth 100000 in
set_option maxHeartbeats 8000000 in
open_top hd for PySem.Challenge.rw_ny0028_01
end Mine

end
section
open PySem PySem.W PyProof.Rows
set_option maxRecDepth 100000
namespace Mine
/-- the tokens and the heap's size never fall -/
def Grows (s s' : Shared) : Prop := s.toks ≤ s'.toks ∧ s.heap.objs.size ≤ s'.heap.objs.size
theorem Grows.rfl' {s : Shared} : Grows s s := ⟨Nat.le_refl _, Nat.le_refl _⟩
theorem Grows.trans {a b c : Shared} (h : Grows a b) (k : Grows b c) : Grows a c := ⟨Nat.le_trans h.1 k.1, Nat.le_trans h.2 k.2⟩
theorem grows_gen {s : Shared} {g : Nat} {x : GenState} : Grows s (s.setGen g x) := ⟨Nat.le_refl _, Nat.le_refl _⟩
theorem grows_unset {s s' : Shared} {g : Nat} {x : GenState} (h : Grows (s.setGen g x) s') : Grows s s' := h
theorem size_upd (h : Heap) (a : Addr) (f : Obj → Obj) : (h.update a f).objs.size = h.objs.size := by
  cases h; simp [Heap.update]
theorem size_push (h : Heap) (o : Obj) : (h.push o).objs.size = h.objs.size + 1 := by
  cases h; simp [Heap.push]

theorem runs_grows {M : Model} {Γ : Ctx} {p : Pos} {t : Sem Fin} {fs : List Frame} {s : Shared} {e : End} {s' : Shared} (h : Runs M Γ p t fs s e s') : Grows s s' := by
  induction h with
  | done => exact .rfl'
  | raise => exact .rfl'
  | again _ _ ih => exact ih
  | rule _ ih => exact ih
  | «at» _ ih => exact ih
  | load _ _ ih => exact ih
  | update _ _ ih => exact ⟨ih.1, by have := ih.2; simp only [size_upd] at this; exact this⟩
  | loadIfAlive _ ih => exact ih
  | point _ ih => exact ih
  | alloc _ ih => exact ⟨ih.1, by have := ih.2; simp only [size_push] at this; omega⟩
  | fresh _ ih => exact ⟨by have := ih.1; simp only at this; omega, ih.2⟩
  | ask _ ih => exact ih
  | choose _ _ ih => exact ih
  | os _ ih => exact ih
  | handled _ ih => exact ih
  | genState _ _ ih => exact ih
  | stack _ ih => exact ih
  | thread _ ih => exact ih
  | newGen _ ih => exact ih
  | call _ _ ih1 ih2 => exact ih1.trans ih2
  | callSusp _ ih => exact ih
  | yield => exact .rfl'
  | resumeFresh _ _ _ _ ih1 ih2 => exact (grows_unset ih1).trans (grows_unset ih2)
  | resumeSuspended _ _ _ _ ih1 ih2 => exact (grows_unset ih1).trans (grows_unset ih2)
  | resumeJustStarted _ _ _ ih => exact ih
  | resumeThrowFresh _ _ ih => exact grows_unset ih
  | resumeRunning _ _ ih => exact ih
  | resumeFinished _ _ ih => exact ih
  | segRet _ _ ih1 ih2 => exact ih1.trans ih2
  | segGen _ _ ih1 ih2 => exact ih1.trans (grows_unset ih2)
  | segSuspOut _ _ ih => exact ih
  | segSuspGen _ _ _ _ ih1 ih2 => exact ih1.trans (grows_unset ih2)

theorem wakes_grows {M : Model} {Γ : Ctx} {p : Pos} {g : Nat} {r : Resume} {s : Shared} {res : GenResult} {s' : Shared} (h : Wakes M Γ p g r s res s') : Grows s s' := by
  unfold Wakes at h
  split at h
  · exact h.elim
  · split at h
    · obtain ⟨e₁, s₁, h1, _, _, rfl⟩ := h; have g1 := grows_unset (runs_grows h1); exact ⟨g1.1, g1.2⟩
    · obtain ⟨_, rfl⟩ := h; exact .rfl'
    · obtain ⟨_, rfl⟩ := h; exact grows_gen
  · obtain ⟨e₁, s₁, h1, _, _, rfl⟩ := h; have g1 := grows_unset (runs_grows h1); exact ⟨g1.1, g1.2⟩
  · obtain ⟨_, rfl⟩ := h; exact .rfl'
  · obtain ⟨_, rfl⟩ := h; exact .rfl'

theorem wp_grows {α : Type} {M : Model} {Γ : Ctx} {Q : α → Pos → Shared → Prop} {E : Value → Pos → Shared → Prop} {s₀ : Shared} (t : Sem α) :
    ∀ p s, Grows s₀ s → Sem.wp M Γ t Q E p s → Sem.wp M Γ t (fun a p s' => Grows s₀ s' ∧ Q a p s') (fun e p s' => Grows s₀ s' ∧ E e p s') p s := by
  induction t with
  | pure a => intro p s g h; exact ⟨g, h⟩
  | raise e => intro p s g h; exact ⟨g, h⟩
  | unsupported _ => intro p s g h; exact h
  | finish _ => intro p s g h; exact h
  | rule _ k ih => intro p s g h; exact ih () _ _ g h
  | «at» _ k ih => intro p s g h; exact ih () _ _ g h
  | load a _ k ih => intro p s g h; obtain ⟨o, ho, h⟩ := h; exact ⟨o, ho, ih o _ _ g h⟩
  | update a _ f k ih => intro p s g h; exact ⟨h.1, ih () _ _ ⟨g.1, by show _ ≤ (s.heap.update a f).objs.size; rw [size_upd]; exact g.2⟩ h.2⟩
  | alloc o k ih => intro p s g h; exact ih _ _ _ ⟨g.1, by show _ ≤ (s.heap.push o).objs.size; rw [size_push]; exact Nat.le_succ_of_le g.2⟩ h
  | loadIfAlive a k ih => intro p s g h; exact ih _ _ _ g h
  | point _ k ih => intro p s g h; exact ih _ _ _ g h
  | register _ _ _ => intro p s g h; exact h
  | fresh k ih => intro p s g h; exact ih _ _ _ ⟨Nat.le_succ_of_le g.1, g.2⟩ h
  | ask k ih => intro p s g h; exact ih _ _ _ g h
  | choose src n k ih => intro p s g h; exact ⟨h.1, ih _ _ _ g h.2⟩
  | os q _ k ih => intro p s g h; exact ih _ _ _ g h
  | call c hd _ _ k ih =>
    intro p s g h
    obtain ⟨r, s', h1, h2⟩ := h
    exact ⟨r, s', h1, ih _ _ _ (g.trans (runs_grows h1)) h2⟩
  | handled own k ih => intro p s g h; exact ih _ _ _ g h
  | newGen c k ih => intro p s g h; exact ih _ _ _ g h
  | genState g' k ih => intro p s g h; obtain ⟨st, h1, h2⟩ := h; exact ⟨st, h1, ih _ _ _ g h2⟩
  | resume g' r _ k ih => intro p s g h; obtain ⟨res, s', h1, h2⟩ := h; exact ⟨res, s', h1, ih _ _ _ (g.trans (wakes_grows h1)) h2⟩
  | yield _ _ _ _ _ => intro p s g h; exact h
  | stack k ih => intro p s g h; exact ih _ _ _ g h
  | fork _ _ _ => intro p s g h; exact h
  | thread k ih => intro p s g h; exact ih _ _ _ g h
  | await _ _ _ _ _ _ => intro p s g h; exact h

/-- whatever a tree does, tokens and size have not fallen behind it -/
theorem grown {α : Type} {M : Model} {A : Around} {Q : α → Shared → Prop} {E : Value → Shared → Prop} {s : Shared} {t : Sem α}
    (h : wpAny M A t (fun a s' => Grows s s' → Q a s') E s) : wpAny M A t Q E s := fun Γ p hΓ =>
  Sem.wp_mono M Γ t (fun a _ s' h' => h'.2 h'.1) (fun e _ s' h' => h'.2) p s (wp_grows t p s .rfl' (h Γ p hΓ))
theorem grownCode {M : Model} {A : Around} {c : Code} {R : Result → Shared → Prop} {s : Shared} (h : codeAny M A c (fun r s' => Grows s s' → R r s') s) : codeAny M A c R s := fun Γ p hc hΓ => by
  obtain ⟨r, s', h1, h2⟩ := h Γ p hc hΓ
  exact ⟨r, s', h1, h2 (runs_grows h1)⟩
end Mine

end
section
open PySem PySem.W PyProof.Rows
set_option maxRecDepth 100000
namespace Mine
abbrev Ext (h h' : Heap) : Prop := ∀ b o, h.get? b = some o → h'.get? b = some o
theorem Ext.refl (h : Heap) : Ext h h := fun _ _ e => e
theorem Ext.trans {a b c : Heap} (x : Ext a b) (y : Ext b c) : Ext a c := fun p o e => y p o (x p o e)
section
variable {h₀ h h' : Heap} {L a : Addr} {o : Obj} {m : Str → Option Value} {news : List (Addr × Obj)}
theorem frExt (F : Fr h₀ L h m) (k : Ext h h') : Fr h₀ L h' m := ⟨F.ns.keeps k, fun b o e => k _ _ (F.keep b o e), F.above⟩
theorem newsExt (N : News h₀ L h news) (k : Ext h h') : News h₀ L h' news := fun p hp => ⟨k _ _ (N p hp).1, (N p hp).2⟩
theorem newsCons (F : Fr h₀ L h m) (N : News h₀ L h news) (k : Ext h h') (hn : h.get? a = none) (ho : h'.get? a = some o) : News h₀ L h' ((a, o) :: news) := by
  intro p hp
  rcases List.mem_cons.mp hp with rfl | hp
  · refine ⟨ho, fun q => ?_, ?_⟩
    · obtain ⟨oL, _, _, hL, _⟩ := F.ns
      rw [show a = L from q, hL] at hn; cases hn
    · cases q : h₀.get? a with
      | none => rfl
      | some o' => rw [F.keep _ _ q] at hn; cases hn
  · exact newsExt N k p hp
theorem none_of_size {h : Heap} {a : Addr} (x : h.objs.size ≤ a) : h.get? a = none := by
  cases q : h.get? a with
  | none => rfl
  | some o => exact absurd (Heap.lt_size q) (Nat.not_lt.mpr x)
end
section
variable {M : Model} {A : Around} {E : Value → Shared → Prop} {s : Shared} {env : Env}
theorem execs_T {st : Stmt} {rest : List Stmt} {Q : Flow → Shared → Prop} (hp : 0 < s.toks)
    (h : ∀ tk, 0 < tk → wpAny M A (exec st env) (fun f s' => 0 < s'.toks → (match f with | .next => wpAny M A (execs rest env) Q E s' | f => Q f s')) E { s with toks := tk }) :
    wpAny M A (execs (st :: rest) env) Q E s :=
  wpAny_execs_cons (grown (wpAny_mono (h s.toks hp) (fun _ _ x g => x (Nat.lt_of_lt_of_le hp g.1)) fun _ _ x => x))
theorem plus_T {α : Type} {t : Sem α} {Q : α → Shared → Prop} (hp : 0 < s.toks) (h : wpAny M A t Q E s) : wpAny M A t (fun v s' => Grows s s' ∧ 0 < s'.toks ∧ Q v s') E s :=
  grown (wpAny_mono h (fun _ _ x g => ⟨g, Nat.lt_of_lt_of_le hp g.1, x⟩) fun _ _ x => x)
theorem toks_T {α : Type} {t : Sem α} {Q : α → Shared → Prop} (hp : 0 < s.toks) (h : wpAny M A t (fun v s' => 0 < s'.toks → Q v s') E s) : wpAny M A t Q E s :=
  grown (wpAny_mono h (fun _ _ x g => x (Nat.lt_of_lt_of_le hp g.1)) fun _ _ x => x)
end
/-- a turn's post, hidden behind a letter (it keeps the proof terms small) -/
theorem absT {M : Model} {A : Around} {E E' : Value → Shared → Prop} {s : Shared} {t : Sem Unit} {st : Sem Flow} {P : Flow → Shared → Prop}
    (h : ∀ QE : Flow → Shared → Prop, (∀ f s', P f s' → QE f s') → wpAny M A t (fun _ s₂ => 0 < s₂.toks → wpAny M A st QE E s₂) E' s) : wpAny M A t (fun _ s₂ => 0 < s₂.toks → wpAny M A st P E s₂) E' s := h P fun _ _ x => x
open Builtin Builtin.Str in
theorem replace_len (x y z : PySem.Str) : (Txt.replace x y z).length ≤ x.length + (x.length + 1) * z.length := by
  unfold Txt.replace
  split
  · omega
  · have h1 := StrLaws.occ_length_le x y 0 x.length (x.length + 1)
    have hy : (glued y (partsBetween x (occurrences x y 0 x.length (x.length + 1)) y.length)).length = x.length := by rw [StrLaws.glued_between_self]
    rw [size_glued, length_partsBetween, Nat.add_sub_cancel] at hy
    rw [size_glued, length_partsBetween, Nat.add_sub_cancel]
    have h2 : (occurrences x y 0 x.length (x.length + 1)).length * z.length ≤ (x.length + 1) * z.length := Nat.mul_le_mul_right _ h1
    omega
end Mine

end
section
open PySem PySem.W PyProof.Rows
set_option maxRecDepth 100000
namespace Mine
abbrev PRG : Program := PySem.Challenge.rw_ny0028_01.row.prog
abbrev Ar (d u : Nat) : Around := { handled := none, depth := d, frames := none, guards := none, units := u }

section
variable {α : Type} {M : Model} {A : Around} {E : Value → Shared → Prop} {s : Shared} {Q : α → Shared → Prop} {t : Sem α}
theorem weaken {d u : Nat} (h : wpAny M (Ar d u) t Q E s) (hh : A.handled = none) (hd : A.depth ≤ d) (hu : A.units ≤ u) : wpAny M A t Q E s :=
  fun Γ p hΓ => h Γ p ⟨hΓ.1.trans hh, Nat.le_trans hΓ.2.1 hd, (fun _ e => nomatch e), (fun _ e => nomatch e), Nat.le_trans hΓ.2.2.2.2 hu⟩
end

section
variable {w : World} {A : Around} {s : Shared} {K : Frag} {R : Result → Shared → Prop} {prog p : Program} {loose : List Str} {mean : ExcName → Option Value} {mg mb : Str → Option Value}
  {name qual : Str} {params : Arguments} {body : List Stmt} {scope : Scope} {dV kV doc pm cdv ct oc : Value} {an od : Option Addr} {osl : Array (Option Value)} {f : Addr} {args : Args} {binds : List (Str × Value)}
theorem enter (X : K.In s.heap) (T : Top p loose mean mg mb s.heap)
    (ho : K.lookup f = some ⟨oc, od, .func (fnOf name qual params body scope dV kV doc pm an cdv ct), osl⟩) (hcd : codeIn K cdv qual = true) (hroom : A.depth < recursionLimit)
    (hbind : BindsTo s (fnOf name qual params body scope dV kV doc pm an cdv ct) args binds) (hloc : ∀ y ∈ binds, scope.names.lookup y.1 = some .local)
    (h : ∀ L h₁, L = s.heap.objs.size → Fr s.heap L h₁ (fun y => binds.reverse.lookup y) → News s.heap L h₁ [] →
      wpAny (model prog w) (A.deeper (envOf qual scope L f cdv)) (execs body (envOf qual scope L f cdv))
        (fun fl s' => R (.ok (.ret (match fl with | .ret v => v | _ => .none))) s') (fun _ _ => False)
        { s with heap := h₁, toks := s.toks + binds.length })
    (hco : scope.isCoroutine = false) (hgen : scope.isGenerator = false) (hk : scope.kind = .function)
    (hcell : ∀ x ∈ scope.names, x.2 ≠ .cell) : codeAny (model prog w) A (.call (.ref f) args) R s :=
  codeAny_call_def (fd := fnOf name qual params body scope dV kV doc pm an cdv ct) (body := body) (binds := binds) hroom (X _ _ ho) rfl T.nolimit (codeRec_of X hcd) rfl hbind hcell hloc
    (fun h₁ hns hk₁ => wpAny_mono (h _ h₁ rfl ⟨hns, hk₁, Nat.le_refl _⟩ News.nil) (fun _ _ x => x) (fun _ _ x => x.elim)) hco hgen hk
end
end Mine

end
section
open PySem PyProof.Rows
set_option maxRecDepth 100000
namespace Mine
open Builtin Builtin.Str
/-- a text by its signs -/
abbrev S (l : List Nat) : PySem.Str := ⟨l.toArray⟩
theorem S_list (l : List Nat) : (S l).cps.toList = l := by simp
theorem S_of (x : PySem.Str) : S x.cps.toList = x := by cases x; simp
theorem S_inj {a b : List Nat} (h : S a = S b) : a = b := by
  have := congrArg (fun x : PySem.Str => x.cps.toList) h
  simpa using this
theorem S_len (l : List Nat) : (S l).length = l.length := by simp [PySem.Str.length]
theorem S_app (a b : List Nat) : S a ++ S b = S (a ++ b) := PySem.Str.ext' (by simp [PySem.Str.cps_append])
theorem str_eq {x y : PySem.Str} (h : x.cps.toList = y.cps.toList) : x = y := by
  rw [← S_of x, ← S_of y, h]

/-- cut at a sign -/
def cut (c : Nat) : List Nat → List (List Nat)
  | [] => [[]]
  | k :: r => if k = c then [] :: cut c r else match cut c r with
    | h :: t => (k :: h) :: t
    | [] => [[k]]
theorem cut_ne (c : Nat) : ∀ l, cut c l ≠ []
  | [] => by simp [cut]
  | k :: r => by
    unfold cut
    split
    · simp
    · split <;> simp
theorem cut_cons (c : Nat) (l : List Nat) : ∃ h t, cut c l = h :: t := by
  cases e : cut c l with
  | nil => exact absurd e (cut_ne c l)
  | cons h t => exact ⟨h, t, rfl⟩
theorem cut_free (c : Nat) (p : List Nat) (hp : c ∉ p) : cut c p = [p] := by
  induction p with
  | nil => rfl
  | cons k r ih =>
    have h1 : k ≠ c := fun e => hp (by simp [e])
    have h2 : c ∉ r := fun e => hp (by simp [e])
    simp [cut, h1, ih h2]
theorem cut_mid (c : Nat) (p r : List Nat) (hp : c ∉ p) : cut c (p ++ c :: r) = p :: cut c r := by
  induction p with
  | nil => simp [cut]
  | cons k q ih =>
    have h1 : k ≠ c := fun e => hp (by simp [e])
    have h2 : c ∉ q := fun e => hp (by simp [e])
    simp [cut, h1, ih h2]
theorem cut_join (c : Nat) : ∀ (parts : List PySem.Str), parts ≠ [] → (∀ p ∈ parts, c ∉ p.cps.toList) → cut c (PySem.Str.join ⟨#[c]⟩ parts).cps.toList = parts.map fun p => p.cps.toList
  | [], h, _ => absurd rfl h
  | [p], _, h => by
    show cut c p.cps.toList = _
    rw [cut_free c _ (h p (.head _))]; rfl
  | p :: q :: r, _, h => by
    have ih := cut_join c (q :: r) (by simp) (fun x hx => h x (.tail _ hx))
    show cut c ((p ++ ⟨#[c]⟩ ++ PySem.Str.join ⟨#[c]⟩ (q :: r)).cps.toList) = _
    have e : (p ++ (⟨#[c]⟩ : PySem.Str) ++ PySem.Str.join ⟨#[c]⟩ (q :: r)).cps.toList = p.cps.toList ++ c :: (PySem.Str.join ⟨#[c]⟩ (q :: r)).cps.toList := by
      simp [PySem.Str.cps_append]
    rw [e, cut_mid c _ _ (h p (.head _)), ih]; rfl
theorem split_ne (x y : PySem.Str) : Txt.split x y ≠ [] := by
  unfold Txt.split
  split
  · simp
  · split
    · simp
    · rw [StrLaws.partsBetween_eq]
      obtain ⟨p, r, e⟩ := StrLaws.partsFrom_ne x y.length 0 (occurrences x y 0 x.length (x.length + 1))
      rw [e]; simp
theorem split_one (l : List Nat) (c : Nat) : Txt.split (S l) ⟨#[c]⟩ = (cut c l).map S := by
  have h1 := cut_join c (Txt.split (S l) ⟨#[c]⟩) (split_ne _ _) (StrLaws.split_free (S l) c)
  rw [StrLaws.join_split, S_list] at h1
  rw [h1, List.map_map]
  conv => lhs; rw [← List.map_id (Txt.split (S l) ⟨#[c]⟩)]
  exact List.map_congr_left fun p _ => (S_of p).symm
theorem join_cut (c : Nat) (z : List Nat) : ∀ l, (PySem.Str.join (S z) ((cut c l).map S)).cps.toList = l.flatMap fun k => if k = c then z else [k]
  | [] => by simp [cut, PySem.Str.join]
  | k :: r => by
    have ih := join_cut c z r
    obtain ⟨h, t, e⟩ := cut_cons c r
    rw [e] at ih
    by_cases hk : k = c
    · have e2 : cut c (k :: r) = [] :: h :: t := by simp [cut, hk, e]
      rw [e2]
      show (S [] ++ S z ++ PySem.Str.join (S z) ((h :: t).map S)).cps.toList = _
      simp only [PySem.Str.cps_append, Array.toList_append, ih, List.flatMap_cons, if_pos hk]
      simp
    · have e2 : cut c (k :: r) = (k :: h) :: t := by simp [cut, hk, e]
      rw [e2, List.flatMap_cons, if_neg hk, ← ih]
      cases t with
      | nil => simp [PySem.Str.join]
      | cons q t' =>
        show (S (k :: h) ++ S z ++ PySem.Str.join (S z) ((q :: t').map S)).cps.toList = [k] ++ (S h ++ S z ++ PySem.Str.join (S z) ((q :: t').map S)).cps.toList
        simp [PySem.Str.cps_append]
theorem replace_one (l z : List Nat) (c : Nat) : Txt.replace (S l) ⟨#[c]⟩ (S z) = S (l.flatMap fun k => if k = c then z else [k]) := by
  rw [StrLaws.replace_one, split_one]
  exact str_eq (by rw [join_cut, S_list])

/-- CRLF to LF -/
def lf2 : List Nat → List Nat
  | 13 :: 10 :: r => 10 :: lf2 r
  | c :: r => c :: lf2 r
  | [] => []
abbrev At2 (l : List Nat) (k : Nat) : Prop := ∃ r, l.drop k = 13 :: 10 :: r
theorem lf2_cons {c : Nat} {r : List Nat} (h : ¬ ∃ r', c :: r = 13 :: 10 :: r') : lf2 (c :: r) = c :: lf2 r := by
  cases r with
  | nil => cases Nat.decEq c 13 <;> simp_all [lf2]
  | cons d r =>
    rw [lf2]
    rintro r' rfl hr
    exact h ⟨_, by rw [hr]⟩
theorem lf2_none (l : List Nat) : ∀ n a, l.length - a = n → (∀ k, a ≤ k → ¬ At2 l k) → lf2 (l.drop a) = l.drop a := by
  intro n
  induction n with
  | zero => intro a h _; rw [List.drop_eq_nil_of_le (by omega)]; rfl
  | succ n ih =>
    intro a h hn
    have e : l.drop a = l[a] :: l.drop (a + 1) := List.drop_eq_getElem_cons (by omega)
    rw [e, lf2_cons (by rw [← e]; exact fun ⟨r, hr⟩ => hn a (Nat.le_refl _) ⟨r, hr⟩), ih (a + 1) (by omega) (fun k hk => hn k (by omega))]
theorem lf2_upto (l : List Nat) : ∀ n a c, c - a = n → a ≤ c → c + 2 ≤ l.length → At2 l c → (∀ k, a ≤ k → k < c → ¬ At2 l k) → lf2 (l.drop a) = (l.drop a).take (c - a) ++ 10 :: lf2 (l.drop (c + 2)) := by
  intro n
  induction n with
  | zero =>
    intro a c h hac hl hA _
    have e : a = c := by omega
    subst e
    obtain ⟨r, hr⟩ := hA
    have e2 : l.drop (a + 2) = r := by rw [← List.drop_drop, hr]; rfl
    rw [hr, e2, Nat.sub_self]; simp [lf2]
  | succ n ih =>
    intro a c h hac hl hA hn
    have e : l.drop a = l[a] :: l.drop (a + 1) := List.drop_eq_getElem_cons (by omega)
    have ih' := ih (a + 1) c (by omega) (by omega) hl hA (fun k h1 h2 => hn k (by omega) h2)
    have e3 : c - a = (c - (a + 1)) + 1 := by omega
    have e4 : lf2 (l.drop a) = l[a] :: lf2 (l.drop (a + 1)) := by
      rw [e, lf2_cons (by rw [← e]; exact fun ⟨r, hr⟩ => hn a (Nat.le_refl _) (by omega) ⟨r, hr⟩)]
    have e5 : (l.drop a).take (c - (a + 1) + 1) = l[a] :: (l.drop (a + 1)).take (c - (a + 1)) := by
      rw [e, List.take_succ_cons]
    rw [e4, ih', e3, e5, List.cons_append]
theorem at2_iff (l : List Nat) (k : Nat) : StrLaws.At (S l) ⟨#[13, 10]⟩ (S l).length k ↔ At2 l k := by
  unfold StrLaws.At
  rw [StrLaws.subAt_eq, S_list, S_len]
  show k + 2 ≤ l.length ∧ ((l.drop k).take 2 == [13, 10]) = true ↔ _
  rw [beq_iff_eq]
  constructor
  · rintro ⟨h1, h2⟩
    refine ⟨(l.drop k).drop 2, ?_⟩
    rw [← List.take_append_drop 2 (l.drop k), h2]; simp
  · rintro ⟨r, hr⟩
    have hlen : (l.drop k).length = r.length + 2 := by rw [hr]; rfl
    rw [List.length_drop] at hlen
    exact ⟨by omega, by rw [hr]; rfl⟩
theorem parts2 (l : List Nat) : ∀ (cuts : List Nat) (a f : Nat), StrLaws.ChainG (S l) ⟨#[13, 10]⟩ (S l).length a cuts f → (∀ k, f ≤ k → ¬ At2 l k) →
    (PySem.Str.join (S [10]) (StrLaws.partsFrom (S l) 2 a cuts)).cps.toList = lf2 (l.drop a)
  | [], a, f, h, hn => by
    have e : f = a := h
    subst e
    show (strSub (S l) f (S l).length).cps.toList = _
    rw [StrLaws.strSub_toList, S_list, S_len, lf2_none l _ f rfl hn]
    exact List.take_of_length_le (by simp)
  | c :: r, a, f, h, hn => by
    obtain ⟨h1, h2, h3, h4⟩ := h
    have ih := parts2 l r (c + 2) f h4 hn
    obtain ⟨p, q, e⟩ := StrLaws.partsFrom_ne (S l) 2 (c + 2) r
    rw [e] at ih
    show (PySem.Str.join (S [10]) (strSub (S l) a c :: StrLaws.partsFrom (S l) 2 (c + 2) r)).cps.toList = _
    rw [e]
    show (strSub (S l) a c ++ S [10] ++ PySem.Str.join (S [10]) (p :: q)).cps.toList = _
    have h2' : c + 2 ≤ l.length := by have := h2.1; rw [S_len] at this; exact this
    rw [lf2_upto l _ a c rfl h1 h2' ((at2_iff l c).mp h2) (fun k k1 k2 => fun hA => h3 k k1 k2 ((at2_iff l k).mpr hA))]
    simp only [PySem.Str.cps_append, Array.toList_append, ih, StrLaws.strSub_toList, S_list]
    simp
theorem replace_crlf (l : List Nat) : Txt.replace (S l) ⟨#[13, 10]⟩ (S [10]) = S (lf2 l) := by
  obtain ⟨f, hc, hn⟩ := StrLaws.occ_tight (S l) ⟨#[13, 10]⟩ (by decide)
  have hp := parts2 l _ 0 f hc (fun k hk hA => hn k hk ((at2_iff l k).mpr hA))
  unfold Txt.replace
  split
  · rename_i hz
    have hz' : (occurrences (S l) ⟨#[13, 10]⟩ 0 (S l).length ((S l).length + 1)) = [] := by
      have h2 : (({ cps := #[13, 10] } : PySem.Str).length == 0) = false := rfl
      rw [h2, Bool.false_and, Bool.or_false] at hz
      simpa using hz
    rw [hz'] at hp
    have e : (strSub (S l) 0 (S l).length).cps.toList = lf2 (l.drop 0) := hp
    rw [StrLaws.sub_whole, S_list, List.drop_zero] at e
    rw [← e]
  · refine str_eq ?_
    rw [StrLaws.glued_eq_join, StrLaws.partsBetween_eq, S_list]
    exact hp
/-- the rows of a text -/
def rowsL (l : List Nat) : List (List Nat) := cut 10 ((lf2 l).flatMap fun k => if k = 13 then [10] else [k])
theorem cut_len (c : Nat) (l : List Nat) : (cut c l).length ≤ l.length + 1 := by
  induction l with
  | nil => simp [cut]
  | cons k r ih =>
    obtain ⟨h, t, e⟩ := cut_cons c r
    by_cases hk : k = c
    · simp [cut, hk]; omega
    · rw [e] at ih
      simp only [List.length_cons] at ih ⊢
      simp only [cut, hk, if_false, e, List.length_cons]
      omega
theorem lf2_len : ∀ (n : Nat) (l : List Nat), l.length ≤ n → (lf2 l).length ≤ l.length := by
  intro n
  induction n with
  | zero => intro l h; cases l with
    | nil => simp [lf2]
    | cons _ _ => simp at h
  | succ n ih =>
    intro l h
    cases l with
    | nil => simp [lf2]
    | cons c r =>
      by_cases hx : ∃ r', c :: r = 13 :: 10 :: r'
      · obtain ⟨r', e⟩ := hx
        rw [e] at h ⊢
        have := ih r' (by simp at h; omega)
        simp only [lf2, List.length_cons]; omega
      · rw [lf2_cons hx]
        have := ih r (by simp at h; omega)
        simp only [List.length_cons]; omega
theorem one_len (l : List Nat) : (l.flatMap fun k => if k = 13 then [10] else [k]).length = l.length := by
  induction l with
  | nil => rfl
  | cons k r ih => simp only [List.flatMap_cons, List.length_append, ih, List.length_cons]; split <;> simp <;> omega
theorem rows_len (l : List Nat) : (rowsL l).length ≤ l.length + 1 := by
  have h1 := cut_len 10 ((lf2 l).flatMap fun k => if k = 13 then [10] else [k])
  have h2 := lf2_len l.length l (Nat.le_refl _)
  rw [one_len] at h1
  unfold rowsL
  omega
theorem rows_is (l : List Nat) : Txt.split (Txt.replace (Txt.replace (S l) (PySem.Str.ofString "\x0d\n") (PySem.Str.ofString "\n")) (PySem.Str.ofString "\x0d") (PySem.Str.ofString "\n")) (PySem.Str.ofString "\n") = (rowsL l).map S := by
  have e1 : PySem.Str.ofString "\x0d\n" = ⟨#[13, 10]⟩ := by decide +kernel
  have e2 : PySem.Str.ofString "\n" = S [10] := by decide +kernel
  have e3 : PySem.Str.ofString "\x0d" = ⟨#[13]⟩ := by decide +kernel
  rw [e1, e2, e3, replace_crlf, replace_one, show S [10] = ⟨#[10]⟩ from rfl, split_one]; rfl
end Mine

end
section
open PySem PySem.W PyProof.Rows
set_option maxRecDepth 100000
namespace Mine
section
variable {prog : Program} {w : World} {A : Around} {s : Shared} {env : Env} {h₀ : Heap} {L : Addr}

theorem m_set {m : Str → Option Value} {x : Str} {v : Value} (h : m x = some v) : (fun y => if y = x then some v else m y) = m := by
  funext y
  by_cases e : y = x
  · simp [e, h]
  · simp [e]
theorem fr_set {h : Heap} {m : Str → Option Value} {x : Str} {v : Value} (F : Fr h₀ L h m) (e : m x = some v) : Fr h₀ L h (fun y => if y = x then some v else m y) := by
  rw [m_set e]; exact F

theorem ints_at {vs : List Value} {ns : List Int} {i : Nat} {v : Value} (hI : IntsAre vs ns) (hv : vs.toArray[i]? = some v) : ∃ n t, v = .int n t ∧ n ∈ ns := by
  have hv' : vs[i]? = some v := by simpa using hv
  have hlt : i < ns.length := by
    have h1 := (List.getElem?_eq_some_iff.mp hv').1
    rw [hI.length] at h1; exact h1
  obtain ⟨t, hx⟩ := hI.get i ns[i] (by simp [hlt])
  rw [hv'] at hx
  exact ⟨ns[i], t, Option.some.inj hx, List.getElem_mem _⟩

/-- a turn's end -/
def TurnEnd (h₀ : Heap) (L it : Addr) (itO : Obj) (ax : Addr) (items : Array Value) (J : (Str → Option Value) → List (Addr × Obj) → Prop) (R : Result → Shared → Prop) (s : Shared) (f : Flow) (s₃ : Shared) : Prop :=
  match f with
  | .ret v => R (.ok (.ret v)) s₃
  | .brk => R (.ok .next) s₃
  | _ => ∃ h' tk' m' news', s₃ = { s with heap := h', toks := tk' } ∧ Fr h₀ L h' m' ∧ News h₀ L h' ((it, itO) :: news') ∧ (∀ p ∈ news', p.1 ≠ it) ∧ J m' news' ∧ h'.IsList ax items

theorem newsTail {h : Heap} {p : Addr × Obj} {news : List (Addr × Obj)} (N : News h₀ L h (p :: news)) : News h₀ L h news := fun q hq => N q (.tail _ hq)

theorem for_list {R : Result → Shared → Prop} {target : Expr} {body : List Stmt} {ax : Addr} {items : Array Value} {m₀ : Str → Option Value} {news₀ : List (Addr × Obj)} {E : Value → Shared → Prop}
    (J : Nat → (Str → Option Value) → List (Addr × Obj) → Prop)
    (hh : A.handled = none) (hp : 0 < s.toks) (hl : s.heap.IsList ax items) (F : Fr h₀ L s.heap m₀) (N : News h₀ L s.heap news₀) (h0 : J 0 m₀ news₀)
    (go : ∀ (I : Addr) (j : Nat) (v : Value) (s' : Shared) (Q : Unit → Shared → Prop) (E : Value → Shared → Prop), v ∈ items → s'.heap.IsListIter I ax j → Q () s' → wpAny (model prog w) A (letOwnedTupleGo target (.ref I) v) Q E s')
    (turn : ∀ i v m₁ news₁ h tk it itO, items[i]? = some v → J i m₁ news₁ → 0 < tk → s.heap.objs.size ≤ h.objs.size → it = s.heap.objs.size → Fr h₀ L h m₁ → News h₀ L h ((it, itO) :: news₁) → (∀ p ∈ news₁, p.1 ≠ it) → h.IsList ax items →
      wpAny (model prog w) A (assign target env v) (fun _ s₂ => 0 < s₂.toks → wpAny (model prog w) A (execs body env) (TurnEnd h₀ L it itO ax items (J (i + 1)) R s) (fun _ _ => False) s₂) (fun _ _ => False) { s with heap := h, toks := tk })
    (done : ∀ m₁ news₁ h tk, 0 < tk → J items.size m₁ news₁ → Fr h₀ L h m₁ → News h₀ L h news₁ → R (.ok .next) { s with heap := h, toks := tk }) :
    wpAny (model prog w) A (pyIter (.ref ax)) (fun it s₂ => codeAny (model prog w) A (.forLoop target it body [] env) R s₂) E s := by
  refine wpAny_pyIter_list hl ?_
  generalize hit0 : s.heap.objs.size = it
  obtain ⟨oL, hoL⟩ : ∃ oL, s.heap.get? L = some oL := by obtain ⟨oL, _, _, hL, _⟩ := F.ns; exact ⟨oL, hL⟩
  have hLit : L ≠ it := by rw [← hit0]; exact Nat.ne_of_lt (Heap.lt_size hoL)
  obtain ⟨oa, hoa, _⟩ := id hl
  have hait : ax ≠ it := by rw [← hit0]; exact Nat.ne_of_lt (Heap.lt_size hoa)
  have h₀it : h₀.get? it = none := by
    cases q : h₀.get? it with
    | none => rfl
    | some o => exact absurd (Heap.lt_size (F.keep _ _ q)) (by rw [hit0]; exact Nat.lt_irrefl _)
  have hnit : ∀ p ∈ news₀, p.1 ≠ it := fun p hp => by rw [← hit0]; exact Nat.ne_of_lt (Heap.lt_size (N p hp).1)
  refine codeAny_forLoop_any (fun n s' => ∃ h' tk' m' news' i, s' = { s with heap := h', toks := tk' } ∧ 0 < tk' ∧ s.heap.objs.size ≤ h'.objs.size ∧ h'.IsListIter it ax i ∧ Fr h₀ L h' m' ∧ News h₀ L h' news' ∧ (∀ p ∈ news', p.1 ≠ it) ∧
      J i m' news' ∧ h'.IsList ax items ∧ n = items.size + 1 - i ∧ i ≤ items.size) ?_ (items.size + 1) ?_
  · rintro n s' ⟨h', tk', m', news', i, rfl, hp', hsz, hit, F', N', hn', hJ, hl', rfl, hi⟩
    refine toks_T hp' (grown ?_)
    cases hv : items[i]? with
    | none =>
      have e : i = items.size := Nat.le_antisymm hi (by simpa using hv)
      refine wpAny_pyNext_list_end hh hit hl' hv fun h₁ he₁ => ?_
      intro _ _
      refine wpAny_execs_nil ?_
      refine done m' news' h₁ tk' hp' (e ▸ hJ) ⟨F'.ns.extBut he₁ hLit, fun b o q => he₁ b o (fun z => by rw [z, h₀it] at q; cases q) (F'.keep b o q), F'.above⟩ fun p hp => ⟨he₁ _ _ (hn' p hp) (N' p hp).1, (N' p hp).2⟩
    | some v =>
      have hlt : i < items.size := (Array.getElem?_eq_some_iff.mp hv).1
      refine wpAny_pyNext_list_item hit hl' hv fun h₁ hit₁ hs₁ => ?_
      intro hg _
      have he₁ := hs₁.extBut
      obtain ⟨itO, hitO, hcO, hdO⟩ := id hit₁
      refine go it (i + 1) v _ _ _ (Array.mem_of_getElem? hv) hit₁ ?_
      have F₁ : Fr h₀ L h₁ m' := ⟨F'.ns.extBut he₁ hLit, fun b o q => he₁ b o (fun z => by rw [z, h₀it] at q; cases q) (F'.keep b o q), F'.above⟩
      have N₁ : News h₀ L h₁ ((it, itO) :: news') := fun p hp => by
        rcases List.mem_cons.mp hp with rfl | hp
        · exact ⟨hitO, Ne.symm hLit, h₀it⟩
        · exact ⟨he₁ _ _ (hn' p hp) (N' p hp).1, (N' p hp).2⟩
      have hl₁ : h₁.IsList ax items := hl'.extBut he₁ hait
      have T := turn i v m' news' h₁ tk' it itO hv hJ hp' (Nat.le_trans hsz hg.2) hit0.symm F₁ N₁ hn' hl₁
      refine wpAny_mono (plus_T (s := { s with heap := h₁, toks := tk' }) hp' T) (fun _ s₂ x => ?_) fun _ _ x => x.elim
      obtain ⟨g₂, p₂, x⟩ := x
      refine wpAny_mono (plus_T p₂ (x p₂)) (fun f s₃ y => ?_) fun _ _ x => x.elim
      obtain ⟨g₃, p₃, y⟩ := y
      have fin : (∃ h' tk' m' news', s₃ = { s with heap := h', toks := tk' } ∧ Fr h₀ L h' m' ∧ News h₀ L h' ((it, itO) :: news') ∧ (∀ p ∈ news', p.1 ≠ it) ∧ J (i + 1) m' news' ∧ h'.IsList ax items) →
          ∃ m, m < items.size + 1 - i ∧ ∃ h' tk' m' news' i, s₃ = { s with heap := h', toks := tk' } ∧ 0 < tk' ∧ s.heap.objs.size ≤ h'.objs.size ∧ h'.IsListIter it ax i ∧ Fr h₀ L h' m' ∧ News h₀ L h' news' ∧ (∀ p ∈ news', p.1 ≠ it) ∧
            J i m' news' ∧ h'.IsList ax items ∧ m = items.size + 1 - i ∧ i ≤ items.size := by
        rintro ⟨h', tk', m', news', rfl, a1, a2, a3, a4, a5⟩
        exact ⟨items.size + 1 - (i + 1), by omega, h', tk', m', news', i + 1, rfl, p₃, Nat.le_trans hsz (Nat.le_trans hg.2 (Nat.le_trans g₂.2 g₃.2)), ⟨itO, (a2 _ (.head _)).1, hcO, hdO⟩, a1, newsTail a2, a3, a4, a5, rfl, hlt⟩
      cases f with
      | ret v => exact y
      | brk => exact y
      | next => exact fin y
      | cont => exact fin y
  · refine ⟨s.heap.push _, s.toks, m₀, news₀, 0, rfl, hp, by rw [size_push]; omega, ⟨_, hit0 ▸ Heap.get?_push_size _ rfl, rfl, rfl⟩, F.push _, fun p hp => ⟨Heap.get?_push_of_some _ (N p hp).1, (N p hp).2⟩, hnit, h0, hl.at fun o e => Heap.get?_push_of_some _ e, rfl, Nat.zero_le _⟩

theorem go_name {x : Str} {px : Pos} {ax : Addr} {items : Array Value} : ∀ (I : Addr) (j : Nat) (v : Value) (s' : Shared) (Q : Unit → Shared → Prop) (E : Value → Shared → Prop), v ∈ items → s'.heap.IsListIter I ax j → Q () s' → wpAny (model prog w) A (letOwnedTupleGo (.Name x px) (.ref I) v) Q E s' :=
  fun _ _ _ _ _ _ _ _ h => wpAny_of_eq (a := ()) rfl h
theorem go_tup {es : List Expr} {k : Nat} {px : Pos} {ax : Addr} {items : Array Value} (hr : ∀ v ∈ items, ∃ T, v = .ref T) : ∀ (I : Addr) (j : Nat) (v : Value) (s' : Shared) (Q : Unit → Shared → Prop) (E : Value → Shared → Prop), v ∈ items → s'.heap.IsListIter I ax j → Q () s' → wpAny (model prog w) A (letOwnedTupleGo (.Tuple es k px) (.ref I) v) Q E s' :=
  fun _ _ v _ _ _ hv hi h => by
    obtain ⟨T, rfl⟩ := hr v hv
    exact wpAny_letOwnedTupleGo_listiter hi h

/-- a turn's end, an iterator alone -/
def TurnEndI (h₀ : Heap) (L it : Addr) (itO : Obj) (J : (Str → Option Value) → List (Addr × Obj) → Prop) (R : Result → Shared → Prop) (s : Shared) (f : Flow) (s₃ : Shared) : Prop :=
  match f with
  | .ret v => R (.ok (.ret v)) s₃
  | .brk => R (.ok .next) s₃
  | _ => ∃ h' tk' m' news', s₃ = { s with heap := h', toks := tk' } ∧ Fr h₀ L h' m' ∧ News h₀ L h' ((it, itO) :: news') ∧ (∀ p ∈ news', p.1 ≠ it) ∧ J m' news'

theorem for_it {R : Result → Shared → Prop} {x : Str} {px : Pos} {body : List Stmt} {it : Addr} {n : Nat} {P : Nat → Value → Prop} {St : Nat → Heap → Prop} {m₀ : Str → Option Value} {news₀ : List (Addr × Obj)} {itO₀ : Obj}
    (W : Walks prog w A it [it] [it] n P St) (hSt : St 0 s.heap) (alive : ∀ i h, St i h → ∃ o, h.get? it = some o)
    (J : Nat → (Str → Option Value) → List (Addr × Obj) → Prop) (hp : 0 < s.toks) (F : Fr h₀ L s.heap m₀) (N : News h₀ L s.heap ((it, itO₀) :: news₀)) (hnit : ∀ p ∈ news₀, p.1 ≠ it) (h0 : J 0 m₀ news₀)
    (turn : ∀ i v m₁ news₁ h tk itO, i < n → P i v → J i m₁ news₁ → 0 < tk → s.heap.objs.size ≤ h.objs.size → Fr h₀ L h m₁ → News h₀ L h ((it, itO) :: news₁) → (∀ p ∈ news₁, p.1 ≠ it) →
      wpAny (model prog w) A (assign (.Name x px) env v) (fun _ s₂ => 0 < s₂.toks → wpAny (model prog w) A (execs body env) (TurnEndI h₀ L it itO (J (i + 1)) R s) (fun _ _ => False) s₂) (fun _ _ => False) { s with heap := h, toks := tk })
    (done : ∀ m₁ news₁ h tk, 0 < tk → J n m₁ news₁ → Fr h₀ L h m₁ → News h₀ L h news₁ → R (.ok .next) { s with heap := h, toks := tk }) :
    codeAny (model prog w) A (.forLoop (.Name x px) (.ref it) body [] env) R s := by
  have hLit : L ≠ it := Ne.symm (N _ (.head _)).2.1
  have h₀it : h₀.get? it = none := (N _ (.head _)).2.2
  refine codeAny_forLoop_any (fun k s' => ∃ h' tk' m' news' itO i, s' = { s with heap := h', toks := tk' } ∧ 0 < tk' ∧ s.heap.objs.size ≤ h'.objs.size ∧ St i h' ∧ Fr h₀ L h' m' ∧ News h₀ L h' ((it, itO) :: news') ∧ (∀ p ∈ news', p.1 ≠ it) ∧
      J i m' news' ∧ k = n + 1 - i ∧ i ≤ n) ?_ (n + 1) ⟨s.heap, s.toks, m₀, news₀, itO₀, 0, rfl, hp, Nat.le_refl _, hSt, F, N, hnit, h0, rfl, Nat.zero_le _⟩
  rintro k s' ⟨h', tk', m', news', itO, i, rfl, hp', hsz, hst, F', N', hn', hJ, rfl, hi⟩
  have ext : ∀ {h₁ : Heap}, (∀ b o, b ∉ [it] → h'.get? b = some o → h₁.get? b = some o) → Fr h₀ L h₁ m' ∧ News h₀ L h₁ news' := fun he => by
    refine ⟨⟨?_, fun b o q => he b o (fun z => ?_) (F'.keep b o q), F'.above⟩, fun p hp => ⟨he _ _ (by simpa using hn' p hp) (N' p (.tail _ hp)).1, (N' p (.tail _ hp)).2⟩⟩
    · obtain ⟨oL, es, ep, hL, r⟩ := F'.ns
      exact ⟨oL, es, ep, he _ _ (by simpa using hLit) hL, r⟩
    · rw [List.mem_singleton.mp z, h₀it] at q; cases q
  by_cases hlt : i < n
  · refine toks_T hp' (grown (W.item i _ _ _ hlt hst fun v h₁ tk₁ hP hst₁ he₁ => ?_))
    intro hg hp₁
    obtain ⟨F₁, N₁⟩ := ext he₁
    refine wpAny_of_eq (a := ()) rfl ?_
    obtain ⟨itO₁, hitO₁⟩ := alive _ _ hst₁
    have N₂ : News h₀ L h₁ ((it, itO₁) :: news') := fun p hp => by
      rcases List.mem_cons.mp hp with rfl | hp
      · exact ⟨hitO₁, Ne.symm hLit, h₀it⟩
      · exact N₁ p hp
    refine wpAny_mono (plus_T (s := { s with heap := h₁, toks := tk₁ }) hp₁ (turn i v m' news' h₁ tk₁ itO₁ hlt hP hJ hp₁ (Nat.le_trans hsz hg.2) F₁ N₂ hn')) (fun _ s₂ x => ?_) fun _ _ x => x.elim
    obtain ⟨g₂, p₂, x⟩ := x
    refine wpAny_mono (plus_T p₂ (x p₂)) (fun f s₃ y => ?_) fun _ _ x => x.elim
    obtain ⟨g₃, p₃, y⟩ := y
    have fin : (∃ h' tk' m' news', s₃ = { s with heap := h', toks := tk' } ∧ Fr h₀ L h' m' ∧ News h₀ L h' ((it, itO₁) :: news') ∧ (∀ p ∈ news', p.1 ≠ it) ∧ J (i + 1) m' news') →
        ∃ m, m < n + 1 - i ∧ ∃ h' tk' m' news' itO i, s₃ = { s with heap := h', toks := tk' } ∧ 0 < tk' ∧ s.heap.objs.size ≤ h'.objs.size ∧ St i h' ∧ Fr h₀ L h' m' ∧ News h₀ L h' ((it, itO) :: news') ∧ (∀ p ∈ news', p.1 ≠ it) ∧
          J i m' news' ∧ m = n + 1 - i ∧ i ≤ n := by
      rintro ⟨h', tk', m', news', rfl, a1, a2, a3, a4⟩
      refine ⟨n + 1 - (i + 1), by omega, h', tk', m', news', itO₁, i + 1, rfl, p₃, Nat.le_trans hsz (Nat.le_trans hg.2 (Nat.le_trans g₂.2 g₃.2)), W.frame _ _ _ hst₁ (fun b hb o e => ?_), a1, a2, a3, a4, rfl, hlt⟩
      rw [List.mem_singleton.mp hb] at e ⊢
      rw [hitO₁] at e
      rw [← e]; exact (a2 _ (.head _)).1
    cases f with
    | ret v => exact y
    | brk => exact y
    | next => exact fin y
    | cont => exact fin y
  · have e : i = n := Nat.le_antisymm hi (Nat.not_lt.mp hlt)
    subst e
    refine toks_T hp' (W.done _ _ _ hst fun h₁ tk₁ he₁ => ?_)
    intro hp₁
    obtain ⟨F₁, N₁⟩ := ext he₁
    exact wpAny_execs_nil (done m' news' h₁ tk₁ hp₁ hJ F₁ N₁)

theorem for_ascii {E : Value → Shared → Prop} {R : Result → Shared → Prop} {x : Str} {t : Tok} {y : Str} {px : Pos} {body : List Stmt} {m₀ : Str → Option Value} {news₀ : List (Addr × Obj)}
    (J : Nat → (Str → Option Value) → List (Addr × Obj) → Prop) (ha : x.cps.all (· < 128) = true) (hh : A.handled = none) (hp : 0 < s.toks) (F : Fr h₀ L s.heap m₀) (N : News h₀ L s.heap news₀) (h0 : J 0 m₀ news₀)
    (turn : ∀ i c u m₁ news₁ h tk it itO, x.cps[i]? = some c → J i m₁ news₁ → 0 < tk → s.heap.objs.size ≤ h.objs.size → it = s.heap.objs.size → Fr h₀ L h m₁ → News h₀ L h ((it, itO) :: news₁) → (∀ p ∈ news₁, p.1 ≠ it) →
      wpAny (model prog w) A (assign (.Name y px) env (.str ⟨#[c]⟩ u)) (fun _ s₂ => 0 < s₂.toks → wpAny (model prog w) A (execs body env) (TurnEndI h₀ L it itO (J (i + 1)) R s) (fun _ _ => False) s₂) (fun _ _ => False) { s with heap := h, toks := tk })
    (done : ∀ m₁ news₁ h tk, 0 < tk → J x.cps.size m₁ news₁ → Fr h₀ L h m₁ → News h₀ L h news₁ → R (.ok .next) { s with heap := h, toks := tk }) :
    wpAny (model prog w) A (pyIter (.str x t)) (fun it s₂ => codeAny (model prog w) A (.forLoop (.Name y px) it body [] env) R s₂) E s := by
  refine wpAny_pyIter_ascii ha ?_
  have hne : ∀ p ∈ news₀, p.1 ≠ s.heap.objs.size := fun p hp => Nat.ne_of_lt (Heap.lt_size (N p hp).1)
  refine for_it (Walks.strAscii hh s.heap.objs.size x t) ⟨_, Heap.get?_push_size _ rfl, rfl, rfl⟩ (fun _ _ ⟨o, ho, _⟩ => ⟨o, ho⟩) J hp (F.push _) (N.push F _) hne h0 ?_ done
  rintro i v m₁ news₁ h tk itO hi ⟨c, u, hc, rfl⟩ hJ htk hsz F₁ N₁ hn₁
  exact turn i c u m₁ news₁ h tk _ itO hc hJ htk (Nat.le_trans (by rw [size_push]; omega) hsz) rfl F₁ N₁ hn₁

/-- a while's turn's end -/
def WhileEnd (h₀ : Heap) (L : Addr) (n : Nat) (J : Nat → (Str → Option Value) → List (Addr × Obj) → Prop) (R : Result → Shared → Prop) (s : Shared) (f : Flow) (s₃ : Shared) : Prop :=
  match f with
  | .ret v => R (.ok (.ret v)) s₃
  | .brk => R (.ok .next) s₃
  | _ => ∃ h' tk' m' news' k, s₃ = { s with heap := h', toks := tk' } ∧ k < n ∧ Fr h₀ L h' m' ∧ News h₀ L h' news' ∧ J k m' news'

theorem while_N {R : Result → Shared → Prop} {test : Expr} {body : List Stmt} {m₀ : Str → Option Value} {news₀ : List (Addr × Obj)}
    (J : Nat → (Str → Option Value) → List (Addr × Obj) → Prop) (hp : 0 < s.toks) (F : Fr h₀ L s.heap m₀) (N : News h₀ L s.heap news₀) (n : Nat) (h0 : J n m₀ news₀)
    (turn : ∀ n m₁ news₁ h tk, J n m₁ news₁ → 0 < tk → Fr h₀ L h m₁ → News h₀ L h news₁ →
      wpAny (model prog w) A (isTrue test env (eval test env)) (fun b s₂ => 0 < s₂.toks → if b then wpAny (model prog w) A (execs body env) (WhileEnd h₀ L n J R s) (fun _ _ => False) s₂ else R (.ok .next) s₂) (fun _ _ => False) { s with heap := h, toks := tk }) :
    codeAny (model prog w) A (.whileLoop test body [] env) R s := by
  refine codeAny_whileLoop (fun n s' => ∃ h' tk' m' news', s' = { s with heap := h', toks := tk' } ∧ 0 < tk' ∧ Fr h₀ L h' m' ∧ News h₀ L h' news' ∧ J n m' news') ?_ n ⟨s.heap, s.toks, m₀, news₀, rfl, hp, F, N, h0⟩
  rintro n s' ⟨h', tk', m', news', rfl, hp', F', N', hJ⟩
  refine wpAny_mono (plus_T hp' (turn n m' news' h' tk' hJ hp' F' N')) (fun b s₂ x => ?_) fun _ _ x => x.elim
  obtain ⟨_, p₂, x⟩ := x
  have x' := x p₂
  cases b with
  | false => exact wpAny_execs_nil x'
  | true =>
    refine wpAny_mono (plus_T p₂ x') (fun f s₃ y => ?_) fun _ _ x => x.elim
    obtain ⟨_, p₃, y⟩ := y
    have fin : (∃ h' tk' m' news' k, s₃ = { s with heap := h', toks := tk' } ∧ k < n ∧ Fr h₀ L h' m' ∧ News h₀ L h' news' ∧ J k m' news') →
        ∃ m, m < n ∧ ∃ h' tk' m' news', s₃ = { s with heap := h', toks := tk' } ∧ 0 < tk' ∧ Fr h₀ L h' m' ∧ News h₀ L h' news' ∧ J m m' news' := by
      rintro ⟨h', tk', m', news', k, rfl, a1, a2, a3, a4⟩
      exact ⟨k, a1, h', tk', m', news', rfl, p₃, a2, a3, a4⟩
    cases f with
    | ret v => exact y
    | brk => exact y
    | next => exact fin y
    | cont => exact fin y

theorem set_N {E : Value → Shared → Prop} {D : Addr} {m : Str → Option Value} {news news' : List (Addr × Obj)} {vs : List Value} {n : Nat} {k : Int} {t : Tok} {v : Value} {Q : Unit → Shared → Prop} (F : Fr h₀ L s.heap m) (N : News h₀ L s.heap news)
    (U : Upd D (listOf vs.toArray n) (listOf (vs.set k.toNat v).toArray n) news news') (h0 : 0 ≤ k) (h1 : k < vs.length) (hfit : k < 2 ^ 63) (h : ∀ h', Fr h₀ L h' m → News h₀ L h' news' → Q () { s with heap := h' }) :
    wpAny (model prog w) A (setItem (.ref D) (.int k t) v) Q E s := by
  obtain ⟨pre, post, rfl, rfl, a, b⟩ := U.split
  have z := N (D, listOf vs.toArray n) (List.mem_append.mpr (.inr (.head _)))
  have hs : vs.toArray.size = vs.length := List.size_toArray ..
  refine ki_setAt z.1 h0 hfit (by omega) (h _ (F.change (Heap.SameBut.update ..) z.2.1 z.2.2) (ki_turn _ N a b ?_ ?_))
  · show vs.toArray.setIfInBounds k.toNat v = (vs.set k.toNat v).toArray
    apply Array.toList_inj.mp
    simp
  · simp
theorem last_N {E : Value → Shared → Prop} {D : Addr} {news : List (Addr × Obj)} {vs : List Value} {v : Value} {n : Nat} {u : Tok} {value slice : Expr} {Q : Value → Shared → Prop} (N : News h₀ L s.heap news) (hm : (D, listOf (vs ++ [v]).toArray n) ∈ news) (h : Q v s)
    (hs : subscripted slice false (.ref D) (.int (-1) u) = operate [.ref D, .int (-1) u] (getItem (.ref D) (.int (-1) u)) := by with_unfolding_all rfl) :
    wpAny (model prog w) A (subscriptTail value slice (.ref D) (.int (-1) u)) Q E s :=
  have hL := N.isList hm
  have e1 : ((-1 : Int) + ((vs ++ [v]).toArray.size : Int)).toNat = vs.length := by simp only [List.size_toArray, List.length_append, List.length_singleton]; omega
  tail_any hL.typeIs slot_list_getitem.lookup (wpAny_getItem_list_neg hL (by decide) (by simp only [List.size_toArray, List.length_append, List.length_singleton]; omega) (by decide) (by rw [e1]; simp) h) hs
theorem get_N {E : Value → Shared → Prop} {D : Addr} {news : List (Addr × Obj)} {vs : List Value} {v : Value} {n : Nat} {k : Int} {u : Tok} {Q : Value → Shared → Prop} (N : News h₀ L s.heap news) (hm : (D, listOf vs.toArray n) ∈ news) (h0 : 0 ≤ k) (hfit : k < 2 ^ 63) (hx : vs[k.toNat]? = some v) (h : Q v s) :
    wpAny (model prog w) A (getItem (.ref D) (.int k u)) Q E s := wpAny_getItem_list (N.isList hm) h0 hfit (by simpa using hx) h
theorem refsLast {N' : Prop} {D : Addr} {news : List (Addr × Obj)} {as : List Addr} {a : Addr} {n : Nat} (h : (D, listOf ((as ++ [a]).map Value.ref).toArray n) ∈ news) : (D, listOf (as.map Value.ref ++ [Value.ref a]).toArray n) ∈ news := by
  rw [List.map_append] at h; exact h
end
def setsOf (m : Str → Option Value) : List (Str × Value) → Str → Option Value
  | [] => m
  | (x, v) :: l => fun y => if y = x then some v else setsOf m l y
theorem sets_eq {m : Str → Option Value} : ∀ {l : List (Str × Value)}, (∀ p ∈ l, m p.1 = some p.2) → setsOf m l = m
  | [], _ => rfl
  | (x, v) :: l, h => by
    have ih := sets_eq (m := m) (l := l) (fun p hp => h p (.tail _ hp))
    unfold setsOf
    rw [ih]
    exact m_set (h (x, v) (.head _))
theorem fr_sets {h₀ h : Heap} {L : Addr} {m : Str → Option Value} (l : List (Str × Value)) (F : Fr h₀ L h m) (hl : ∀ p ∈ l, m p.1 = some p.2) : Fr h₀ L h (setsOf m l) := by
  rw [sets_eq hl]; exact F
def Hold (P : Prop) : Prop := P
theorem hold {P : Prop} (h : Hold P) : P := h
end Mine

end
section
open PySem PySem.W PyProof.Rows
set_option maxRecDepth 100000
namespace Mine
local macro_rules | `(tactic| walk_at "execs cons") => `(tactic| (k_here; (refine execs_T (by first | assumption | exact Nat.succ_pos _ | (dsimp only; omega)) ?_); intro tk htk; (try dsimp only)))
local macro_rules | `(tactic| walk_at "call builtin:str.replace") => `(tactic| (k_here; dsimp only [List.nil_append, List.cons_append]; (refine toks_T (by first | assumption | exact Nat.succ_pos _ | (dsimp only; omega)) ?_); (refine SC.replaceW (by show @Ne Nat _ _; omega) (by show @Ne Nat _ _; omega) (by show @Ne Nat _ _; omega) (by decide) (by omega) (by decide) ?_); intro tS tk htk; dsimp only at htk))
set_option maxHeartbeats 8000000 in
theorem rows_spec {w : World} {loose : List Str} {mean : ExcName → Option Value} {mg mb : Str → Option Value} {s : Shared} {x : List Nat} {t : Tok} {Q : Value → Shared → Prop} {E : Value → Shared → Prop}
    (X : (hd.heap_39 w.params).In s.heap) (T : Top topProg loose mean mg mb s.heap) (hp : 0 < s.toks) (hx : x.length ≤ 1000)
    (h : ∀ a l h' tk, Ext s.heap h' → s.heap.objs.size ≤ a → h'.get? a = some (listOf (strValues l).toArray 0) → l.map (·.1) = (rowsL x).map S → Q (.ref a) { s with heap := h', toks := tk }) :
    wpAny (model PySem.Challenge.rw_ny0028_01.row.prog w) (Ar 800 4000) (call (.ref 125) [.str (S x) t]) Q E s := by
  w_on
  refine wpAny_call ?_
  revert X; k_fill; intro X
  refine enter (binds := [(Str.ofString "text", .str (S x) t)]) X T (by k_is) (by k_is) (by decide) (BindsTo.of_eq rfl) (locs rfl) ?_ rfl rfl rfl (by decide)
  intro L h₁ hL F N
  dsimp only
  have hr0 := S_len x
  have hL1 : s.heap.objs.size ≤ h₁.objs.size := Nat.le_of_lt (hL ▸ F.ns.lt)
  have hr1 := replace_len (S x) (Str.ofString "\x0d\n") (Str.ofString "\n")
  have hz1 : (Str.ofString "\n").length = 1 := by decide
  rw [hz1] at hr1
  have hr2 := replace_len (Txt.replace (S x) (Str.ofString "\x0d\n") (Str.ofString "\n")) (Str.ofString "\x0d") (Str.ofString "\n")
  rw [hz1] at hr2
  k_steps
  dsimp only
  rename List.map _ _ = Txt.split _ _ => e
  rw [rows_is] at e
  rename News _ _ _ [_] => N'
  exact h _ _ _ _ (Fr.keep (by assumption)) hL1 (N'.get (.head _)) e
theorem rows_N {w : World} {A : Around} {h₀ : Heap} {L : Addr} {m : Str → Option Value} {news : List (Addr × Obj)} {loose : List Str} {mean : ExcName → Option Value} {mg mb : Str → Option Value} {s : Shared} {x : List Nat} {t : Tok} {Q : Value → Shared → Prop} {E : Value → Shared → Prop}
    (F : Fr h₀ L s.heap m) (N : News h₀ L s.heap news) (X : (hd.heap_39 w.params).In h₀) (T : Top topProg loose mean mg mb h₀) (hp : 0 < s.toks) (hx : x.length ≤ 1000) (a1 : A.handled = none) (a2 : A.depth ≤ 800) (a3 : A.units ≤ 4000)
    (h : ∀ a l h' tk, 0 < tk → Fr h₀ L h' m → News h₀ L h' ((a, listOf (strValues l).toArray 0) :: news) → (∀ p ∈ news, p.1 < a) → l.map (·.1) = (rowsL x).map S → l.length = (rowsL x).length → Q (.ref a) { s with heap := h', toks := tk }) :
    wpAny (model PySem.Challenge.rw_ny0028_01.row.prog w) A (call (.ref 125) [.str (S x) t]) Q E s :=
  toks_T hp (weaken (rows_spec (X.keeps F.keep) (T.keeps F.keep) hp hx fun a l h' tk e1 e2 e3 e4 htk =>
    h a l h' tk htk (frExt F e1) (newsCons F N e1 (none_of_size e2) e3) (fun p hp => Nat.lt_of_lt_of_le (Heap.lt_size (N p hp).1) e2) e4 (by simpa using congrArg List.length e4)) a1 a2 a3)
end Mine

end
section
open PySem PySem.W PyProof.Rows
set_option maxRecDepth 100000
namespace Mine
local macro_rules | `(tactic| walk_at "execs cons") => `(tactic| (k_here; (refine execs_T (by first | assumption | exact Nat.succ_pos _ | (dsimp only; omega)) ?_); intro tk htk; (try dsimp only)))
local macro_rules | `(tactic| walk_at "exec For") => `(tactic| (k_here; refine wpAny_For ?_))
local macro_rules | `(tactic| walk_at "exec While") => `(tactic| (k_here; refine wpAny_While ?_))
local macro_rules | `(tactic| walk_at "call builtin:list.append") => `(tactic| (k_here; dsimp only [List.nil_append, List.cons_append]; k_dflt (refine' append_K ?k1 ?k2 ?k3 ?_ ?z; (case k1 => k_asm); (case k2 => k_asm); (case k3 => k_upd); (case z => (simp only [List.size_toArray, sizeLine_eq]; omega)); k_whole); intro h' F' N'; (try k_sweep)))
local macro_rules | `(tactic| walk_at "pyIter ref") => `(tactic| (k_here; fail "mine"))
theorem ne2 {a b it : Addr} {o1 o2 : Obj} (h1 : a ≠ it) (h2 : b ≠ it) : ∀ p ∈ [(a, o1), (b, o2)], p.1 ≠ it := by
  intro p hp
  rcases List.mem_cons.mp hp with rfl | hp
  · exact h1
  · rw [List.mem_singleton.mp hp]; exact h2
theorem fig_more {vs : List Value} {ns : List Int} {r : Int} (hI : IntsAre vs ns) (hl : ns.length < 20) (hr : ∀ a ∈ ns, 0 ≤ a ∧ a < 16) :
    (∀ t, IntsAre (vs ++ [.int (r.fmod 16) t]) (ns ++ [r.fmod 16])) ∧ (ns ++ [r.fmod 16]).length ≤ 20 ∧ ∀ a ∈ ns ++ [r.fmod 16], 0 ≤ a ∧ a < 16 := by
  refine ⟨fun _ => hI.append (.cons _ _ .nil), by simp; omega, fun a ha => ?_⟩
  rcases List.mem_append.mp ha with ha | ha
  · exact hr a ha
  · rw [List.mem_singleton.mp ha, Int.fmod_eq_emod_of_nonneg _ (by decide)]
    exact ⟨Int.emod_nonneg _ (by decide), Int.emod_lt_of_pos _ (by decide)⟩
set_option maxHeartbeats 8000000 in
set_option pp.maxSteps 3000 in
theorem figs_spec {w : World} {loose : List Str} {mean : ExcName → Option Value} {mg mb : Str → Option Value} {s : Shared} {a : Addr} {vs : List Value} {ns : List Int} {Q : Value → Shared → Prop} {E : Value → Shared → Prop}
    (X : (hd.heap_39 w.params).In s.heap) (T : Top topProg loose mean mg mb s.heap) (hp : 0 < s.toks) (hl : s.heap.IsList a vs.toArray) (hi : IntsAre vs ns) (hn : ns.length ≤ 63)
    (h : ∀ a vs ns n h' tk, Ext s.heap h' → s.heap.get? a = none → h'.get? a = some (listOf vs.toArray n) → IntsAre vs ns → ns.length ≤ 20 → (∀ a ∈ ns, 0 ≤ a ∧ a < 16) → Q (.ref a) { s with heap := h', toks := tk }) :
    wpAny (model PySem.Challenge.rw_ny0028_01.row.prog w) (Ar 800 4000) (call (.ref 111) [.ref a]) Q E s := by
  w_on
  refine wpAny_call ?_
  revert X; k_fill; intro X
  refine enter (binds := [(Str.ofString "script", .ref a)]) X T (by k_is) (by k_is) (by decide) (BindsTo.of_eq rfl) (locs rfl) ?_ rfl rfl rfl (by decide)
  intro L h₁ hL F N
  dsimp only
  k_steps
  rename_i l' hA l0 hB hpA tk htk D' ws' h' F' N' hI' hC' hL' l1
  refine for_list (h₀ := s.heap) (L := L) (fun i m news => ∃ vs n ns', news = [(D', listOf ws'.toArray 0), (l', listOf vs.toArray n)] ∧ IntsAre vs ns' ∧ ns'.length ≤ 20 ∧ (∀ a ∈ ns', 0 ≤ a ∧ a < 16) ∧ m (Str.ofString "figures") = some (.ref l')) rfl (by dsimp only; omega) (N'.isList (.head _)) F' N' ⟨[], 0, [], rfl, .nil, by simp, by simp, rfl⟩ go_name ?_ ?_
  · rintro i v m₁ news₁ h tk it itO hv ⟨vs, n, ns', rfl, hI, hlen, hr, hm⟩ htk hsz hit F N hne hl
    have F2 := fr_set F hm
    clear F
    obtain ⟨nx, tx, rfl, _⟩ := ints_at hI' hv
    have d1 := neN (hne _ (.head _))
    have d2 := neN (hne _ (.tail _ (.head _)))
    k_steps
    rename_i hX hpX tkX htkX uX tkY h2 F2 N2 hpY tk2 htk2
    have hr0 : 0 ≤ (if nx < 0 then -nx else nx).fmod (16 ^ Int.toNat 20) := by
      rw [Int.fmod_eq_emod_of_nonneg _ (by decide)]; exact Int.emod_nonneg _ (by decide)
    have hr1 : (if nx < 0 then -nx else nx).fmod (16 ^ Int.toNat 20) < 16 ^ 20 := by
      rw [Int.fmod_eq_emod_of_nonneg _ (by decide)]; exact Int.emod_lt_of_pos _ (by decide)
    generalize (if nx < 0 then -nx else nx).fmod (16 ^ Int.toNat 20) = r at F2 hr0 hr1
    refine while_N (h₀ := s.heap) (L := L) (fun k m news => ∃ vs n ns' r tr, news = [(it, itO), (D', listOf ws'.toArray 0), (l', listOf vs.toArray n)] ∧ IntsAre vs ns' ∧ ns'.length ≤ 20 ∧ (∀ a ∈ ns', 0 ≤ a ∧ a < 16) ∧ k = 20 - ns'.length ∧
      m (Str.ofString "figures") = some (.ref l') ∧ m (Str.ofString "rest") = some (.int r tr) ∧ 0 ≤ r ∧ r < 16 ^ 20) (by dsimp only; omega) F2 N2 (20 - ns'.length) ⟨vs, n, ns', r, _, rfl, hI, hlen, hr, rfl, rfl, rfl, hr0, hr1⟩ ?_
    rintro k m₃ news₃ h₃ tk₃ ⟨vs₃, n₃, ns₃, r₃, tr₃, rfl, hI₃, hlen₃, hr₃, rfl, hm₃, hm₃', hr30, hr31⟩ htk₃ F₃ N₃
    have F4 := fr_set (fr_set F₃ hm₃') (by exact hm₃ : (fun y => if y = Str.ofString "rest" then some (Value.int r₃ tr₃) else m₃ y) (Str.ofString "figures") = some (.ref l'))
    clear F₃
    have hv3 := hI₃.length
    k_steps
    all_goals (try dsimp only)
    · dsimp only [WhileEnd]
      intro _
      refine wpAny_execs_nil ?_
      rename News _ _ _ _ => N5
      have hm5 := fig_more (r := r₃) hI₃ (by omega) hr₃
      refine ⟨_, _, _, _, rfl, by assumption, N5, ne2 d1 d2, ⟨vs₃ ++ [_], n₃ + 1, _, by rw [List.push_toArray], hm5.1 _, hm5.2.1, hm5.2.2, rfl⟩, N5.isList (.tail _ (.head _))⟩
    · dsimp only [WhileEnd]
      rename News _ _ _ _ => N5
      have hm5 := fig_more (r := r₃) hI₃ (by omega) hr₃
      have hd5 : r₃.fdiv 16 = r₃ / 16 := Int.fdiv_eq_ediv_of_nonneg _ (by decide)
      exact ⟨_, _, _, _, 20 - (ns₃ ++ [r₃.fmod 16]).length, rfl, by simp; omega, by assumption, N5, ⟨vs₃ ++ [_], n₃ + 1, _, _, _, by rw [List.push_toArray], hm5.1 _, hm5.2.1, hm5.2.2, rfl, rfl, rfl, by rw [hd5]; omega, by rw [hd5]; omega⟩⟩
    · exact ⟨_, _, _, _, rfl, by assumption, by assumption, ne2 d1 d2, ⟨vs₃, n₃, ns₃, rfl, hI₃, hlen₃, hr₃, rfl⟩, News.isList (by assumption) (.tail _ (.head _))⟩
  · rintro m₁ news₁ hh tk htk ⟨vs, n, ns', rfl, hI, hlen, hr, hm⟩ F N
    have F2 := fr_set F hm
    clear F
    have hv3 := hI.length
    intro _
    dsimp only
    k_steps
    all_goals (try dsimp only)
    all_goals rename News _ _ _ _ => N5
    · exact h _ [_, _, _, _, _, _, _] _ _ _ _ (Fr.keep (by assumption)) (N5.fresh (.head _)) (N5.get (.head _)) (.cons _ _ (.cons _ _ (.cons _ _ (.cons _ _ (.cons _ _ (.cons _ _ (.cons _ _ .nil))))))) (by decide) (by decide)
    · exact h _ _ _ _ _ _ (Fr.keep (by assumption)) (N5.fresh (.tail _ (.tail _ (.head _)))) (N5.get (.tail _ (.tail _ (.head _)))) hI hlen hr
end Mine

end
section
open PySem PySem.W PyProof.Rows
set_option maxRecDepth 100000
namespace Mine
local macro_rules | `(tactic| walk_at "execs cons") => `(tactic| (k_here; (refine execs_T (by first | assumption | exact Nat.succ_pos _ | (dsimp only; omega)) ?_); intro tk htk; (try dsimp only)))
local macro_rules | `(tactic| walk_at "exec For") => `(tactic| (k_here; k_dflt (refine wpAny_For ?_)))
local macro_rules | `(tactic| walk_at "exec For Name Name cons nil") => `(tactic| (k_here; k_dflt (refine wpAny_For ?_)))
local macro_rules | `(tactic| walk_at "exec While") => `(tactic| (k_here; refine wpAny_While ?_))
local macro_rules | `(tactic| walk_at "pyIter ref") => `(tactic| (k_here; fail "mine"))
local macro_rules | `(tactic| walk_at "subscriptTail") => `(tactic| (k_here; (with_reducible show wpAny _ _ (subscriptTail _ _ (Value.ref _) (Value.int (-1) _)) _ _ _); k_dflt (refine' last_N ?k1 (refsLast (N' := True) ?k2) ?_ ?k7; (case k1 => k_asm); (case k2 => k_mem); (case k7 => with_unfolding_all rfl); k_whole)))
local macro_rules | `(tactic| walk_at "getItem ref int") => `(tactic| (k_here; k_dflt (refine' get_N ?k1 ?k2 ?k3 ?k4 ?k5 ?_; (case k1 => k_asm); (case k2 => k_mem); (case k3 => decide); (case k4 => decide); (case k5 => rfl); k_whole)))
local macro_rules | `(tactic| walk_at "inplaceOp Add str str") => `(tactic| (k_here; k_dflt (refine PyProof.Rows.iadd_str ?_ ?hsz); (case hsz => (simp only [S_len, item_len, sizeLine_eq]; omega)); intro tS tkS))
local macro_rules | `(tactic| walk_at "setItem ref int") => `(tactic| (k_here; k_dflt (refine' set_N ?k1 ?k2 ?k3 ?k4 ?k5 ?k6 ?_; (case k1 => k_asm); (case k2 => k_asm); (case k3 => k_upd); (case k4 => decide); (case k5 => decide); (case k6 => decide); k_whole); intro h' F' N'; (try k_sweep)))
local macro_rules | `(tactic| walk_at "call builtin:list.append") => `(tactic| (k_here; dsimp only [List.nil_append, List.cons_append]; k_dflt (refine' append_K ?k1 ?k2 ?k3 ?_ ?z; (case k1 => k_asm); (case k2 => k_asm); (case k3 => k_upd); (case z => (simp only [List.size_toArray, List.length_map, List.length_append, List.length_singleton, sizeLine_eq]; omega)); k_whole); intro h' F' N'; (try k_sweep)))
local macro_rules | `(tactic| k_all) => `(tactic| assumption)
theorem item_len (x : Str) (i : Int) : (Txt.item x i).length = 1 := rfl
abbrev pairO (k : Int) (t : Tok) (x : List Nat) (u : Tok) (n : Nat) : Obj := listOf #[.int k t, .str (S x) u] n
abbrev refsO (as : List Addr) (n : Nat) : Obj := listOf (as.map Value.ref).toArray n
inductive All2 {α β : Type} (R : α → β → Prop) : List α → List β → Prop
  | nil : All2 R [] []
  | cons {a b as bs} : R a b → All2 R as bs → All2 R (a :: as) (b :: bs)
theorem All2.mono {α β : Type} {R R' : α → β → Prop} (h : ∀ a b, R a b → R' a b) {as : List α} {bs : List β} (x : All2 R as bs) : All2 R' as bs := by
  induction x with
  | nil => exact .nil
  | cons r _ ih => exact .cons (h _ _ r) ih
theorem All2.snoc {α β : Type} {R : α → β → Prop} {a : α} {b : β} {as : List α} {bs : List β} (x : All2 R as bs) (r : R a b) : All2 R (as ++ [a]) (bs ++ [b]) := by
  induction x with
  | nil => exact .cons r .nil
  | cons r' _ ih => exact .cons r' ih
theorem All2.length {α β : Type} {R : α → β → Prop} {as : List α} {bs : List β} (x : All2 R as bs) : as.length = bs.length := by
  induction x with
  | nil => rfl
  | cons _ _ ih => simp [ih]
def PairIn (G : Addr → Obj → Prop) (a : Addr) (p : Nat × List Nat) : Prop := ∃ t u n, G a (pairO p.1 t p.2 u n)
def MsgIn (G : Addr → Obj → Prop) (a : Addr) (ws : List (Nat × List Nat)) : Prop := ∃ as n, G a (refsO as n) ∧ All2 (PairIn G) as ws
def MsgsIn (G : Addr → Obj → Prop) (a : Addr) (ms : List (List (Nat × List Nat))) : Prop := ∃ bs n, G a (refsO bs n) ∧ All2 (MsgIn G) bs ms
theorem PairIn.mono {G G' : Addr → Obj → Prop} (h : ∀ a o, G a o → G' a o) {a : Addr} {p : Nat × List Nat} (x : PairIn G a p) : PairIn G' a p := let ⟨t, u, n, e⟩ := x; ⟨t, u, n, h _ _ e⟩
theorem MsgIn.mono {G G' : Addr → Obj → Prop} (h : ∀ a o, G a o → G' a o) {a : Addr} {p : List (Nat × List Nat)} (x : MsgIn G a p) : MsgIn G' a p := let ⟨as, n, e, y⟩ := x; ⟨as, n, h _ _ e, y.mono fun _ _ => PairIn.mono h⟩
theorem MsgsIn.mono {G G' : Addr → Obj → Prop} (h : ∀ a o, G a o → G' a o) {a : Addr} {p : List (List (Nat × List Nat))} (x : MsgsIn G a p) : MsgsIn G' a p := let ⟨as, n, e, y⟩ := x; ⟨as, n, h _ _ e, y.mono fun _ _ => MsgIn.mono h⟩
def signsL : List Nat := [46, 10, 13, 92, 34, 32, 110, 46, 9, 12]
def wsz (ws : List (Nat × List Nat)) : Nat := (ws.map fun p => 1 + p.2.length).sum
def msz (ms : List (List (Nat × List Nat))) : Nat := (ms.map fun ws => 1 + wsz ws).sum
def OkWord (p : Nat × List Nat) : Prop := p.1 ≤ 2 ∧ ∀ c ∈ p.2, c ∈ signsL
def OkMsgs (ms : List (List (Nat × List Nat))) : Prop := ∀ ws ∈ ms, ws ≠ [] ∧ ∀ p ∈ ws, OkWord p
theorem wsz_len (ws : List (Nat × List Nat)) : ws.length ≤ wsz ws := by
  induction ws with
  | nil => simp
  | cons p r ih => simp only [wsz, List.map_cons, List.sum_cons, List.length_cons] at *; omega
theorem msz_ge (ms : List (List (Nat × List Nat))) : ms.length ≤ msz ms := by
  induction ms with
  | nil => simp
  | cons p r ih => simp only [msz, List.map_cons, List.sum_cons, List.length_cons] at *; omega
theorem msz_snoc (ms : List (List (Nat × List Nat))) (ws : List (Nat × List Nat)) : msz (ms ++ [ws]) = msz ms + (1 + wsz ws) := by simp [msz]
theorem wsz_snoc (ws : List (Nat × List Nat)) (p : Nat × List Nat) : wsz (ws ++ [p]) = wsz ws + (1 + p.2.length) := by simp [wsz]
theorem msz_len (ms : List (List (Nat × List Nat))) (ws : List (Nat × List Nat)) (k : Nat) (wd : List Nat) : ms.length + ws.length + wd.length + 2 ≤ msz (ms ++ [ws ++ [(k, wd)]]) := by
  have h1 := msz_ge ms
  have h2 := wsz_len ws
  rw [msz_snoc, wsz_snoc]
  show _ ≤ msz ms + (1 + (wsz ws + (1 + wd.length)))
  omega
theorem allLt_mem {d : Addr} {l : List (Addr × Obj)} (h : AllLt d l) : ∀ p ∈ l, p.1 ≠ d := by
  induction l with
  | nil => intro p hp; cases hp
  | cons q r ih =>
    intro p hp
    rcases List.mem_cons.mp hp with rfl | hp
    · exact Nat.ne_of_lt h.1
    · exact ih h.2 p hp
theorem item_is {nx : Int} (h0 : 0 ≤ nx) (h1 : nx < 10) : ∃ c ∈ signsL, ∀ wd, S wd ++ Txt.item (Str.ofString ".\n\x0d\\\" n.\t\x0c") nx = S (wd ++ [c]) := by
  have key : ∃ c ∈ signsL, Txt.item (Str.ofString ".\n\x0d\\\" n.\t\x0c") nx = S [c] := by
    have : nx = 0 ∨ nx = 1 ∨ nx = 2 ∨ nx = 3 ∨ nx = 4 ∨ nx = 5 ∨ nx = 6 ∨ nx = 7 ∨ nx = 8 ∨ nx = 9 := by omega
    rcases this with rfl | rfl | rfl | rfl | rfl | rfl | rfl | rfl | rfl | rfl
    · exact ⟨46, by decide, by decide +kernel⟩
    · exact ⟨10, by decide, by decide +kernel⟩
    · exact ⟨13, by decide, by decide +kernel⟩
    · exact ⟨92, by decide, by decide +kernel⟩
    · exact ⟨34, by decide, by decide +kernel⟩
    · exact ⟨32, by decide, by decide +kernel⟩
    · exact ⟨110, by decide, by decide +kernel⟩
    · exact ⟨46, by decide, by decide +kernel⟩
    · exact ⟨9, by decide, by decide +kernel⟩
    · exact ⟨12, by decide, by decide +kernel⟩
  obtain ⟨c, hc, e⟩ := key
  exact ⟨c, hc, fun wd => by rw [e, S_app]⟩
theorem ok_snoc {ms : List (List (Nat × List Nat))} {ws : List (Nat × List Nat)} : OkMsgs (ms ++ [ws]) ↔ OkMsgs ms ∧ ws ≠ [] ∧ ∀ p ∈ ws, OkWord p := by
  unfold OkMsgs
  constructor
  · intro h
    exact ⟨fun x hx => h x (by simp [hx]), h ws (by simp)⟩
  · rintro ⟨h1, h2⟩ x hx
    rcases List.mem_append.mp hx with hx | hx
    · exact h1 x hx
    · rw [List.mem_singleton.mp hx]; exact h2
theorem ok_word {ms : List (List (Nat × List Nat))} {ws : List (Nat × List Nat)} {k c : Nat} {wd : List Nat} (h : OkMsgs (ms ++ [ws ++ [(k, wd)]])) (hc : c ∈ signsL) : OkMsgs (ms ++ [ws ++ [(k, wd ++ [c])]]) := by
  rw [ok_snoc] at h ⊢
  refine ⟨h.1, by simp, fun p hp => ?_⟩
  rcases List.mem_append.mp hp with hp | hp
  · exact h.2.2 p (by simp [hp])
  · rw [List.mem_singleton.mp hp]
    have h3 := h.2.2 (k, wd) (by simp)
    refine ⟨h3.1, fun d hd => ?_⟩
    rcases List.mem_append.mp hd with hd | hd
    · exact h3.2 d hd
    · rw [List.mem_singleton.mp hd]; exact hc
theorem ok_next {ms : List (List (Nat × List Nat))} {ws : List (Nat × List Nat)} {k j : Nat} {wd : List Nat} (h : OkMsgs (ms ++ [ws ++ [(k, wd)]])) (hj : j ≤ 2) : OkMsgs (ms ++ [(ws ++ [(k, wd)]) ++ [(j, [])]]) := by
  rw [ok_snoc] at h ⊢
  refine ⟨h.1, by simp, fun p hp => ?_⟩
  rcases List.mem_append.mp hp with hp | hp
  · exact h.2.2 p hp
  · rw [List.mem_singleton.mp hp]
    exact ⟨hj, fun d hd => by cases hd⟩
theorem ok_new {ms : List (List (Nat × List Nat))} {j : Nat} (h : OkMsgs ms) (hj : j ≤ 2) : OkMsgs (ms ++ [[] ++ [(j, [])]]) := by
  rw [ok_snoc]
  refine ⟨h, by simp, fun p hp => ?_⟩
  rw [List.mem_singleton.mp hp]
  exact ⟨hj, fun d hd => by cases hd⟩
theorem hne2 {a b c it : Addr} {o1 o2 o3 o1' o2' o3' : Obj} {fz : List (Addr × Obj)} (h : ∀ p ∈ (a, o1) :: (b, o2) :: (c, o3) :: fz, p.1 ≠ it) : ∀ p ∈ (a, o1') :: (b, o2') :: (c, o3') :: fz, p.1 ≠ it := by
  intro p hp
  rcases List.mem_cons.mp hp with rfl | hp
  · exact h (a, o1) (.head _)
  rcases List.mem_cons.mp hp with rfl | hp
  · exact h (b, o2) (.tail _ (.head _))
  rcases List.mem_cons.mp hp with rfl | hp
  · exact h (c, o3) (.tail _ (.tail _ (.head _)))
  · exact h _ (.tail _ (.tail _ (.tail _ hp)))
theorem newsSub {h₀ h : Heap} {L : Addr} {news news' : List (Addr × Obj)} (N : News h₀ L h news') (hs : ∀ p ∈ news, p ∈ news') : News h₀ L h news := fun p hp => N p (hs p hp)
theorem rotC {h₀ h : Heap} {L : Addr} {x i t m : Addr × Obj} {r : List (Addr × Obj)} (N : News h₀ L h (x :: i :: t :: m :: r)) : News h₀ L h (i :: t :: m :: x :: r) :=
  newsSub N (by simp only [List.mem_cons]; intro p hp; rcases hp with h | h | h | h | h <;> simp [h])
theorem rotD {h₀ h : Heap} {L : Addr} {y x i t m q : Addr × Obj} {r : List (Addr × Obj)} (N : News h₀ L h (y :: x :: i :: t :: m :: q :: r)) : News h₀ L h (i :: t :: y :: x :: m :: q :: r) :=
  newsSub N (by simp only [List.mem_cons]; intro p hp; rcases hp with h | h | h | h | h | h | h <;> simp [h])
theorem refsPush (as : List Addr) (a : Addr) (n : Nat) : listOf ((as.map Value.ref).toArray.push (.ref a)) n = refsO (as ++ [a]) n := by
  simp [refsO, List.push_toArray]
theorem consNe {a d : Addr} {o : Obj} {l : List (Addr × Obj)} (h : a ≠ d) (k : ∀ p ∈ l, p.1 ≠ d) : ∀ p ∈ (a, o) :: l, p.1 ≠ d := by
  intro p hp
  rcases List.mem_cons.mp hp with rfl | hp
  · exact h
  · exact k p hp
/-- the state between the turns -/
def MsgJ (h₀ : Heap) (ta : Addr) (ts : Tok) (i : Nat) (m : Str → Option Value) (news : List (Addr × Obj)) : Prop :=
  ∃ bs tn ma as mn pa k tk wd tw pn fz ms ws, news = (ta, refsO (bs ++ [ma]) tn) :: (ma, refsO (as ++ [pa]) mn) :: (pa, pairO (k : Nat) tk wd tw pn) :: fz ∧
    All2 (PairIn fun a o => (a, o) ∈ fz) as ws ∧ All2 (MsgIn fun a o => (a, o) ∈ fz) bs ms ∧ @Ne Nat ta ma ∧ @Ne Nat ta pa ∧ @Ne Nat ma pa ∧ (∀ p ∈ fz, p.1 ≠ ta) ∧ (∀ p ∈ fz, p.1 ≠ ma) ∧ (∀ p ∈ fz, p.1 ≠ pa) ∧
    OkMsgs (ms ++ [ws ++ [(k, wd)]]) ∧ msz (ms ++ [ws ++ [(k, wd)]]) ≤ 2 + 2 * i ∧ m (Str.ofString "messages") = some (.ref ta) ∧ m (Str.ofString "signs") = some (.str (Str.ofString ".\n\x0d\\\" n.\t\x0c") ts)
set_option maxHeartbeats 8000000 in
set_option pp.maxSteps 3000 in
theorem msgs_spec {w : World} {loose : List Str} {mean : ExcName → Option Value} {mg mb : Str → Option Value} {s : Shared} {a : Addr} {vs : List Value} {ns : List Int} {Q : Value → Shared → Prop} {E : Value → Shared → Prop}
    (X : (hd.heap_39 w.params).In s.heap) (T : Top topProg loose mean mg mb s.heap) (hp : 0 < s.toks) (hl : s.heap.IsList a vs.toArray) (hi : IntsAre vs ns) (hn : ns.length ≤ 20) (hr : ∀ a ∈ ns, 0 ≤ a ∧ a < 16)
    (h : ∀ (a : Addr) (fz : List (Addr × Obj)) ms h' tk, Ext s.heap h' → (∀ p ∈ fz, h'.get? p.1 = some p.2 ∧ s.heap.get? p.1 = none) → MsgsIn (fun b o => (b, o) ∈ fz) a ms → OkMsgs ms → msz ms ≤ 42 → ms ≠ [] → Q (.ref a) { s with heap := h', toks := tk }) :
    wpAny (model PySem.Challenge.rw_ny0028_01.row.prog w) (Ar 800 4000) (call (.ref 118) [.ref a]) Q E s := by
  w_on
  refine wpAny_call ?_
  revert X; k_fill; intro X
  refine enter (binds := [(Str.ofString "figures", .ref a)]) X T (by k_is) (by k_is) (by decide) (BindsTo.of_eq rfl) (locs rfl) ?_ rfl rfl rfl (by decide)
  intro L h₁ hL F N
  dsimp only
  k_steps
  rename_i tk1 htk1 hA hpA tk2 htk2 pa hB l0 ma hC l1 ta hD l2 hE F' N' hpB tk3 htk3
  refine for_list (h₀ := s.heap) (L := L) (MsgJ s.heap ta tk1) rfl (by first | assumption | exact Nat.succ_pos _ | omega | (dsimp only; omega)) (hl.at fun o e => F'.keep _ _ e) F' N' ⟨[], 0, ma, [], 0, pa, 0, tk2, [], tk2 + 1, 0, [], [], [], by rw [show Str.ofString "" = S [] from by decide +kernel]; rfl, .nil, .nil, neN (Nat.ne_of_gt l2.1), neN (Nat.ne_of_gt l2.2), neN (Nat.ne_of_gt l1), by simp, by simp, by simp, by simp [OkMsgs, OkWord], by simp [msz, wsz], rfl, rfl⟩ go_name ?_ ?_
  · rintro i v m₁ news₁ hq tk it itO hv ⟨bs, tn, ma, as, mn, pa, k, tkk, wd, tw, pn, fz, ms, ws, rfl, hA1, hA2, n1, n2, n3, f1, f2, f3, hok, hms, hm1, hm2⟩ htk hsz hit F N hne hl
    have F2 := fr_set (fr_set F hm2) (by exact hm1 : (fun y => if y = Str.ofString "signs" then _ else m₁ y) (Str.ofString "messages") = some (.ref ta))
    clear F
    obtain ⟨nx, tx, rfl, hnx⟩ := ints_at hi hv
    have d1 := neN (hne _ (.head _))
    have d2 := neN (hne _ (.tail _ (.head _)))
    have d3 := neN (hne _ (.tail _ (.tail _ (.head _))))
    have d4 : ∀ p ∈ fz, p.1 ≠ it := fun p hp => hne _ (.tail _ (.tail _ (.tail _ hp)))
    have hb := hr _ hnx
    have hl0 := ‹s.heap.IsList a vs.toArray›
    have z1 := hA1.length
    have z2 := hA2.length
    have z3 := msz_len ms ws k wd
    have z4 : i < 20 := by
      have := (Array.getElem?_eq_some_iff.mp hv).1
      have := hi.length
      simp only [List.size_toArray] at *
      omega
    k_steps
    · rename (_ ∨ _) => hx
      rw [show (Str.ofString ".\n\x0d\\\" n.\t\x0c").length = 10 from by decide +kernel] at hx
      omega
    · (k_here; k_dflt (refine PyProof.Rows.iadd_str ?_ ?hsz); (case hsz => (simp only [S_len, item_len, sizeLine_eq]; omega)); intro tS tkS)
      k_steps
      rename News _ _ _ _ => N5
      rename Fr _ _ _ _ => F5
      obtain ⟨c, hc, ec⟩ := item_is hb.1 (by assumption)
      rw [ec wd] at N5
      refine ⟨_, _, _, _, rfl, F5, N5, hne2 hne, ⟨bs, tn, ma, as, mn, pa, k, _, wd ++ [c], _, pn, fz, ms, ws, rfl, hA1, hA2, n1, n2, n3, f1, f2, f3, ok_word hok hc, ?_, rfl, rfl⟩, hl0.at fun o e => F5.keep _ _ e⟩
      simp only [msz_snoc, wsz_snoc, List.length_append, List.length_singleton] at hms ⊢
      omega
    · rename_i l' hX l1 hY F5 N5 p1 p2 p3
      have e2 : nx - 10 = ((nx - 10).toNat : Nat) := by omega
      rw [e2, refsPush, show Str.ofString "" = S [] from by decide +kernel] at N5
      refine ⟨_, _, _, _, rfl, F5, rotC N5, ?_, ⟨bs, tn, ma, as ++ [pa], mn + 1, l', (nx - 10).toNat, _, [], _, 0, (pa, pairO k tkk wd tw pn) :: fz, ms, ws ++ [(k, wd)], rfl, (hA1.mono fun _ _ => PairIn.mono fun _ _ e => .tail _ e).snoc ⟨_, _, _, .head _⟩,
        hA2.mono (fun _ _ => MsgIn.mono fun _ _ e => .tail _ e), n1, ?_, ?_, ?_, ?_, ?_, ok_next hok (by omega), ?_, rfl, rfl⟩, hl0.at fun o e => F5.keep _ _ e⟩
      · intro p hp
        simp only [List.mem_cons] at hp
        rcases hp with rfl | rfl | rfl | rfl | hp
        · exact d1
        · exact d2
        · exact Nat.ne_of_gt l1.1
        · exact d3
        · exact d4 p hp
      · exact Nat.ne_of_lt l1.2.1
      · exact Nat.ne_of_lt l1.2.2.1
      · exact consNe (Ne.symm n2) f1
      · exact consNe (Ne.symm n3) f2
      · exact consNe (Nat.ne_of_lt l1.2.2.2.1) (allLt_mem l1.2.2.2.2)
      · simp only [msz_snoc, wsz_snoc, List.length_nil] at hms ⊢
        omega
    · rename_i lp hX l1 lm hY l2 hZ F5 N5 p1 p2 p3
      have e2 : nx - 13 = ((nx - 13).toNat : Nat) := by omega
      rw [e2, refsPush, show Str.ofString "" = S [] from by decide +kernel] at N5
      refine ⟨_, _, _, _, rfl, F5, rotD N5, ?_, ⟨bs ++ [ma], tn + 1, lm, [], 0, lp, (nx - 13).toNat, _, [], _, 0, (ma, refsO (as ++ [pa]) mn) :: (pa, pairO k tkk wd tw pn) :: fz, ms ++ [ws ++ [(k, wd)]], [], rfl, .nil,
        (hA2.mono fun _ _ => MsgIn.mono fun _ _ e => .tail _ (.tail _ e)).snoc ⟨as ++ [pa], mn, .head _, (hA1.mono fun _ _ => PairIn.mono fun _ _ e => .tail _ (.tail _ e)).snoc ⟨_, _, _, .tail _ (.head _)⟩⟩, ?_, ?_, ?_, ?_, ?_, ?_, ok_new hok (by omega), ?_, rfl, rfl⟩, hl0.at fun o e => F5.keep _ _ e⟩
      · intro p hp
        simp only [List.mem_cons] at hp
        rcases hp with rfl | rfl | rfl | rfl | rfl | hp
        · exact d1
        · exact Nat.ne_of_gt l2.2.1
        · exact Nat.ne_of_gt l1.1
        · exact d2
        · exact d3
        · exact d4 p hp
      · exact Nat.ne_of_lt l2.2.2.1
      · exact Nat.ne_of_lt l1.2.1
      · exact Nat.ne_of_gt l2.1
      · exact consNe (Ne.symm n1) (consNe (Ne.symm n2) f1)
      · exact consNe (Nat.ne_of_lt l2.2.2.2.1) (consNe (Nat.ne_of_lt l2.2.2.2.2.1) (allLt_mem l2.2.2.2.2.2))
      · exact consNe (Nat.ne_of_lt l1.2.2.1) (consNe (Nat.ne_of_lt l1.2.2.2.1) (allLt_mem l1.2.2.2.2))
      · simp only [msz_snoc, wsz_snoc, wsz, List.map_nil, List.nil_append, List.map_cons, List.sum_cons, List.sum_nil, List.length_nil] at hms ⊢
        omega
  · rintro m₁ news₁ hq tk htk ⟨bs, tn, ma, as, mn, pa, k, tkk, wd, tw, pn, fz, ms, ws, rfl, hA1, hA2, n1, n2, n3, f1, f2, f3, hok, hms, hm1, hm2⟩ F N
    have F2 := fr_set F hm1
    clear F
    intro _
    dsimp only
    k_steps
    all_goals (try dsimp only)
    rename News _ _ _ _ => N5
    rename Fr _ _ _ _ => F5
    have hv2 := hi.length
    refine h _ _ _ _ _ F5.keep (fun p hp => ⟨(N5 p hp).1, (N5 p hp).2.2⟩) ⟨bs ++ [ma], tn, .head _, (hA2.mono fun _ _ => MsgIn.mono fun _ _ e => .tail _ (.tail _ (.tail _ e))).snoc ⟨as ++ [pa], mn, .tail _ (.head _), (hA1.mono fun _ _ => PairIn.mono fun _ _ e => .tail _ (.tail _ (.tail _ e))).snoc ⟨_, _, _, .tail _ (.tail _ (.head _))⟩⟩⟩ hok ?_ (by simp)
    simp only [List.size_toArray] at hms
    omega
end Mine

end
section
open PySem PySem.W PyProof.Rows
set_option maxRecDepth 100000
namespace Mine
local macro_rules | `(tactic| walk_at "execs cons") => `(tactic| (k_here; (refine execs_T (by first | assumption | exact Nat.succ_pos _ | (dsimp only; omega)) ?_); intro tk htk; (try dsimp only)))
local macro_rules | `(tactic| walk_at "exec For") => `(tactic| (k_here; k_dflt (refine wpAny_For ?_)))
local macro_rules | `(tactic| walk_at "exec For Name Name cons nil") => `(tactic| (k_here; k_dflt (refine wpAny_For ?_)))
local macro_rules | `(tactic| walk_at "exec For Tuple Name cons nil") => `(tactic| (k_here; k_dflt (refine wpAny_For ?_)))
local macro_rules | `(tactic| walk_at "exec While") => `(tactic| (k_here; refine wpAny_While ?_))
local macro_rules | `(tactic| walk_at "pyIter ref") => `(tactic| (k_here; fail "mine"))
local macro_rules | `(tactic| walk_at "pyIter str") => `(tactic| (k_here; fail "mine"))
local macro_rules | `(tactic| k_all) => `(tactic| assumption)
local macro_rules | `(tactic| walk_at "call ref") => `(tactic| (k_here; (try dsimp only [List.nil_append, List.cons_append]); k_dflt (refine' rows_N ?k1 ?k2 ?k3 ?k4 ?k5 ?k6 ?a1 ?a2 ?a3 ?_; (case k1 => k_asm); (case k2 => k_asm); (case k3 => k_asm); (case k4 => k_asm); (case k5 => first | assumption | exact Nat.succ_pos _ | (dsimp only; omega)); (case k6 => omega); (case a1 => rfl); (case a2 => exact Nat.le_of_ble_eq_true rfl); (case a3 => exact Nat.le_of_ble_eq_true rfl)); intro ra rl rh rtk rhtk rF rN rl1 rE rE2; (try k_lt rl1); (try k_sweep)))
local macro_rules | `(tactic| walk_at "call builtin:str.replace") => `(tactic| (k_here; dsimp only [List.nil_append, List.cons_append]; (refine toks_T (by first | assumption | exact Nat.succ_pos _ | (dsimp only; omega)) ?_); (refine SC.replaceW (by show @Ne Nat _ _; omega) (by show @Ne Nat _ _; omega) (by show @Ne Nat _ _; omega) (by decide) (by omega) (by decide) ?_); intro tS tk htk; dsimp only at htk))
local macro_rules | `(tactic| walk_at "call builtin:len") => `(tactic| (k_here; (with_reducible show wpAny _ _ (call (Value.builtin "len") [Value.ref _]) _ _ _); k_dflt (refine' len_list (News.isList ?N ?m) ?fit ?_; (case N => k_asm); (case m => k_mem); (case fit => (simp only [List.size_toArray, strValues, List.length_map]; omega)); k_whole)))
/-- how a word is written -/
def escQ (x : List Nat) : List Nat := x.flatMap fun c => if c = 92 ∨ c = 34 then [92, c] else [c]
def escP (x : List Nat) : List Nat := x.flatMap fun c => if c = 34 ∨ c = 92 ∨ c = 32 ∨ c = 9 then [92, c] else [c]
def tailOf (k : Nat) : List Nat := if k = 0 then [32] else if k = 1 then [] else [13]
def quoted (p : Nat × List Nat) : Bool := p.1 == 1 || p.2 == [] || decide (1 < (rowsL p.2).length)
def writeW (p : Nat × List Nat) : List Nat := (if quoted p then [34] ++ escQ p.2 ++ [34] else escP p.2) ++ tailOf p.1
def written (ws : List (Nat × List Nat)) : List Nat := ws.flatMap writeW
theorem All2.at {α β : Type} {R : α → β → Prop} {as : List α} {bs : List β} (x : All2 R as bs) : ∀ {i : Nat} {a : α}, as[i]? = some a → ∃ b, bs[i]? = some b ∧ R a b := by
  induction x with
  | nil => intro i a h; simp at h
  | cons r _ ih =>
    intro i a h
    cases i with
    | zero => simp at h; subst h; exact ⟨_, rfl, r⟩
    | succ i => simp at h; exact ih h
theorem wsz_mem {ws : List (Nat × List Nat)} {p : Nat × List Nat} (h : p ∈ ws) : 1 + p.2.length ≤ wsz ws := by
  induction ws with
  | nil => cases h
  | cons q r ih =>
    simp only [wsz, List.map_cons, List.sum_cons] at *
    rcases List.mem_cons.mp h with rfl | h
    · omega
    · have := ih h; omega
theorem flat_le (f : Nat → List Nat) (c : Nat) (hf : ∀ k, (f k).length ≤ c) (x : List Nat) : (x.flatMap f).length ≤ c * x.length := by
  induction x with
  | nil => simp
  | cons k r ih =>
    have := hf k
    simp only [List.flatMap_cons, List.length_append, List.length_cons, Nat.mul_add] at *
    omega
theorem escQ_le (x : List Nat) : (escQ x).length ≤ 2 * x.length := flat_le _ 2 (fun k => by split <;> simp) x
theorem escP_le (x : List Nat) : (escP x).length ≤ 2 * x.length := flat_le _ 2 (fun k => by split <;> simp) x
theorem writeW_le (p : Nat × List Nat) : (writeW p).length ≤ 3 * (1 + p.2.length) := by
  have h1 := escQ_le p.2
  have h2 := escP_le p.2
  have h3 : (tailOf p.1).length ≤ 1 := by unfold tailOf; split; simp; split <;> simp
  unfold writeW
  split <;> simp only [List.length_append, List.length_singleton] <;> omega
theorem written_le (ws : List (Nat × List Nat)) : (written ws).length ≤ 3 * wsz ws := by
  induction ws with
  | nil => simp [written]
  | cons p r ih =>
    have := writeW_le p
    simp only [written, wsz, List.flatMap_cons, List.length_append, List.map_cons, List.sum_cons] at *
    omega
theorem wsz_take (ws : List (Nat × List Nat)) : ∀ i, wsz (ws.take i) ≤ wsz ws := by
  induction ws with
  | nil => intro i; simp
  | cons p r ih =>
    intro i
    cases i with
    | zero => simp [wsz]
    | succ i =>
      have := ih i
      simp only [wsz, List.take_succ_cons, List.map_cons, List.sum_cons] at *
      omega
theorem esc_is (x : List Nat) : Txt.replace (Txt.replace (S x) (Str.ofString "\\") (Str.ofString "\\\\")) (Str.ofString "\"") (Str.ofString "\\\"") = S (escQ x) := by
  rw [show Str.ofString "\\" = ⟨#[92]⟩ from by decide +kernel, show Str.ofString "\\\\" = S [92, 92] from by decide +kernel, show Str.ofString "\"" = ⟨#[34]⟩ from by decide +kernel, show Str.ofString "\\\"" = S [92, 34] from by decide +kernel,
    replace_one, replace_one]
  refine congrArg S ?_
  unfold escQ
  induction x with
  | nil => rfl
  | cons c r ih =>
    simp only [List.flatMap_cons, List.flatMap_append, ih]
    refine congrArg (· ++ _) ?_
    by_cases h1 : c = 92
    · subst h1; decide
    · by_cases h2 : c = 34
      · subst h2; decide
      · simp [h1, h2]
theorem written_snoc {ws : List (Nat × List Nat)} {i : Nat} {p : Nat × List Nat} (h : ws[i]? = some p) : written (ws.take (i + 1)) = written (ws.take i) ++ writeW p := by
  rw [List.take_add_one, h]
  simp [written]
theorem ex_str {o : Option Value} {X X' : Str} {t : Tok} (h : o = some (.str X t)) (e : X = X') : ∃ t, o = some (.str X' t) := ⟨t, by rw [h, e]⟩
theorem end_q {ws : List (Nat × List Nat)} {i k : Nat} {x : List Nat} {T : Str} (hw : ws[i]? = some (k, x)) (hq : quoted (k, x) = true) (hT : T = S (tailOf k)) :
    S (written (ws.take i)) ++ (Str.ofString "\"" ++ Txt.replace (Txt.replace (S x) (Str.ofString "\\") (Str.ofString "\\\\")) (Str.ofString "\"") (Str.ofString "\\\"") ++ Str.ofString "\"") ++ T = S (written (ws.take (i + 1))) := by
  rw [hT, esc_is, show Str.ofString "\"" = S [34] from by decide +kernel, written_snoc hw]
  simp only [S_app, writeW, hq, if_true, List.append_assoc]
theorem q1 {k : Nat} {x : List Nat} (h : k = 1) : quoted (k, x) = true := by simp [quoted, h]
theorem q2 {k : Nat} {x : List Nat} (h : (S x == Str.ofString "") = true) : quoted (k, x) = true := by
  rw [show Str.ofString "" = S [] from by decide +kernel] at h
  have := S_inj (eq_of_beq h)
  simp [quoted, this]
theorem q3 {k : Nat} {x : List Nat} {rl : List (Str × Tok)} (e : rl.length = (rowsL x).length) (h : (1 : Int) < ((strValues rl).toArray.size : Nat)) : quoted (k, x) = true := by
  have : 1 < (rowsL x).length := by simp [strValues] at h; omega
  simp [quoted, this]
theorem q4 {k : Nat} {x : List Nat} {rl : List (Str × Tok)} (e : rl.length = (rowsL x).length) (h1 : ¬ (1 : Int) < ((strValues rl).toArray.size : Nat)) (h2 : (k : Int) ≠ 1) (h3 : (S x == Str.ofString "") = false) : quoted (k, x) = false := by
  have a1 : ¬ 1 < (rowsL x).length := by simp [strValues] at h1; omega
  have a2 : k ≠ 1 := by omega
  have a3 : x ≠ [] := by
    rintro rfl
    rw [show Str.ofString "" = S [] from by decide +kernel] at h3
    simp at h3
  simp [quoted, a1, a2, a3]
theorem signs_ascii {x : List Nat} (h : ∀ c ∈ x, c ∈ signsL) : (S x).cps.all (· < 128) = true := by
  simp only [List.all_toArray, List.all_eq_true, decide_eq_true_eq]
  intro c hc
  have := h c hc
  simp [signsL] at this
  omega
theorem escP_snoc {x : List Nat} {j c : Nat} (h : x[j]? = some c) : escP (x.take (j + 1)) = escP (x.take j) ++ (if c = 34 ∨ c = 92 ∨ c = 32 ∨ c = 9 then [92, c] else [c]) := by
  rw [List.take_add_one, h]
  simp [escP]
theorem cont_is {c : Nat} (h : c ∈ signsL) : (Builtin.Str.occurrences (Str.ofString "\"\\ \t") ⟨#[c]⟩ 0 (Str.ofString "\"\\ \t").length 1).isEmpty = !decide (c = 34 ∨ c = 92 ∨ c = 32 ∨ c = 9) := by
  have : ∀ c ∈ signsL, (Builtin.Str.occurrences (Str.ofString "\"\\ \t") ⟨#[c]⟩ 0 (Str.ofString "\"\\ \t").length 1).isEmpty = !decide (c = 34 ∨ c = 92 ∨ c = 32 ∨ c = 9) := by decide +kernel
  exact this c h
theorem end_p {ws : List (Nat × List Nat)} {i k n : Nat} {x : List Nat} {T : Str} (hw : ws[i]? = some (k, x)) (hq : quoted (k, x) = false) (hn : n = x.length) (hT : T = S (tailOf k)) :
    S (written (ws.take i) ++ escP (x.take n)) ++ T = S (written (ws.take (i + 1))) := by
  rw [hT, written_snoc hw, hn, List.take_length]
  simp only [S_app, writeW, hq, Bool.false_eq_true, if_false, List.append_assoc]
def bodyW (p : Nat × List Nat) : List Nat := if quoted p then [34] ++ escQ p.2 ++ [34] else escP p.2
/-- behind the choice of quotes -/
def WritMid (h₀ : Heap) (L : Addr) (s : Shared) (it : Addr) (itO : Obj) (y : List Nat) (k : Nat) (t : Tok) (f : Flow) (s' : Shared) : Prop :=
  f = .next ∧ ∃ h' tk' m' tt, s' = { s with heap := h', toks := tk' } ∧ Fr h₀ L h' m' ∧ News h₀ L h' [(it, itO)] ∧ ∀ z ∈ [(Str.ofString "text", Value.str (S y) tt), (Str.ofString "manner", Value.int (k : Nat) t)], m' z.1 = some z.2
theorem mid_q {y : List Nat} {k : Nat} {x : List Nat} (hq : quoted (k, x) = true) :
    S y ++ (Str.ofString "\"" ++ Txt.replace (Txt.replace (S x) (Str.ofString "\\") (Str.ofString "\\\\")) (Str.ofString "\"") (Str.ofString "\\\"") ++ Str.ofString "\"") = S (y ++ bodyW (k, x)) := by
  rw [esc_is, show Str.ofString "\"" = S [34] from by decide +kernel]
  simp only [S_app, bodyW, hq, if_true, List.append_assoc]
theorem end_w {ws : List (Nat × List Nat)} {i k : Nat} {x : List Nat} {T : Str} (hw : ws[i]? = some (k, x)) (hT : T = S (tailOf k)) : S (written (ws.take i) ++ bodyW (k, x)) ++ T = S (written (ws.take (i + 1))) := by
  rw [hT, written_snoc hw]
  simp only [S_app, writeW, bodyW, List.append_assoc]
theorem bodyW_le (p : Nat × List Nat) : (bodyW p).length ≤ 2 + 2 * p.2.length := by
  have h1 := escQ_le p.2
  have h2 := escP_le p.2
  unfold bodyW
  split
  · simp only [List.length_append, List.length_singleton]; omega
  · omega
theorem some_str {X X' : Str} {t : Tok} (e : X = X') : some (Value.str X t) = some (Value.str X' t) := by rw [e]
local macro_rules | `(tactic| walk_at "exec If") => `(tactic| (k_here; (with_reducible show wpAny _ _ (exec (Stmt.If _ _ _ ⟨84, _, _, _⟩) _) _ _ _); refine hold ?_))
set_option maxHeartbeats 8000000 in
set_option pp.maxSteps 3000 in
theorem writ_spec {w : World} {loose : List Str} {mean : ExcName → Option Value} {mg mb : Str → Option Value} {s : Shared} {a : Addr} {ws : List (Nat × List Nat)} {Q : Value → Shared → Prop} {E : Value → Shared → Prop}
    (X : (hd.heap_39 w.params).In s.heap) (T : Top topProg loose mean mg mb s.heap) (hp : 0 < s.toks) (hm : MsgIn (fun b o => s.heap.get? b = some o) a ws) (hok : ∀ p ∈ ws, OkWord p) (hsz : wsz ws ≤ 50)
    (h : ∀ t h' tk, Ext s.heap h' → (written ws).length ≤ 150 → Q (.str (S (written ws)) t) { s with heap := h', toks := tk }) :
    wpAny (model PySem.Challenge.rw_ny0028_01.row.prog w) (Ar 700 3000) (call (.ref 132) [.ref a]) Q E s := by
  w_on
  refine wpAny_call ?_
  revert X; k_fill; intro X
  refine enter (binds := [(Str.ofString "words", .ref a)]) X T (by k_is) (by k_is) (by decide) (BindsTo.of_eq rfl) (locs rfl) ?_ rfl rfl rfl (by decide)
  intro L h₁ hL F N
  dsimp only
  k_steps
  obtain ⟨as, an, ha, hA⟩ := hm
  rename Fr _ _ _ _ => F'
  rename News _ _ _ _ => N'
  have hl : s.heap.IsList a (as.map Value.ref).toArray := ⟨_, ha, rfl, _, rfl⟩
  refine for_list (h₀ := s.heap) (L := L) (fun i m news => news = [] ∧ ∃ t, m (Str.ofString "text") = some (.str (S (written (ws.take i))) t)) rfl (by first | assumption | exact Nat.succ_pos _ | omega | (dsimp only; omega)) (hl.at fun o e => F'.keep _ _ e) F' N' ⟨rfl, _, by rw [show written (ws.take 0) = [] from rfl, show S [] = Str.ofString "" from by decide +kernel]; rfl⟩ (go_tup (fun v hv => by simp at hv; obtain ⟨T, _, e⟩ := hv; exact ⟨T, e.symm⟩)) ?_ ?_
  · rintro i v m₁ news₁ hq tk it itO hv ⟨rfl, tt, hm1⟩ htk hgr hit F N hne hl
    have hv' : (as.map Value.ref)[i]? = some v := by simpa using hv
    rw [List.getElem?_map] at hv'
    obtain ⟨pa, hpa, rfl⟩ := Option.map_eq_some_iff.mp hv'
    obtain ⟨⟨k, x⟩, hw, t, u, n, ho⟩ := hA.at hpa
    have F2 := fr_set F hm1
    have hL2 : hq.IsList pa #[.int (k : Nat) t, .str (S x) u] := ⟨_, F.keep _ _ ho, rfl, _, rfl⟩
    clear F
    have hmem := List.mem_of_getElem? hw
    have hl0 := ‹s.heap.IsList a (as.map Value.ref).toArray›
    have hx1 : 1 + x.length ≤ wsz ws := wsz_mem hmem
    obtain ⟨hk2', hsg⟩ := hok _ hmem
    have hk2 : k ≤ 2 := hk2'
    have hr0 := S_len x
    have hr1 := replace_len (S x) (Str.ofString "\\") (Str.ofString "\\\\")
    have hz1 : (Str.ofString "\\\\").length = 2 := by decide
    rw [hz1] at hr1
    have hr2 := replace_len (Txt.replace (S x) (Str.ofString "\\") (Str.ofString "\\\\")) (Str.ofString "\"") (Str.ofString "\\\"")
    have hz2 : (Str.ofString "\\\"").length = 2 := by decide
    rw [hz2] at hr2
    have hz3 : (Str.ofString "\"").length = 1 := by decide
    have hr3 := S_len (written (ws.take i))
    have hr4 := written_le (ws.take i)
    have hr5 := wsz_take ws i
    have hr6 := rows_len x
    k_steps
    delta Hold
    refine toks_T (by first | assumption | exact Nat.succ_pos _ | (dsimp only; omega)) (wpAny_mono (Q := WritMid s.heap L s it itO (written (ws.take i) ++ bodyW (k, x)) k t) (E := fun _ _ => False) ?wif ?wrest (fun _ _ h => h.elim))
    case wif =>
      refine wpAny_If ?_
      k_steps
      rotate_left 3
      · rename_i hk1 hS ra rl rh rtk rhtk rF rN rE rE2 rl1 hnl tk2 htk2
        have hq := q4 rE2 hnl hk1 hS
        refine for_ascii (w := w) (E := fun _ _ => False) (h₀ := s.heap) (L := L) (fun j m news => news = [(ra, listOf (strValues rl).toArray 0), (it, itO)] ∧ (∃ t, m (Str.ofString "text") = some (.str (S (written (ws.take i) ++ escP (x.take j))) t)) ∧ m (Str.ofString "manner") = some (.int k t)) (signs_ascii hsg) rfl (by first | assumption | exact Nat.succ_pos _ | omega | (dsimp only; omega)) rF rN ⟨rfl, ⟨_, by simp [escP]; rfl⟩, rfl⟩ ?_ ?_
        · rintro j c u2 m₂ news₂ h₂ tk₂ it₂ itO₂ hc ⟨rfl, ⟨t2, hm2⟩, hm3⟩ htk₂ hgr₂ hit₂ F₂ N₂ hne₂
          have F3 := fr_set (fr_set F₂ hm3) (by exact hm2 : (fun y => if y = Str.ofString "manner" then _ else m₂ y) (Str.ofString "text") = _)
          clear F₂
          have hc' : x[j]? = some c := by simpa using hc
          have hcs := hsg c (List.mem_of_getElem? hc')
          have hz5 := S_len (written (ws.take i) ++ escP (x.take j))
          have hz6 := escP_le (x.take j)
          have hz7 : (x.take j).length ≤ x.length := by simp; omega
          rw [List.length_append] at hz5
          have hz8 : (Str.ofString "\\").length = 1 := by decide
          have hz9 : (⟨#[c]⟩ : Str).length = 1 := rfl
          k_steps
          all_goals (rename Fr _ _ _ _ => F5; rename News _ _ _ _ => N5; rename ((Builtin.Str.occurrences _ _ _ _ _).isEmpty = _) => hin; rw [cont_is hcs] at hin)
          · refine ⟨_, _, _, _, rfl, F5, N5, hne₂, ⟨rfl, ex_str rfl ?_, rfl⟩⟩
            rw [escP_snoc hc', if_neg (by simpa using hin), show (⟨#[c]⟩ : Str) = S [c] from rfl, S_app, List.append_assoc]
          · refine ⟨_, _, _, _, rfl, F5, N5, hne₂, ⟨rfl, ex_str rfl ?_, rfl⟩⟩
            rw [escP_snoc hc', if_pos (by by_cases q : (c = 34 ∨ c = 92 ∨ c = 32 ∨ c = 9); exact q; rw [decide_eq_false q] at hin; cases hin), show (⟨#[c]⟩ : Str) = S [c] from rfl, show Str.ofString "\\" = S [92] from by decide +kernel, S_app, S_app, List.append_assoc]; rfl
        · rintro m₂ news₂ h₂ tk₂ htk₂ ⟨rfl, ⟨t2, hm2⟩, hm3⟩ F₂ N₂
          intro _
          refine wpAny_execs_nil ?_
          refine ⟨rfl, _, _, _, t2, rfl, F₂, newsSub N₂ (by intro p hp; rw [List.mem_singleton.mp hp]; simp), List.forall_mem_cons.mpr ⟨hm2.trans (some_str ?_), List.forall_mem_cons.mpr ⟨hm3, List.forall_mem_nil _⟩⟩⟩
          rw [show (S x).cps.size = x.length from by simp, List.take_length]
          unfold bodyW
          rw [if_neg (by rw [hq]; decide)]
      all_goals (
        rename Fr _ _ _ _ => F5
        rename News _ _ _ _ => N5
        exact ⟨rfl, _, _, _, _, rfl, F5, newsSub N5 (by intro p hp; rw [List.mem_singleton.mp hp]; simp), List.forall_mem_cons.mpr ⟨some_str (mid_q (by first | exact q1 (by omega) | exact q2 (by assumption) | exact q3 (by assumption) (by assumption))), List.forall_mem_cons.mpr ⟨rfl, List.forall_mem_nil _⟩⟩⟩)
    case wrest =>
      rintro _ _ ⟨rfl, h9, tk9, m9, tt9, rfl, F9, N9, hm9⟩ htk9
      have F9a := fr_sets _ F9 hm9
      dsimp only [setsOf] at F9a
      have hz5 := S_len (written (ws.take i) ++ bodyW (k, x))
      have hz6 := bodyW_le (k, x)
      dsimp only at hz6
      rw [List.length_append] at hz5
      clear F9
      intro _
      dsimp only
      k_steps
      all_goals (
        rename Fr _ _ _ _ => F5
        rename News _ _ _ _ => N5
        refine ⟨_, _, _, [], rfl, F5, newsSub N5 (by intro p hp; rw [List.mem_singleton.mp hp]; simp), by simp, ⟨rfl, ex_str rfl (end_w hw ?_)⟩, hl0.at fun o e => F5.keep _ _ e⟩
        first | (have : k = 0 := by omega); subst this; decide +kernel | (have : k = 1 := by omega); subst this; decide +kernel | (have : k = 2 := by omega); subst this; decide +kernel)
  · rintro m₁ news₁ hq tk htk ⟨rfl, tt, hm1⟩ F N
    have F2 := fr_set F hm1
    clear F
    intro _
    dsimp only
    k_steps
    rename Fr _ _ _ _ => F5
    have e : (as.map Value.ref).toArray.size = ws.length := by simp [hA.length]
    rw [e, List.take_length]
    have := written_le ws
    exact h _ _ _ F5.keep (by omega)
end Mine

end
section
open PySem
set_option maxRecDepth 100000
namespace Mine
open Sre
theorem runFor_done (n : Nat) (m : M) (h : m.outcome.isSome = true) : M.runFor n m = m := by
  cases n with
  | zero => rfl
  | succ n => simp only [M.runFor, h, if_true]
theorem runFor_add (a b : Nat) : ∀ m : M, M.runFor (a + b) m = M.runFor b (M.runFor a m) := by
  induction a with
  | zero => intro m; rw [Nat.zero_add]; rfl
  | succ a ih =>
    intro m
    rw [Nat.succ_add]
    simp only [M.runFor]
    split
    · rename_i h; exact (runFor_done b m h).symm
    · exact ih _
/-- it comes to an end state in so many steps -/
def Ends (m : M) (n : Nat) (m' : M) : Prop := ∃ k, k ≤ n ∧ M.runFor k m = m' ∧ m'.outcome.isSome = true
theorem Ends.step {m m₁ m' : M} {n : Nat} (j : Nat) (h : M.runFor j m = m₁) (e : Ends m₁ n m') : Ends m (j + n) m' := by
  obtain ⟨k, hk, e1, e2⟩ := e
  exact ⟨j + k, by omega, by rw [runFor_add, h, e1], e2⟩
theorem Ends.at {m m' : M} {n : Nat} (e : Ends m n m') : ∀ {j}, n ≤ j → M.runFor j m = m' := by
  obtain ⟨k, hk, e1, e2⟩ := e
  intro j hj
  have : j = k + (j - k) := by omega
  rw [this, runFor_add, e1, runFor_done _ _ e2]
theorem Ends.le {m m' : M} {n n' : Nat} (e : Ends m n m') (h : n ≤ n') : Ends m n' m' := by
  obtain ⟨k, hk, e1, e2⟩ := e
  exact ⟨k, by omega, e1, e2⟩

def code1 : Array Nat := #[14, 4, 0, 1, 1, 6, 1, 16, 46, 1]
/-- an attempt of the first pattern at s -/
def P1 (text : Array Nat) (lim : Nat) (seen : Seen) (s : Nat) (first : Bool) : M :=
  { code := code1, text := text, lim := lim, start := s, lastStart := lim, pc := 5, pos := s, handed := s, outermost := first, marks := #[], frames := [{ wait := .nextStart, pc := 5, pos := s, outermost := first }], weight := 1, seen := seen }
theorem P1_start {text : Array Nat} {lim s : Nat} (h : ¬ (s > lim ∨ lim - s < 1)) : forSearch code1 text 0 s lim false = P1 text lim (({} : Seen).add 14) s true := by
  unfold forSearch
  have hh : header code1 = (1, 5) := by decide
  simp only [hh]
  rw [if_neg (by simpa using h)]
  rfl
theorem P1_none {text : Array Nat} {lim s : Nat} (h : s > lim ∨ lim - s < 1) : ∃ m', Ends (forSearch code1 text 0 s lim false) 1 m' ∧ m'.outcome = some .failed := by
  have e : ∃ m : M, forSearch code1 text 0 s lim false = m ∧ m.answer = some false ∧ m.frames = [] ∧ m.outcome = none := by
    refine ⟨_, rfl, ?_⟩
    unfold forSearch
    have hh : header code1 = (1, 5) := by decide
    simp only [hh]
    rw [if_pos (by simpa using h)]
    exact ⟨rfl, rfl, rfl⟩
  obtain ⟨m, e1, e2, e3, e4⟩ := e
  refine ⟨{ m with outcome := some .failed }, ⟨1, Nat.le_refl _, ?_, rfl⟩, rfl⟩
  rw [e1]
  simp only [M.runFor, M.step, e4, e2, e3]
  rfl
/-- behind the anchor -/
def P1b (text : Array Nat) (lim : Nat) (seen : Seen) (s : Nat) (first : Bool) : M := { P1 text lim seen s first with pc := 7 }
/-- an attempt that failed -/
def P1f (text : Array Nat) (lim : Nat) (seen : Seen) (s pc : Nat) (first : Bool) : M := { P1 text lim seen s first with pc := pc, answer := some false }
theorem P1_at (text : Array Nat) (lim : Nat) (seen : Seen) (s : Nat) (first : Bool) :
    M.runFor 1 (P1 text lim seen s first) = (if (s == 0 || text.getD (s - 1) 0 == 10) = true then P1b text lim ((seen.add 6).add 44) s first else P1f text lim ((seen.add 6).add 44) s 5 first) := by
  rfl
theorem P1_lit (text : Array Nat) (lim : Nat) (seen : Seen) (s : Nat) (first : Bool) (h : ¬ s ≥ lim) :
    M.runFor 1 (P1b text lim seen s first) = (if (text.getD s 0 == 46) = true then { P1b text lim (seen.add 16) s first with pc := 9, pos := s + 1 } else P1f text lim (seen.add 16) s 7 first) := by
  show (if s ≥ lim then _ else (match (Except.ok (text.getD s 0 == 46, seen.add 16) : Except String (Bool × Seen)) with | .error why => _ | .ok (false, seen) => _ | .ok (true, seen) => _)) = _
  rw [if_neg h]
  cases (text.getD s 0 == 46) <;> rfl
theorem P1_lit_end (text : Array Nat) (lim : Nat) (seen : Seen) (s : Nat) (first : Bool) (h : s ≥ lim) :
    M.runFor 1 (P1b text lim seen s first) = P1f text lim (seen.add 16) s 7 first := by
  show (if s ≥ lim then _ else _) = _
  rw [if_pos h]; rfl
theorem P1_next (text : Array Nat) (lim : Nat) (seen : Seen) (s pc : Nat) (first : Bool) (h : s < lim) : M.runFor 1 (P1f text lim seen s pc first) = P1 text lim seen (s + 1) false := by
  show (if s < lim then _ else _) = _
  rw [if_pos h]; rfl
theorem P1_over (text : Array Nat) (lim : Nat) (seen : Seen) (s pc : Nat) (first : Bool) (h : ¬ s < lim) : ∃ m', Ends (P1f text lim seen s pc first) 2 m' ∧ m'.outcome = some .failed := by
  have e : ∃ m : M, M.runFor 1 (P1f text lim seen s pc first) = m ∧ m.answer = some false ∧ m.frames = [] ∧ m.outcome = none := by
    refine ⟨_, rfl, ?_⟩
    show M.answer (if s < lim then _ else _) = _ ∧ M.frames (if s < lim then _ else _) = _ ∧ M.outcome (if s < lim then _ else _) = _
    rw [if_neg h]
    exact ⟨rfl, rfl, rfl⟩
  obtain ⟨m, e1, e2, e3, e4⟩ := e
  refine ⟨{ m with outcome := some .failed }, Ends.step 1 e1 ⟨1, Nat.le_refl _, ?_, rfl⟩, rfl⟩
  simp only [M.runFor, M.step, e4, e2, e3]
  rfl
theorem P1_match (text : Array Nat) (lim : Nat) (seen : Seen) (s : Nat) (first : Bool) : ∃ m', Ends { P1b text lim seen s first with pc := 9, pos := s + 1 } 3 m' ∧ m'.outcome = some .matched ∧ m'.start = s ∧ m'.handed = s + 1 := by
  cases first <;> exact ⟨_, ⟨3, Nat.le_refl _, rfl, rfl⟩, rfl, rfl, rfl⟩
/-- a dot at a row's head -/
abbrev Dot (text : Array Nat) (lim p : Nat) : Prop := (p == 0 || text.getD (p - 1) 0 == 10) = true ∧ p < lim ∧ (text.getD p 0 == 46) = true
theorem P1_run (text : Array Nat) (lim : Nat) : ∀ (n s : Nat) (seen : Seen) (first : Bool), lim - s = n → s ≤ lim → ∃ m', Ends (P1 text lim seen s first) (6 * n + 6) m' ∧
    ((m'.outcome = some .failed ∧ ∀ p, s ≤ p → ¬ Dot text lim p) ∨ (∃ p, m'.outcome = some .matched ∧ m'.start = p ∧ m'.handed = p + 1 ∧ s ≤ p ∧ Dot text lim p ∧ ∀ q, s ≤ q → q < p → ¬ Dot text lim q)) := by
  intro n
  induction n with
  | zero =>
    intro s seen first hn hs
    have e : s = lim := by omega
    subst e
    have none' : ∀ p, s ≤ p → ¬ Dot text s p := fun p hp h => by have := h.2.1; omega
    by_cases ha : (s == 0 || text.getD (s - 1) 0 == 10) = true
    · have h1 := P1_at text s seen s first
      rw [if_pos ha] at h1
      obtain ⟨m', e1, e2⟩ := P1_over text s (((seen.add 6).add 44).add 16) s 7 first (by omega)
      exact ⟨m', (Ends.step 1 h1 (Ends.step 1 (P1_lit_end text s _ s first (by omega)) e1)).le (by omega), .inl ⟨e2, none'⟩⟩
    · have h1 := P1_at text s seen s first
      rw [if_neg ha] at h1
      obtain ⟨m', e1, e2⟩ := P1_over text s ((seen.add 6).add 44) s 5 first (by omega)
      exact ⟨m', (Ends.step 1 h1 e1).le (by omega), .inl ⟨e2, none'⟩⟩
  | succ n ih =>
    intro s seen first hn hs
    have hlt : s < lim := by omega
    have more : ∀ {m' : M}, ¬ Dot text lim s → ((m'.outcome = some .failed ∧ ∀ p, s + 1 ≤ p → ¬ Dot text lim p) ∨ (∃ p, m'.outcome = some .matched ∧ m'.start = p ∧ m'.handed = p + 1 ∧ s + 1 ≤ p ∧ Dot text lim p ∧ ∀ q, s + 1 ≤ q → q < p → ¬ Dot text lim q)) →
        ((m'.outcome = some .failed ∧ ∀ p, s ≤ p → ¬ Dot text lim p) ∨ (∃ p, m'.outcome = some .matched ∧ m'.start = p ∧ m'.handed = p + 1 ∧ s ≤ p ∧ Dot text lim p ∧ ∀ q, s ≤ q → q < p → ¬ Dot text lim q)) := by
      rintro m' hno (⟨a1, a2⟩ | ⟨p, a1, a2, a3, a4, a5, a6⟩)
      · refine .inl ⟨a1, fun p hp => ?_⟩
        by_cases e : p = s
        · subst e; exact hno
        · exact a2 p (by omega)
      · refine .inr ⟨p, a1, a2, a3, by omega, a5, fun q h1 h2 => ?_⟩
        by_cases e : q = s
        · subst e; exact hno
        · exact a6 q (by omega) h2
    by_cases ha : (s == 0 || text.getD (s - 1) 0 == 10) = true
    · have h1 := P1_at text lim seen s first
      rw [if_pos ha] at h1
      have h2 := P1_lit text lim ((seen.add 6).add 44) s first (by omega)
      by_cases hb : (text.getD s 0 == 46) = true
      · rw [if_pos hb] at h2
        obtain ⟨m', e1, e2, e3, e4⟩ := P1_match text lim (((seen.add 6).add 44).add 16) s first
        exact ⟨m', (Ends.step 1 h1 (Ends.step 1 h2 e1)).le (by omega), .inr ⟨s, e2, e3, e4, Nat.le_refl _, ⟨ha, hlt, hb⟩, fun q h1 h2 => by omega⟩⟩
      · rw [if_neg hb] at h2
        obtain ⟨m', e1, e2⟩ := ih (s + 1) (((seen.add 6).add 44).add 16) false (by omega) (by omega)
        exact ⟨m', (Ends.step 1 h1 (Ends.step 1 h2 (Ends.step 1 (P1_next text lim _ s 7 first hlt) e1))).le (by omega), more (fun h => hb h.2.2) e2⟩
    · have h1 := P1_at text lim seen s first
      rw [if_neg ha] at h1
      obtain ⟨m', e1, e2⟩ := ih (s + 1) ((seen.add 6).add 44) false (by omega) (by omega)
      exact ⟨m', (Ends.step 1 h1 (Ends.step 1 (P1_next text lim _ s 5 first hlt) e1)).le (by omega), more (fun h => ha h.1) e2⟩
theorem search1 (text : Array Nat) (s : Nat) : ∃ m', Ends (forSearch code1 text 0 s text.size false) (6 * text.size + 6) m' ∧
    ((m'.outcome = some .failed ∧ ∀ p, s ≤ p → ¬ Dot text text.size p) ∨ (∃ p, m'.outcome = some .matched ∧ m'.start = p ∧ m'.handed = p + 1 ∧ s ≤ p ∧ Dot text text.size p ∧ ∀ q, s ≤ q → q < p → ¬ Dot text text.size q)) := by
  by_cases h : s > text.size ∨ text.size - s < 1
  · obtain ⟨m', e1, e2⟩ := P1_none (text := text) h
    exact ⟨m', e1.le (by omega), .inl ⟨e2, fun p hp hd => by have := hd.2.1; omega⟩⟩
  · rw [P1_start h]
    obtain ⟨m', e1, e2⟩ := P1_run text text.size (text.size - s) s (({} : Seen).add 14) true rfl (by omega)
    exact ⟨m', e1.le (by omega), e2⟩

def code2 : Array Nat := #[14, 9, 4, 1, 2, 16, 10, 16, 13, 0, 7, 7, 16, 13, 16, 10, 15, 18, 5, 16, 10, 15, 13, 11, 16, 13, 5, 5, 0, 16, 10, 1, 15, 2, 0, 1]
/-- a state of the second pattern's machine -/
def R2 (text : Array Nat) (lim s : Nat) (seen : Seen) (pc pos handed : Nat) (out : Bool) (ans : Option Bool) (fs : List Sre.Frame) (wt : Nat) : M :=
  { code := code2, text := text, lim := lim, start := s, lastStart := lim, pc := pc, pos := pos, handed := handed, outermost := out, marks := #[], frames := fs, weight := wt, answer := ans, seen := seen }
abbrev kept2 : Sre.Kept := { lastmark := -1, lastindex := -1, whole := false, marks := #[] }
abbrev fS (s : Nat) : Sre.Frame := { wait := .nextStart, pc := 10, pos := s, outermost := true }
abbrev fB (s pc : Nat) : Sre.Frame := { wait := .nextBranch, pc := pc, pos := s, outermost := true, kept := kept2 }
abbrev fL (p : Nat) : Sre.Frame := { wait := .lookNot, pc := 26, pos := p, outermost := true, kept := kept2 }
section
variable (text : Array Nat) (lim s : Nat) (seen : Seen) (h : Nat)
theorem r2_lit12 {pos : Nat} {out : Bool} {fs : List Sre.Frame} {wt : Nat} :
    M.runFor 1 (R2 text lim s seen 12 pos h out none fs wt) = if pos ≥ lim then R2 text lim s (seen.add 16) 12 pos h out (some false) fs wt else if (text.getD pos 0 == 13) = true then R2 text lim s (seen.add 16) 14 (pos + 1) h out none fs wt else R2 text lim s (seen.add 16) 12 pos h out (some false) fs wt := by
  show (if pos ≥ lim then _ else (match (Except.ok (text.getD pos 0 == 13, seen.add 16) : Except String (Bool × Seen)) with | .error why => _ | .ok (false, seen) => _ | .ok (true, seen) => _)) = _
  by_cases hp : pos ≥ lim
  · rw [if_pos hp, if_pos hp]; rfl
  · rw [if_neg hp, if_neg hp]
    cases (text.getD pos 0 == 13) <;> rfl
theorem r2_lit14 {pos : Nat} {out : Bool} {fs : List Sre.Frame} {wt : Nat} :
    M.runFor 1 (R2 text lim s seen 14 pos h out none fs wt) = if pos ≥ lim then R2 text lim s (seen.add 16) 14 pos h out (some false) fs wt else if (text.getD pos 0 == 10) = true then R2 text lim s (seen.add 16) 16 (pos + 1) h out none fs wt else R2 text lim s (seen.add 16) 14 pos h out (some false) fs wt := by
  show (if pos ≥ lim then _ else (match (Except.ok (text.getD pos 0 == 10, seen.add 16) : Except String (Bool × Seen)) with | .error why => _ | .ok (false, seen) => _ | .ok (true, seen) => _)) = _
  by_cases hp : pos ≥ lim
  · rw [if_pos hp, if_pos hp]; rfl
  · rw [if_neg hp, if_neg hp]
    cases (text.getD pos 0 == 10) <;> rfl
theorem r2_lit19 {pos : Nat} {out : Bool} {fs : List Sre.Frame} {wt : Nat} :
    M.runFor 1 (R2 text lim s seen 19 pos h out none fs wt) = if pos ≥ lim then R2 text lim s (seen.add 16) 19 pos h out (some false) fs wt else if (text.getD pos 0 == 10) = true then R2 text lim s (seen.add 16) 21 (pos + 1) h out none fs wt else R2 text lim s (seen.add 16) 19 pos h out (some false) fs wt := by
  show (if pos ≥ lim then _ else (match (Except.ok (text.getD pos 0 == 10, seen.add 16) : Except String (Bool × Seen)) with | .error why => _ | .ok (false, seen) => _ | .ok (true, seen) => _)) = _
  by_cases hp : pos ≥ lim
  · rw [if_pos hp, if_pos hp]; rfl
  · rw [if_neg hp, if_neg hp]
    cases (text.getD pos 0 == 10) <;> rfl
theorem r2_lit24 {pos : Nat} {out : Bool} {fs : List Sre.Frame} {wt : Nat} :
    M.runFor 1 (R2 text lim s seen 24 pos h out none fs wt) = if pos ≥ lim then R2 text lim s (seen.add 16) 24 pos h out (some false) fs wt else if (text.getD pos 0 == 13) = true then R2 text lim s (seen.add 16) 26 (pos + 1) h out none fs wt else R2 text lim s (seen.add 16) 24 pos h out (some false) fs wt := by
  show (if pos ≥ lim then _ else (match (Except.ok (text.getD pos 0 == 13, seen.add 16) : Except String (Bool × Seen)) with | .error why => _ | .ok (false, seen) => _ | .ok (true, seen) => _)) = _
  by_cases hp : pos ≥ lim
  · rw [if_pos hp, if_pos hp]; rfl
  · rw [if_neg hp, if_neg hp]
    cases (text.getD pos 0 == 13) <;> rfl
theorem r2_lit29 {pos : Nat} {out : Bool} {fs : List Sre.Frame} {wt : Nat} :
    M.runFor 1 (R2 text lim s seen 29 pos h out none fs wt) = if pos ≥ lim then R2 text lim s (seen.add 16) 29 pos h out (some false) fs wt else if (text.getD pos 0 == 10) = true then R2 text lim s (seen.add 16) 31 (pos + 1) h out none fs wt else R2 text lim s (seen.add 16) 29 pos h out (some false) fs wt := by
  show (if pos ≥ lim then _ else (match (Except.ok (text.getD pos 0 == 10, seen.add 16) : Except String (Bool × Seen)) with | .error why => _ | .ok (false, seen) => _ | .ok (true, seen) => _)) = _
  by_cases hp : pos ≥ lim
  · rw [if_pos hp, if_pos hp]; rfl
  · rw [if_neg hp, if_neg hp]
    cases (text.getD pos 0 == 10) <;> rfl
theorem r2_branch : M.runFor 1 (R2 text lim s seen 10 s s true none [fS s] 1) = R2 text lim s (seen.add 7) 12 s s true none [fB s 11, fS s] 2 := rfl
theorem r2_alt2 {pc pos : Nat} {h' : Nat} : M.runFor 1 (R2 text lim s seen pc pos h' true (some false) [fB s 11, fS s] 2) = R2 text lim s seen 19 s s true none [fB s 18, fS s] 2 := rfl
theorem r2_alt3 {pc pos : Nat} {h' : Nat} : M.runFor 1 (R2 text lim s seen pc pos h' true (some false) [fB s 18, fS s] 2) = R2 text lim s seen 24 s s true none [fB s 23, fS s] 2 := rfl
theorem r2_jump16 {pos h' : Nat} {fs : List Sre.Frame} {wt : Nat} : M.runFor 1 (R2 text lim s seen 16 pos h' true none fs wt) = R2 text lim s (seen.add 15) 35 pos h' true none fs wt := rfl
theorem r2_jump21 {pos h' : Nat} {fs : List Sre.Frame} {wt : Nat} : M.runFor 1 (R2 text lim s seen 21 pos h' true none fs wt) = R2 text lim s (seen.add 15) 35 pos h' true none fs wt := rfl
theorem r2_jump32 {pos h' : Nat} {fs : List Sre.Frame} {wt : Nat} : M.runFor 1 (R2 text lim s seen 32 pos h' true none fs wt) = R2 text lim s (seen.add 15) 35 pos h' true none fs wt := rfl
theorem r2_assert {pos h' : Nat} : M.runFor 1 (R2 text lim s seen 26 pos h' true none [fB s 23, fS s] 2) = R2 text lim s (seen.add 5) 29 pos pos false none [fL pos, fB s 23, fS s] 3 := rfl
theorem r2_notok {pc pos q h' : Nat} {out : Bool} : M.runFor 1 (R2 text lim s seen pc pos h' out (some false) [fL q, fB s 23, fS s] 3) = R2 text lim s seen 32 q h' true none [fB s 23, fS s] 2 := rfl
theorem r2_success {pos h' b : Nat} : ∃ m', Ends (R2 text lim s seen 35 pos h' true none [fB s b, fS s] 2) 4 m' ∧ m'.outcome = some .matched ∧ m'.start = s ∧ m'.handed = pos :=
  ⟨_, ⟨4, Nat.le_refl _, rfl, rfl⟩, rfl, rfl, rfl⟩
/-- an attempt at a line end's sign comes through -/
theorem r2_run (hs : s < lim) (hc : text.getD s 0 = 13 ∨ text.getD s 0 = 10) : ∃ m', Ends (R2 text lim s seen 10 s s true none [fS s] 1) 20 m' ∧ m'.outcome = some .matched ∧ m'.start = s ∧
    m'.handed = (if text.getD s 0 = 13 ∧ s + 1 < lim ∧ text.getD (s + 1) 0 = 10 then s + 2 else s + 1) := by
  rcases hc with hc | hc
  · by_cases hn : s + 1 < lim ∧ text.getD (s + 1) 0 = 10
    · have h2 := r2_lit12 text lim s (seen.add 7) s (pos := s) (out := true) (fs := [fB s 11, fS s]) (wt := 2)
      rw [if_neg (by omega), if_pos (by rw [hc]; rfl)] at h2
      have h3 := r2_lit14 text lim s ((seen.add 7).add 16) s (pos := s + 1) (out := true) (fs := [fB s 11, fS s]) (wt := 2)
      rw [if_neg (by omega), if_pos (by rw [hn.2]; rfl)] at h3
      obtain ⟨m', e1, e2, e3, e4⟩ := r2_success text lim s ((((seen.add 7).add 16).add 16).add 15) (pos := s + 2) (h' := s) (b := 11)
      refine ⟨m', (Ends.step 1 (r2_branch ..) (Ends.step 1 h2 (Ends.step 1 h3 (Ends.step 1 (r2_jump16 ..) e1)))).le (by omega), e2, e3, ?_⟩
      rw [e4, if_pos ⟨hc, hn⟩]
    · have h2 := r2_lit12 text lim s (seen.add 7) s (pos := s) (out := true) (fs := [fB s 11, fS s]) (wt := 2)
      rw [if_neg (by omega), if_pos (by rw [hc]; rfl)] at h2
      have h3 : M.runFor 1 (R2 text lim s ((seen.add 7).add 16) 14 (s + 1) s true none [fB s 11, fS s] 2) = R2 text lim s (((seen.add 7).add 16).add 16) 14 (s + 1) s true (some false) [fB s 11, fS s] 2 := by
        rw [r2_lit14]
        split
        · rfl
        · rename_i hq
          rw [if_neg]
          intro hx
          exact hn ⟨by omega, by simpa using hx⟩
      have h4 := r2_lit19 text lim s (((seen.add 7).add 16).add 16) s (pos := s) (out := true) (fs := [fB s 18, fS s]) (wt := 2)
      rw [if_neg (by omega), if_neg (by rw [hc]; decide)] at h4
      have h5 := r2_lit24 text lim s ((((seen.add 7).add 16).add 16).add 16) s (pos := s) (out := true) (fs := [fB s 23, fS s]) (wt := 2)
      rw [if_neg (by omega), if_pos (by rw [hc]; rfl)] at h5
      have h6 : M.runFor 1 (R2 text lim s ((((((seen.add 7).add 16).add 16).add 16).add 16).add 5) 29 (s + 1) (s + 1) false none [fL (s + 1), fB s 23, fS s] 3) = R2 text lim s (((((((seen.add 7).add 16).add 16).add 16).add 16).add 5).add 16) 29 (s + 1) (s + 1) false (some false) [fL (s + 1), fB s 23, fS s] 3 := by
        rw [r2_lit29]
        split
        · rfl
        · rename_i hq
          rw [if_neg]
          intro hx
          exact hn ⟨by omega, by simpa using hx⟩
      obtain ⟨m', e1, e2, e3, e4⟩ := r2_success text lim s ((((((((seen.add 7).add 16).add 16).add 16).add 16).add 5).add 16).add 15) (pos := s + 1) (h' := s + 1) (b := 23)
      refine ⟨m', (Ends.step 1 (r2_branch ..) (Ends.step 1 h2 (Ends.step 1 h3 (Ends.step 1 (r2_alt2 ..) (Ends.step 1 h4 (Ends.step 1 (r2_alt3 ..) (Ends.step 1 h5 (Ends.step 1 (r2_assert ..) (Ends.step 1 h6 (Ends.step 1 (r2_notok ..) (Ends.step 1 (r2_jump32 ..) e1))))))))))).le (by omega), e2, e3, ?_⟩
      rw [e4, if_neg (fun hx => hn hx.2)]
  · have h2 := r2_lit12 text lim s (seen.add 7) s (pos := s) (out := true) (fs := [fB s 11, fS s]) (wt := 2)
    rw [if_neg (by omega), if_neg (by rw [hc]; decide)] at h2
    have h4 := r2_lit19 text lim s ((seen.add 7).add 16) s (pos := s) (out := true) (fs := [fB s 18, fS s]) (wt := 2)
    rw [if_neg (by omega), if_pos (by rw [hc]; rfl)] at h4
    obtain ⟨m', e1, e2, e3, e4⟩ := r2_success text lim s ((((seen.add 7).add 16).add 16).add 15) (pos := s + 1) (h' := s) (b := 18)
    refine ⟨m', (Ends.step 1 (r2_branch ..) (Ends.step 1 h2 (Ends.step 1 (r2_alt2 ..) (Ends.step 1 h4 (Ends.step 1 (r2_jump21 ..) e1))))).le (by omega), e2, e3, ?_⟩
    rw [e4, if_neg (fun hx => by rw [hc] at hx; cases hx.1)]
end

theorem inSet2 (c : Nat) (seen : Seen) : inSet code2 c 36 5 true seen = if (c == 10) = true then .ok (true, seen.add 16) else if (c == 13) = true then .ok (true, (seen.add 16).add 16) else .ok (false, ((seen.add 16).add 16).add 0) := rfl
/-- a sign of a line end -/
abbrev Eol (text : Array Nat) (lim p : Nat) : Prop := p < lim ∧ (text.getD p 0 = 13 ∨ text.getD p 0 = 10)
theorem admitted2 (m : M) (hm : m.code = code2) : ∀ (fuel s : Nat) (seen : Seen), m.lim - s < fuel → ∃ r seen', M.admitted m fuel s seen = .ok (r, seen') ∧
    ((r = none ∧ ∀ p, s ≤ p → ¬ Eol m.text m.lim p) ∨ ∃ p, r = some p ∧ s ≤ p ∧ Eol m.text m.lim p ∧ ∀ q, s ≤ q → q < p → ¬ Eol m.text m.lim q) := by
  intro fuel
  induction fuel with
  | zero => intro s seen h; omega
  | succ fuel ih =>
    intro s seen h
    unfold M.admitted
    by_cases hs : s ≥ m.lim
    · rw [if_pos hs]
      exact ⟨none, seen, rfl, .inl ⟨rfl, fun p hp hd => by have := hd.1; omega⟩⟩
    · rw [if_neg hs, hm]
      rw [show code2.size = 36 from rfl, inSet2]
      by_cases h1 : m.text.getD s 0 = 10
      · rw [if_pos (by simpa using h1)]
        exact ⟨some s, _, rfl, .inr ⟨s, rfl, Nat.le_refl _, ⟨by omega, .inr h1⟩, fun q a b => by omega⟩⟩
      · rw [if_neg (by simpa using h1)]
        by_cases h2 : m.text.getD s 0 = 13
        · rw [if_pos (by simpa using h2)]
          exact ⟨some s, _, rfl, .inr ⟨s, rfl, Nat.le_refl _, ⟨by omega, .inl h2⟩, fun q a b => by omega⟩⟩
        · rw [if_neg (by simpa using h2)]
          obtain ⟨r, seen', e1, e2⟩ := ih (s + 1) (((seen.add 16).add 16).add 0) (by omega)
          have hno : ¬ Eol m.text m.lim s := fun hd => hd.2.elim h2 h1
          refine ⟨r, seen', e1, ?_⟩
          rcases e2 with ⟨a1, a2⟩ | ⟨p, a1, a2, a3, a4⟩
          · refine .inl ⟨a1, fun p hp => ?_⟩
            by_cases e : p = s
            · subst e; exact hno
            · exact a2 p (by omega)
          · refine .inr ⟨p, a1, by omega, a3, fun q h1 h2 => ?_⟩
            by_cases e : q = s
            · subst e; exact hno
            · exact a4 q (by omega) h2
/-- where the match at p ends -/
def eolEnd (text : Array Nat) (lim p : Nat) : Nat := if text.getD p 0 = 13 ∧ p + 1 < lim ∧ text.getD (p + 1) 0 = 10 then p + 2 else p + 1
theorem search2 (text : Array Nat) (s : Nat) : ∃ m', Ends (forSearch code2 text 0 s text.size false) 21 m' ∧
    ((m'.outcome = some .failed ∧ ∀ p, s ≤ p → ¬ Eol text text.size p) ∨ (∃ p, m'.outcome = some .matched ∧ m'.start = p ∧ m'.handed = eolEnd text text.size p ∧ s ≤ p ∧ Eol text text.size p ∧ ∀ q, s ≤ q → q < p → ¬ Eol text text.size q)) := by
  have hh : header code2 = (1, 10) := by decide
  have failed : ∀ m : M, m.answer = some false → m.frames = [] → m.outcome = none → ∃ m', Ends m 21 m' ∧ m'.outcome = some .failed := by
    intro m e2 e3 e4
    refine ⟨{ m with outcome := some .failed }, ⟨1, by omega, ?_, rfl⟩, rfl⟩
    simp only [M.runFor, M.step, e4, e2, e3]
    rfl
  by_cases h : s > text.size ∨ text.size - s < 1
  · have e : ∃ m : M, forSearch code2 text 0 s text.size false = m ∧ m.answer = some false ∧ m.frames = [] ∧ m.outcome = none := by
      refine ⟨_, rfl, ?_⟩
      unfold forSearch
      simp only [hh]
      rw [if_pos (by simpa using h)]
      exact ⟨rfl, rfl, rfl⟩
    obtain ⟨m, e1, e2, e3, e4⟩ := e
    obtain ⟨m', a1, a2⟩ := failed m e2 e3 e4
    rw [e1]
    exact ⟨m', a1, .inl ⟨a2, fun p hp hd => by have := hd.1; omega⟩⟩
  · have e : ∃ m : M, forSearch code2 text 0 s text.size false = m.attemptFrom s true ∧ m = R2 text text.size s (({} : Seen).add 14) 10 s s true none [] 0 := by
      refine ⟨_, ?_, rfl⟩
      unfold forSearch
      simp only [hh]
      rw [if_neg (by simpa using h)]
      rfl
    obtain ⟨m, e1, e2⟩ := e
    obtain ⟨r, seen', a1, a2⟩ := admitted2 m (by rw [e2]; rfl) (m.lim + 1 - s) s m.seen (by rw [e2]; show text.size - s < text.size + 1 - s; omega)
    have e3 : m.attemptFrom s true = (match (.ok (r, seen') : Except String (Option Nat × Seen)) with | .ok (some s, seen) => M.attemptAt { m with mustAdvance := false, seen } s true | .ok (none, seen) => M.say { m with seen } false | .error why => m.stick why) := by
      have hf : (!m.hasFirstSet) = false := by rw [e2]; rfl
      unfold M.attemptFrom
      rw [hf, if_neg Bool.false_ne_true, a1]
      rfl
    rw [e1, e3]
    subst e2
    rcases a2 with ⟨rfl, a2⟩ | ⟨p, rfl, a2, a3, a4⟩
    · obtain ⟨m', b1, b2⟩ := failed (M.say { R2 text text.size s (({} : Seen).add 14) 10 s s true none [] 0 with seen := seen' } false) rfl rfl rfl
      exact ⟨m', b1, .inl ⟨b2, a2⟩⟩
    · obtain ⟨m', b1, b2, b3, b4⟩ := r2_run text text.size p seen' a3.1 a3.2
      exact ⟨m', b1.le (by omega), .inr ⟨p, b2, b3, b4, a2, a3, a4⟩⟩
end Mine

end
section
open PySem
set_option maxRecDepth 100000
namespace Mine
/-- every line end as CRLF -/
def crlf : List Nat → List Nat
  | 13 :: 10 :: r => 13 :: 10 :: crlf r
  | c :: r => if c = 13 ∨ c = 10 then 13 :: 10 :: crlf r else c :: crlf r
  | [] => []
theorem crlf_two (r : List Nat) : crlf (13 :: 10 :: r) = 13 :: 10 :: crlf r := by rw [crlf]
theorem crlf_cons {c : Nat} {r : List Nat} (h : ¬ (c = 13 ∧ ∃ r', r = 10 :: r')) : crlf (c :: r) = if c = 13 ∨ c = 10 then 13 :: 10 :: crlf r else c :: crlf r := by
  cases r with
  | nil => rw [crlf]; rintro _ _ h; cases h
  | cons d r =>
    rw [crlf]
    rintro r' rfl hr
    exact h ⟨rfl, _, by rw [hr]⟩
theorem crlf_free : ∀ (a r : List Nat), (∀ c ∈ a, c ≠ 13 ∧ c ≠ 10) → crlf (a ++ r) = a ++ crlf r
  | [], r, _ => rfl
  | c :: a, r, h => by
    have hc := h c (.head _)
    have ih := crlf_free a r (fun d hd => h d (.tail _ hd))
    rw [List.cons_append, crlf_cons (fun x => hc.1 x.1), if_neg (by omega), ih, List.cons_append]
theorem getD_arr (l : List Nat) (p : Nat) : l.toArray.getD p 0 = l[p]?.getD 0 := by
  simp [Array.getD_eq_getD_getElem?]
theorem arr_at {l : List Nat} {p c : Nat} (hp : p < l.length) (h : l.toArray.getD p 0 = c) : l.drop p = c :: l.drop (p + 1) := by
  rw [List.drop_eq_getElem_cons hp]
  rw [getD_arr, List.getElem?_eq_getElem hp] at h
  simp at h
  rw [h]
theorem crlf_eol {l : List Nat} {p : Nat} (h : Eol l.toArray l.length p) : crlf (l.drop p) = 13 :: 10 :: crlf (l.drop (eolEnd l.toArray l.length p)) := by
  obtain ⟨hp, hc⟩ := h
  unfold eolEnd
  by_cases h2 : l.toArray.getD p 0 = 13 ∧ p + 1 < l.length ∧ l.toArray.getD (p + 1) 0 = 10
  · rw [if_pos h2, arr_at hp h2.1, arr_at h2.2.1 h2.2.2, crlf_two]
  · rw [if_neg h2, arr_at hp rfl]
    rw [crlf_cons, if_pos hc]
    rintro ⟨h13, r', hr⟩
    refine h2 ⟨h13, ?_⟩
    have hlt : p + 1 < l.length := by
      refine Nat.lt_of_not_le fun hle => ?_
      rw [List.drop_eq_nil_of_le hle] at hr; cases hr
    refine ⟨hlt, ?_⟩
    rw [List.drop_eq_getElem_cons hlt] at hr
    rw [getD_arr, List.getElem?_eq_getElem hlt]
    exact (List.cons.inj hr).1
theorem free_seg {l : List Nat} {a p : Nat} (hp : p ≤ l.length) (hn : ∀ q, a ≤ q → q < p → ¬ Eol l.toArray l.length q) : ∀ c ∈ (l.drop a).take (p - a), c ≠ 13 ∧ c ≠ 10 := by
  intro c hc
  obtain ⟨j, hj⟩ := List.getElem?_of_mem hc
  have hlt : j < p - a := by
    have h1 := (List.getElem?_eq_some_iff.mp hj).1
    simp at h1; omega
  rw [List.getElem?_take_of_lt hlt, List.getElem?_drop] at hj
  have := hn (a + j) (by omega) (by omega)
  have e : l.toArray.getD (a + j) 0 = c := by rw [getD_arr, hj]; rfl
  rw [← e]
  exact ⟨fun h => this ⟨by omega, .inl h⟩, fun h => this ⟨by omega, .inr h⟩⟩
theorem drop_split (l : List Nat) {a p : Nat} (h : a ≤ p) : l.drop a = (l.drop a).take (p - a) ++ l.drop p := by
  conv => lhs; rw [← List.take_append_drop (p - a) (l.drop a)]
  rw [List.drop_drop, show a + (p - a) = p from by omega]
theorem crlf_step {l : List Nat} {a p : Nat} (hap : a ≤ p) (h : Eol l.toArray l.length p) (hn : ∀ q, a ≤ q → q < p → ¬ Eol l.toArray l.length q) :
    crlf (l.drop a) = (l.drop a).take (p - a) ++ 13 :: 10 :: crlf (l.drop (eolEnd l.toArray l.length p)) := by
  have e := congrArg crlf (drop_split l hap)
  rw [crlf_free _ _ (free_seg (Nat.le_of_lt h.1) hn), crlf_eol h] at e
  exact e
theorem crlf_end {l : List Nat} {a : Nat} (hn : ∀ q, a ≤ q → ¬ Eol l.toArray l.length q) : crlf (l.drop a) = l.drop a := by
  have h := crlf_free ((l.drop a).take (l.length - a)) [] (free_seg (Nat.le_refl _) (fun q h1 _ => hn q h1))
  rw [List.append_nil, List.take_of_length_le (by simp)] at h
  rw [h]; simp [crlf]
theorem eolEnd_le {l : List Nat} {p : Nat} (h : Eol l.toArray l.length p) : p < eolEnd l.toArray l.length p ∧ eolEnd l.toArray l.length p ≤ l.length := by
  unfold eolEnd
  have := h.1
  split <;> omega
theorem crlf_len (l : List Nat) : (crlf l).length ≤ 2 * l.length := by
  suffices ∀ n l, l.length ≤ n → (crlf l).length ≤ 2 * l.length from this _ l (Nat.le_refl _)
  intro n
  induction n with
  | zero => intro l h; cases l with
    | nil => simp [crlf]
    | cons _ _ => simp at h
  | succ n ih =>
    intro l h
    cases l with
    | nil => simp [crlf]
    | cons c r =>
      by_cases hx : c = 13 ∧ ∃ r', r = 10 :: r'
      · obtain ⟨rfl, r', rfl⟩ := hx
        rw [crlf_two]
        have := ih r' (by simp at h; omega)
        simp only [List.length_cons]; omega
      · rw [crlf_cons hx]
        have := ih r (by simp at h; omega)
        split <;> simp only [List.length_cons] <;> omega

/-- the dots doubled: at a row's head -/
def dots : Bool → List Nat → List Nat
  | _, [] => []
  | true, 46 :: r => 46 :: 46 :: dots false r
  | _, c :: r => c :: dots (c == 10) r
/-- is p a row's head -/
def bol (l : List Nat) (p : Nat) : Bool := p == 0 || l.toArray.getD (p - 1) 0 == 10
theorem dots_cons {b : Bool} {c : Nat} {r : List Nat} (h : ¬ (b = true ∧ c = 46)) : dots b (c :: r) = c :: dots (c == 10) r := by
  cases b with
  | false => rw [dots]; intro h; cases h
  | true => rw [dots]; rintro _ rfl; exact h ⟨rfl, rfl⟩
theorem bol_succ (l : List Nat) (p : Nat) : bol l (p + 1) = (l.toArray.getD p 0 == 10) := by simp [bol]
theorem dots_free (l : List Nat) : ∀ n a p, p - a = n → a ≤ p → p ≤ l.length → (∀ q, a ≤ q → q < p → ¬ Dot l.toArray l.length q) → dots (bol l a) (l.drop a) = (l.drop a).take (p - a) ++ dots (bol l p) (l.drop p) := by
  intro n
  induction n with
  | zero =>
    intro a p h1 h2 h3 _
    have e : a = p := by omega
    subst e; simp
  | succ n ih =>
    intro a p h1 h2 h3 hn
    have hlt : a < l.length := by omega
    have e := arr_at hlt rfl
    have hno := hn a (Nat.le_refl _) (by omega)
    rw [e, dots_cons (b := bol l a) (fun hx => hno ⟨hx.1, hlt, by simpa using hx.2⟩), ← bol_succ, ih (a + 1) p (by omega) (by omega) h3 (fun q q1 q2 => hn q (by omega) q2), show p - a = (p - (a + 1)) + 1 from by omega, List.take_succ_cons, List.cons_append]
theorem dots_step {l : List Nat} {a p : Nat} (hap : a ≤ p) (h : Dot l.toArray l.length p) (hn : ∀ q, a ≤ q → q < p → ¬ Dot l.toArray l.length q) :
    dots (bol l a) (l.drop a) = (l.drop a).take (p - a) ++ 46 :: 46 :: dots (bol l (p + 1)) (l.drop (p + 1)) := by
  obtain ⟨h1, h2, h3⟩ := id h
  rw [dots_free l _ a p rfl hap (Nat.le_of_lt h2) hn, arr_at h2 (by simpa using h3), show bol l p = true from h1, dots, bol_succ]
  have e : l.toArray.getD p 0 = 46 := by simpa using h3
  rw [e]; rfl
theorem dots_end {l : List Nat} {a : Nat} (ha : a ≤ l.length) (hn : ∀ q, a ≤ q → ¬ Dot l.toArray l.length q) : dots (bol l a) (l.drop a) = l.drop a := by
  rw [dots_free l _ a l.length rfl ha (Nat.le_refl _) (fun q q1 _ => hn q q1), List.take_of_length_le (by simp)]
  simp [dots]
theorem dots_len (l : List Nat) : ∀ b, (dots b l).length ≤ 2 * l.length := by
  induction l with
  | nil => intro b; simp [dots]
  | cons c r ih =>
    intro b
    by_cases h : b = true ∧ c = 46
    · obtain ⟨rfl, rfl⟩ := h
      rw [dots]
      have := ih false
      simp only [List.length_cons]; omega
    · rw [dots_cons h]
      have := ih (c == 10)
      simp only [List.length_cons]; omega
end Mine

end
section
open PySem PySem.W PyProof.Rows
set_option maxRecDepth 100000
namespace Mine
open Builtin Builtin.Re
theorem slot_sub : Slot "re.Pattern" "sub" "re.Pattern.sub" :=
  .of (owner := "re.Pattern") (n := "sub") (by rw [typeLookup_type, builtinLookup_eq_fast]; kernel_rfl) (by decide +kernel) (by decide +kernel) (by decide +kernel)
    (by first | exact .inl (by decide +kernel) | exact .inr (by decide +kernel)) (by rw [isSubtype_type]; kernel_rfl)
theorem type_sub : typeOf (.builtin "re.Pattern.sub") = pure (.type "method_descriptor") := by show builtinType _ = _; rw [builtinType_eq_fast]; kernel_rfl
theorem plainAttrs_re : PlainAttrs "re.Pattern" :=
  ⟨⟨"object.__getattribute__", by rw [typeLookup_type, builtinLookup_eq_fast]; kernel_rfl, by decide +kernel⟩, by rw [typeLookup_type, builtinLookup_eq_fast]; kernel_rfl⟩
theorem entry_sub : entryFor table "re.Pattern.sub" = some Builtin.«re.Pattern.sub» := entryFor_of_tree (by kernel_rfl)
theorem entry_loop : entryFor table "re.Pattern.sub.loop" = some Builtin.«re.Pattern.sub.loop» := entryFor_of_tree (by kernel_rfl)
theorem args_sub (a b c : Value) : argsOk "re.Pattern.sub" ⟨[a, b, c], []⟩ := by unfold argsOk; kernel_rfl
theorem plain_loop : plainId "re.Pattern.sub.loop" = true := by decide +kernel
theorem nocall_str : typeLookup (.type "str") "__call__" = pure none := by rw [typeLookup_type, builtinLookup_eq_fast]; kernel_rfl
theorem nocall_bytes : typeLookup (.type "bytes") "__call__" = pure none := by rw [typeLookup_type, builtinLookup_eq_fast]; kernel_rfl
theorem named_sub (a b : Value) : reNamed "re.Pattern.sub" "sub" ["repl", "string", "count"] 2 [a, b] [] = pure [some a, some b, none] := by
  rfl
section
variable {M : Model} {A : Around} {E : Value → Shared → Prop} {s : Shared}
theorem drive_wp {Q : Sre.M → Shared → Prop} : ∀ (turns n : Nat) (m m' : Sre.M), n ≤ 4 * turns → 0 < turns → Ends m n m' → Q m' s → wpAny M A (reDrive turns m) Q E s := by
  intro turns
  induction turns with
  | zero => intro n m m' _ h; omega
  | succ t ih =>
    intro n m m' hn _ he hq
    have e : reDrive (t + 1) m = (if (Sre.M.runFor 4 m).outcome.isSome = true then pure (Sre.M.runFor 4 m) else do rule "sre.turn"; reDrive t (Sre.M.runFor 4 m)) := rfl
    rw [e]
    by_cases ho : (Sre.M.runFor 4 m).outcome.isSome = true
    · rw [if_pos ho]
      obtain ⟨k, hk, e1, e2⟩ := he
      have : Sre.M.runFor 4 m = m' := by
        by_cases hk4 : k ≤ 4
        · have : (4 : Nat) = k + (4 - k) := by omega
          rw [this, runFor_add, e1, runFor_done _ _ e2]
        · have h1 : k = 4 + (k - 4) := by omega
          rw [h1, runFor_add, runFor_done _ _ ho] at e1
          exact e1
      rw [this]; exact wpAny_pure hq
    · rw [if_neg ho]
      obtain ⟨k, hk, e1, e2⟩ := he
      have hk4 : 4 < k := by
        refine Nat.lt_of_not_le fun hk4 => ho ?_
        have : (4 : Nat) = k + (4 - k) := by omega
        rw [this, runFor_add, e1, runFor_done _ _ e2]; exact e2
      refine wpAny_bind (wpAny_rule ?_)
      refine ih (k - 4) _ m' (by omega) (by omega) ⟨k - 4, Nat.le_refl _, ?_, e2⟩ hq
      rw [← runFor_add, show 4 + (k - 4) = k from by omega]; exact e1
theorem run_wp {Q : Option Sre.M → Shared → Prop} {m m' : Sre.M} {n : Nat} (he : Ends m n m') (hn : n ≤ 1000000) (h : (m'.outcome = some .matched ∧ Q (some m') s) ∨ (m'.outcome = some .failed ∧ Q none s)) : wpAny M A (reRunToEnd m) Q E s := by
  unfold reRunToEnd
  refine wpAny_bind (drive_wp (2 ^ 64) n m m' (by omega) (by decide) he ?_)
  refine wpAny_bind (m := forIn (List.range Sre.names.size) PUnit.unit _) ?_
  have loop : ∀ l : List Nat, ∀ {Q' : PUnit → Shared → Prop}, Q' PUnit.unit s → wpAny M A (forIn l PUnit.unit fun i r => if m'.seen.has i = true then (do rule (Sre.names.getD i ""); pure (ForInStep.yield PUnit.unit)) else pure (ForInStep.yield PUnit.unit)) Q' E s := by
    intro l
    induction l with
    | nil => intro Q' hq; exact wpAny_pure hq
    | cons i l ih =>
      intro Q' hq
      rw [List.forIn_cons]
      refine wpAny_bind ?_
      split
      · exact wpAny_bind (wpAny_rule (wpAny_pure (ih hq)))
      · exact wpAny_pure (ih hq)
  refine loop _ ?_
  rcases h with ⟨h1, h2⟩ | ⟨h1, h2⟩
  · rw [h1]; exact wpAny_pure h2
  · rw [h1]; exact wpAny_pure h2

theorem target_str {p c : Addr} {pt fl : Value} {cv : Array Value} {n : Nat} {code : Array Nat} {x : Str} {t : Tok} {Q : ReTarget → Shared → Prop}
    (hp : s.heap.get? p = some { cls := .type "re.Pattern", data := .fields #[pt, fl, .int 0 0, .none, .none, .ref c, .int 0 0] }) (hc : s.heap.get? c = some { cls := .type "tuple", data := .seq cv n }) (hcode : (cv.map reRawOf).map (·.toNat) = code)
    (h : Q { pattern := .ref p, string := .str x t, code := code, text := x.cps, kind := 0, groups := 0, pos := 0, lim := x.cps.size } s) : wpAny M A (reWholeTarget (.ref p) (.str x t)) Q E s := by
  unfold reWholeTarget
  refine wpAny_bind (wpAny_fieldsOf hp rfl ?_)
  refine wpAny_bind (m := reTextOf (.str x t)) (wpAny_of_eq (a := (x.cps, 0)) rfl ?_)
  refine wpAny_bind (m := reNoCollectionInside (.str x t) 0) (wpAny_of_eq (a := ()) rfl ?_)
  refine wpAny_bind (m := reRawItems _) ?_
  show wpAny M A (reRawItems (.ref c)) _ E s
  unfold reRawItems
  refine wpAny_bind (wpAny_seqItems hc rfl (wpAny_pure (wpAny_pure ?_)))
  show Q { pattern := .ref p, string := .str x t, code := (cv.map reRawOf).map (·.toNat), text := x.cps, kind := 0, groups := 0, pos := 0, lim := x.cps.size } s
  rw [hcode]; exact h
theorem text_bytes {b : Array UInt8} {t : Tok} : reTextOf (.bytes b t) = pure (b.map (·.toNat), 1) := by
  unfold reTextOf
  rw [show asStr? (.bytes b t) = pure none from rfl]
  show (Bytes.bufferQuiet? "_sre" (.bytes b t) >>= fun r => _) = _
  rw [KBy.quiet_eq]; rfl
theorem target_bytes {p c : Addr} {pt fl : Value} {cv : Array Value} {n : Nat} {code : Array Nat} {b : Array UInt8} {t : Tok} {Q : ReTarget → Shared → Prop}
    (hp : s.heap.get? p = some { cls := .type "re.Pattern", data := .fields #[pt, fl, .int 0 0, .none, .none, .ref c, .int 1 0] }) (hc : s.heap.get? c = some { cls := .type "tuple", data := .seq cv n }) (hcode : (cv.map reRawOf).map (·.toNat) = code)
    (h : Q { pattern := .ref p, string := .bytes b t, code := code, text := b.map (·.toNat), kind := 1, groups := 0, pos := 0, lim := (b.map (·.toNat)).size } s) : wpAny M A (reWholeTarget (.ref p) (.bytes b t)) Q E s := by
  unfold reWholeTarget
  refine wpAny_bind (wpAny_fieldsOf hp rfl ?_)
  refine wpAny_bind (wpAny_of_eq text_bytes ?_)
  refine wpAny_bind (m := reNoCollectionInside (.bytes b t) 1) (wpAny_of_eq (a := ()) (by unfold reNoCollectionInside; rw [KBy.isInstance_eq]; rfl) ?_)
  refine wpAny_bind (m := reRawItems _) ?_
  show wpAny M A (reRawItems (.ref c)) _ E s
  unfold reRawItems
  refine wpAny_bind (wpAny_seqItems hc rfl (wpAny_pure (wpAny_pure ?_)))
  show Q { pattern := .ref p, string := .bytes b t, code := (cv.map reRawOf).map (·.toNat), text := b.map (·.toNat), kind := 1, groups := 0, pos := 0, lim := (b.map (·.toNat)).size } s
  rw [hcode]; exact h
end
theorem strs_flat : ∀ l : List (Str × Tok), (Str.join (S []) (l.map (·.1))).cps.toList = (l.map fun p => p.1.cps.toList).flatten
  | [] => rfl
  | [p] => by simp [Str.join]
  | p :: q :: r => by
    have ih := strs_flat (q :: r)
    show (p.1 ++ S [] ++ Str.join (S []) ((q :: r).map (·.1))).cps.toList = _
    simp only [Str.cps_append, Array.toList_append, ih]
    simp
theorem join_nil (l : List (Str × Tok)) : Txt.join (S []) (l.map (·.1)) = S (l.map fun p => p.1.cps.toList).flatten := by
  show Builtin.Str.glued (S []) (l.map (·.1)) = _
  rw [StrLaws.glued_eq_join]
  exact str_eq (by rw [strs_flat, S_list])
theorem strValues_push (l : List (Str × Tok)) (x : Str) (t : Tok) : (strValues l).toArray.push (.str x t) = (strValues (l ++ [(x, t)])).toArray := by
  simp [strValues, List.push_toArray]
section
variable {prog : Program} {w : World} {A : Around} {s : Shared}
/-- the facts at the loop's turns -/
structure SubAt (h : Heap) (p c D : Addr) (pt fl kd : Value) (cv : Array Value) (cn : Nat) (its : Array Value) (e : Nat) : Prop where
  pat : h.get? p = some { cls := .type "re.Pattern", data := .fields #[pt, fl, .int 0 0, .none, .none, .ref c, kd] }
  code : h.get? c = some { cls := .type "tuple", data := .seq cv cn }
  lst : h.get? D = some (listOf its e)
theorem SubAt.push {h : Heap} {p c D : Addr} {pt fl kd : Value} {cv : Array Value} {cn : Nat} {its : Array Value} {e : Nat} (x : SubAt h p c D pt fl kd cv cn its e) (v : Value) :
    SubAt (h.update D (Obj.mapSeq (·.push v))) p c D pt fl kd cv cn (its.push v) (e + 1) where
  pat := (Heap.get?_update_ne _ _ _ _ (fun q => by have := x.pat; rw [q, x.lst] at this; simp at this)).trans x.pat
  code := (Heap.get?_update_ne _ _ _ _ (fun q => by have := x.code; rw [q, x.lst] at this; simp at this)).trans x.code
  lst := by
    rw [Heap.get?_update_self _ x.lst (by rfl)]
    simp [Obj.mapSeq]
theorem upd_keeps {h : Heap} {D : Addr} {f : Obj → Obj} : ∀ b o, b ≠ D → h.get? b = some o → (h.update D f).get? b = some o := fun b o hb e => (Heap.get?_update_ne _ _ _ _ hb).trans e
abbrev KeepsBut (D : Addr) (h h' : Heap) : Prop := ∀ b o, b ≠ D → h.get? b = some o → h'.get? b = some o
theorem code_builtin {R : Result → Shared → Prop} {id : String} {args : Args} {b : Builtin} (hp : plainId id = true) (hb : entryFor table id = some b)
    (h : wpAny (model prog w) A.in1 (b args) (fun fin s' => match fin with | .done f => R (.ok f) s' | .again c' => c'.quiet = true ∧ codeAny (model prog w) A c' R s') (fun e s' => R (.error e) s') s) : codeAny (model prog w) A (.builtin id args) R s := by
  refine codeAny_of_tree ?_
  rw [Around.under_plainId hp]
  show wpAny _ _ (match entryFor table id with | some b => b args | none => unsupported ((withoutEnding? id "#data").getD id)) _ _ s
  rw [hb]; exact h
theorem tail_str {R : Result → Shared → Prop} {l : List Nat} {D : Addr} {X1 X2 : Value → Sem Fin} {ps : List (Str × Tok)} {e : Nat} (hD : s.heap.get? D = some (listOf (strValues ps).toArray e)) (hps : ps.length ≤ 5000) (hlen : ∀ q ∈ ps.map (·.1), q.length ≤ 1000)
    (h : ∀ t' tk, R (.ok (.ret (.str (S (ps.map fun p => p.1.cps.toList).flatten) t'))) { s with toks := tk }) :
    wpAny (model prog w) A.in1 (do
      let joiner ← reSlice l.toArray 0 0 0
      let x ← seqItems? (Value.ref D)
      if (x.getD #[]).isEmpty = true then do
          let text ← pure joiner
          if false = true then X1 text else ret text
        else do
          let text ← call (Value.builtin (if (0 == 0) = true then "str.join" else "bytes.join")) [joiner, Value.ref D]
          if false = true then X2 text else ret text)
      (fun fin s' => match fin with | .done f => R (.ok f) s' | .again c' => c'.quiet = true ∧ codeAny (model prog w) A c' R s') (fun e s' => R (.error e) s') s := by
  refine wpAny_bind (m := reSlice l.toArray 0 0 0) ?_
  show wpAny _ _ (mkStr ⟨l.toArray.extract 0 0⟩) _ _ s
  refine wpAny_mkStr ?_ (by show (l.toArray.extract 0 0).size ≤ sizeLine; simp [sizeLine_eq])
  refine wpAny_bind (wpAny_seqItems hD rfl ?_)
  show wpAny _ _ (if (strValues ps).toArray.isEmpty = true then _ else _) _ _ _
  have ej : (⟨l.toArray.extract 0 0⟩ : Str) = S [] := by simp
  by_cases hz : ps = []
  · subst hz
    rw [if_pos (show (strValues []).toArray.isEmpty = true from rfl)]
    refine wpAny_bind (wpAny_pure ?_)
    rw [if_neg Bool.false_ne_true]
    refine wpAny_pure ?_
    rw [ej]
    exact h _ _
  · rw [if_neg (by cases ps with | nil => exact absurd rfl hz | cons _ _ => simp [strValues])]
    rw [if_pos (show ((0 : Nat) == 0) = true from rfl), ej]
    refine wpAny_bind (SC.join (l := ps) ⟨_, hD, rfl, _, rfl⟩ rfl ?_ fun t' k => ?_)
    · unfold JoinOk
      rw [StrLaws.joinTotal]
      have h1 := StrLaws.sumLen_le (B := 1000) _ hlen
      have h2 : (S []).length = 0 := rfl
      rw [h2, Nat.mul_zero, Nat.add_zero]
      rw [List.length_map] at h1
      unfold Builtin.Str.tooLong
      rw [sizeLine_eq]
      have : ¬ (List.map (fun x => x.length) (ps.map (·.1))).sum > 16777216 := by omega
      rw [decide_eq_false this]; rfl
    · rw [if_neg Bool.false_ne_true]
      refine wpAny_pure ?_
      rw [join_nil]
      exact h _ _
theorem loop_str {R : Result → Shared → Prop} {l : List Nat} {u t : Tok} {p c D : Addr} {pt fl : Value} {cv : Array Value} {cn : Nat} (hcode : (cv.map reRawOf).map (·.toNat) = code2) (hl : l.length ≤ 1000) :
    ∀ (n done k e : Nat) (ps : List (Str × Tok)) (s : Shared), l.length - done < n → done ≤ l.length → SubAt s.heap p c D pt fl (.int 0 0) cv cn (strValues ps).toArray e → ps.length ≤ 2 * done → (∀ q ∈ ps.map (·.1), q.length ≤ 1000) →
      (ps.map fun p => p.1.cps.toList).flatten ++ crlf (l.drop done) = crlf l →
      (∀ t' h' tk, KeepsBut D s.heap h' → R (.ok (.ret (.str (S (crlf l)) t'))) { s with heap := h', toks := tk }) →
      codeAny (model prog w) A (.builtin "re.Pattern.sub.loop" ⟨[.ref p, .str (S l) u, .str (S [13, 10]) t, rawInt 0, rawInt 0, rawInt k, rawInt done, rawInt done, .bool false, .ref D, .bool false], []⟩) R s := by
  intro n
  induction n with
  | zero => intro done k e ps s hn; omega
  | succ n ih =>
    intro done k e ps s hn hd hS hps hlen hinv hR
    refine code_builtin plain_loop entry_loop ?_
    unfold Builtin.«re.Pattern.sub.loop»
    dsimp only [rawInt]
    refine wpAny_bind (target_str hS.pat hS.code hcode ?_)
    rw [if_pos (show ((0 : Int) == 0) = true from rfl)]
    refine wpAny_bind (m := reLiteralCannotBeTurned (.str (S [13, 10]) t)) (wpAny_of_eq (a := ()) rfl ?_)
    refine wpAny_bind ?_
    rw [if_neg (by simp), Int.toNat_natCast]
    obtain ⟨m', he, hm⟩ := search2 l.toArray done
    refine run_wp (m := Sre.forSearch code2 l.toArray 0 done l.toArray.size false) he (by decide) ?_
    have hsz : l.toArray.size = l.length := List.size_toArray ..
    have lenOk : ∀ a b, b ≤ l.length → (⟨l.toArray.extract a b⟩ : Str).length ≤ 1000 := fun a b hb => by
      show (l.toArray.extract a b).size ≤ 1000
      simp; omega
    have listOk : ∀ a b, (⟨l.toArray.extract a b⟩ : Str).cps.toList = (l.drop a).take (b - a) := fun a b => by simp [List.extract_eq_drop_take]
    rcases hm with ⟨h1, h2⟩ | ⟨q, h1, h2, h3, h4, h5, h6⟩
    · refine .inr ⟨h1, ?_⟩
      dsimp only
      rw [hsz] at h2
      rw [crlf_end h2] at hinv
      by_cases hlt : done < l.toArray.size
      · rw [if_pos hlt]
        refine wpAny_bind (m := reSlice l.toArray 0 done l.toArray.size) ?_
        show wpAny _ _ (mkStr ⟨l.toArray.extract done l.toArray.size⟩) _ _ s
        refine wpAny_mkStr ?_ (Nat.le_trans (lenOk done l.toArray.size (by omega)) (by rw [sizeLine_eq]; decide))
        refine wpAny_bind (wpAny_updateSeq hS.lst rfl ?_ (by simp [strValues, sizeLine_eq]; omega) (by simp [strValues, sizeLine_eq]; omega))
        have hS' := hS.push (.str ⟨l.toArray.extract done l.toArray.size⟩ s.toks)
        rw [strValues_push] at hS'
        refine tail_str (s := { s with heap := _, toks := _ }) hS'.lst (by simp; omega) ?_ fun t' tk => ?_
        · intro q hq
          simp only [List.map_append, List.mem_append, List.map_cons, List.map_nil, List.mem_singleton] at hq
          rcases hq with hq | hq
          · exact hlen q hq
          · rw [hq]; exact lenOk _ _ (by omega)
        · have e2 : ((ps ++ [((⟨l.toArray.extract done l.toArray.size⟩ : Str), s.toks)]).map fun p => p.1.cps.toList).flatten = crlf l := by
            rw [← hinv]
            simp only [List.map_append, List.flatten_append, List.map_cons, List.map_nil, List.flatten_cons, List.flatten_nil, List.append_nil]
            rw [show (l.toArray.extract done l.toArray.size).toList = (l.drop done).take (l.toArray.size - done) from listOk _ _, List.take_of_length_le (by simp)]
          rw [e2]
          exact hR t' _ tk (fun b o hb e => upd_keeps b o hb e)
      · rw [if_neg hlt]
        refine tail_str hS.lst (by omega) hlen fun t' tk => ?_
        have e2 : (ps.map fun p => p.1.cps.toList).flatten = crlf l := by
          rw [← hinv, List.drop_eq_nil_of_le (by omega), List.append_nil]
        rw [e2]
        exact hR t' _ tk (fun b o hb e => e)
    · refine .inl ⟨h1, ?_⟩
      dsimp only
      rw [hsz] at h3 h5 h6
      have hq := eolEnd_le h5
      rw [h2, h3]
      have hbf : (eolEnd l.toArray l.length q == q) = false := by
        simp; omega
      rw [hbf]
      have e1 := crlf_step h4 h5 h6
      have main : ∀ (ps' : List (Str × Tok)) (e' : Nat) (s' : Shared), SubAt s'.heap p c D pt fl (.int 0 0) cv cn (strValues ps').toArray e' → ps'.length ≤ 2 * done + 1 → (∀ q ∈ ps'.map (·.1), q.length ≤ 1000) →
          (ps'.map fun p => p.1.cps.toList).flatten = (ps.map fun p => p.1.cps.toList).flatten ++ (l.drop done).take (q - done) →
          (∀ t' h' tk, KeepsBut D s'.heap h' → R (.ok (.ret (.str (S (crlf l)) t'))) { s' with heap := h', toks := tk }) →
          wpAny (model prog w) A.in1 (if (((0 : Int) == 0) = true) then do
              let item ← pure (Value.str (S [13, 10]) t)
              if (item != Value.none) = true then do
                updateSeq D fun x => x.push item
                again (Code.builtin "re.Pattern.sub.loop" { pos := [Value.ref p, Value.str (S l) u, Value.str (S [13, 10]) t, Value.int 0 0, Value.int 0 0, Value.int (↑k + 1) 0, Value.int (eolEnd l.toArray l.length q : Nat) 0, Value.int (eolEnd l.toArray l.length q : Nat) 0, Value.bool false, Value.ref D, Value.bool false] })
              else
                again (Code.builtin "re.Pattern.sub.loop" { pos := [Value.ref p, Value.str (S l) u, Value.str (S [13, 10]) t, Value.int 0 0, Value.int 0 0, Value.int (↑k + 1) 0, Value.int (eolEnd l.toArray l.length q : Nat) 0, Value.int (eolEnd l.toArray l.length q : Nat) 0, Value.bool false, Value.ref D, Value.bool false] })
            else unsupported "")
            (fun fin s' => match fin with | .done f => R (.ok f) s' | .again c' => c'.quiet = true ∧ codeAny (model prog w) A c' R s') (fun e s' => R (.error e) s') s' := by
        intro ps' e' s' hS2 hp2 hl2 hf2 hR2
        rw [if_pos (show ((0 : Int) == 0) = true from rfl)]
        refine wpAny_bind (wpAny_pure ?_)
        rw [if_pos (by rfl)]
        refine wpAny_bind (wpAny_updateSeq hS2.lst rfl ?_ (by simp [strValues, sizeLine_eq]; omega) (by simp [strValues, sizeLine_eq]; omega))
        have hS3 := hS2.push (.str (S [13, 10]) t)
        rw [strValues_push] at hS3
        refine wpAny_pure ⟨plainId_quiet plain_loop _, ?_⟩
        refine ih (eolEnd l.toArray l.length q) (k + 1) (e' + 1) (ps' ++ [(S [13, 10], t)]) { s' with heap := _ } (by omega) hq.2 hS3 (by simp; omega) ?_ ?_ fun t' h' tk hk => hR2 t' h' tk fun b o hb e => hk b o hb (upd_keeps b o hb e)
        · intro q hq
          simp only [List.map_append, List.mem_append, List.map_cons, List.map_nil, List.mem_singleton] at hq
          rcases hq with hq | hq
          · exact hl2 q hq
          · rw [hq]; decide
        · rw [List.map_append, List.flatten_append, hf2, ← hinv, e1]
          simp
      by_cases hlt : done < q
      · rw [if_pos hlt]
        refine wpAny_bind (m := reSlice l.toArray 0 done q) ?_
        show wpAny _ _ (mkStr ⟨l.toArray.extract done q⟩) _ _ s
        refine wpAny_mkStr ?_ (Nat.le_trans (lenOk done q (by omega)) (by rw [sizeLine_eq]; decide))
        refine wpAny_bind (wpAny_updateSeq hS.lst rfl ?_ (by simp [strValues, sizeLine_eq]; omega) (by simp [strValues, sizeLine_eq]; omega))
        have hS' := hS.push (.str ⟨l.toArray.extract done q⟩ s.toks)
        rw [strValues_push] at hS'
        refine main (ps ++ [(⟨l.toArray.extract done q⟩, s.toks)]) _ { s with heap := _, toks := _ } hS' (by simp; omega) ?_ ?_ fun t' h' tk hk => hR t' h' tk fun b o hb e => hk b o hb (upd_keeps b o hb e)
        · intro q hq
          simp only [List.map_append, List.mem_append, List.map_cons, List.map_nil, List.mem_singleton] at hq
          rcases hq with hq | hq
          · exact hlen q hq
          · rw [hq]; exact lenOk _ _ (by omega)
        · rw [List.map_append, List.flatten_append]
          simp only [List.map_cons, List.map_nil, List.flatten_cons, List.flatten_nil, List.append_nil]
          rw [show (l.toArray.extract done q).toList = (l.drop done).take (q - done) from listOk _ _]
      · rw [if_neg hlt]
        refine main ps _ s hS (by omega) hlen ?_ hR
        rw [show q - done = 0 from by omega]; simp
theorem sub_str {E : Value → Shared → Prop} {Q : Value → Shared → Prop} {l : List Nat} {u t : Tok} {p c : Addr} {pt fl : Value} {cv : Array Value} {cn : Nat} (hcode : (cv.map reRawOf).map (·.toNat) = code2) (hl : l.length ≤ 1000)
    (hp : s.heap.get? p = some { cls := .type "re.Pattern", data := .fields #[pt, fl, .int 0 0, .none, .none, .ref c, .int 0 0] }) (hc : s.heap.get? c = some { cls := .type "tuple", data := .seq cv cn })
    (h : ∀ t' h' tk, Ext s.heap h' → Q (.str (S (crlf l)) t') { s with heap := h', toks := tk }) :
    wpAny (model prog w) A (call (.builtin "re.Pattern.sub") [.ref p, .str (S [13, 10]) t, .str (S l) u]) Q E s := by
  refine wpAny_call (codeAny_call_builtin slot_sub.plain entry_sub (slot_sub.check _ _ _ _ _ _ _ _ ⟨_, hp, rfl⟩ (args_sub _ _ _) ?_))
  show wpAny _ _ (reSubstitute "re.Pattern.sub" "sub" false _) _ _ s
  unfold reSubstitute
  refine wpAny_bind (wpAny_of_eq (named_sub _ _) ?_)
  refine wpAny_bind (wpAny_pure ?_)
  refine wpAny_bind (wpAny_specialOf (typeIs_str _ _ _) nocall_str ?_)
  simp only [Option.isSome_none, Bool.false_eq_true, if_false]
  refine wpAny_bind (m := asStr? (Value.str (S [13, 10]) t)) (wpAny_of_eq (a := some (S [13, 10])) rfl ?_)
  refine wpAny_bind (wpAny_pure ?_)
  have hc92 : (!(S [13, 10]).cps.contains 92) = true := by simp
  simp only [hc92, if_true]
  refine wpAny_bind (wpAny_pure ?_)
  show wpAny _ _ (do
    let _ ← holding [Value.str (S [13, 10]) t] (reWholeTarget (.ref p) (.str (S l) u))
    let x ← newList []
    again (Code.builtin "re.Pattern.sub.loop" { pos := [Value.ref p, Value.str (S l) u, Value.str (S [13, 10]) t, rawInt 0, rawInt 0, rawInt 0, rawInt 0, rawInt 0, Value.bool false, x, Value.bool false] })) _ _ s
  refine wpAny_bind (wpAny_holding (target_str hp hc hcode ?_))
  refine wpAny_bind (m := newList []) (wpAny_newObj_type ?_ (by show (0 : Nat) ≤ sizeLine; exact Nat.zero_le _))
  refine wpAny_pure ⟨plainId_quiet plain_loop _, ?_⟩
  refine loop_str hcode hl (l.length + 1) 0 0 0 [] { s with heap := _ } (by omega) (by omega) ⟨Heap.get?_push_of_some _ hp, Heap.get?_push_of_some _ hc, Heap.get?_push_size _ rfl⟩ (by simp) (by simp) (by simp) fun t' h' tk hk => ?_
  refine h t' h' tk fun b o e => hk b o (Nat.ne_of_lt (Heap.lt_size e)) (Heap.get?_push_of_some _ e)
end
end Mine

end
section
open PySem PySem.W PyProof.Rows
set_option maxRecDepth 100000
namespace Mine
open Builtin
theorem slot_bjoin : Slot "bytes" "join" "bytes.join" :=
  .of (owner := "bytes") (n := "join") (by rw [typeLookup_type, builtinLookup_eq_fast]; kernel_rfl) (by decide +kernel) (by decide +kernel) (by decide +kernel)
    (by first | exact .inl (by decide +kernel) | exact .inr (by decide +kernel)) (by rw [isSubtype_type]; kernel_rfl)
theorem entry_bjoin : entryFor table "bytes.join" = some Builtin.«bytes.join» := entryFor_of_tree (by kernel_rfl)
theorem args_bjoin (a b : Value) : argsOk "bytes.join" ⟨[a, b], []⟩ := by unfold argsOk; kernel_rfl
abbrev bytesValues (ps : List (Array UInt8 × Tok)) : List Value := ps.map fun p => .bytes p.1 p.2
theorem take_eq {id : String} {b : Array UInt8} {t : Tok} : Bytes.takeBufferQuiet? id (.bytes b t) 0 = pure (some (b, none)) := by
  unfold Bytes.takeBufferQuiet? Bytes.takeBuffer?
  rw [KBy.special_eq KBy.look_buffer, KBy.own_buffer]
  show (Sem.attempt (Bytes.buffer? id (.bytes b t) _ >>= fun r => pure (r.map (·, none)))) >>= _ = _
  rw [show ∀ f, Bytes.buffer? id (.bytes b t) f = pure (some b) from fun f => by
    unfold Bytes.buffer?
    rw [KBy.special_eq KBy.look_buffer, KBy.own_buffer, KBy.own_release]
    rfl]
  rfl
theorem match_no {motive : Array Value → Sort _} (x : Array Value) (h1 : (x : Value) → motive #[x]) (h2 : (x : Array Value) → motive x) (hx : ¬ x.size = 1) : Bytes.joinM.match_1 motive x h1 h2 = h2 x := by
  unfold Bytes.joinM.match_1
  exact dif_neg hx
theorem wp_match_no {α : Type} {M : Model} {A : Around} {E : Value → Shared → Prop} {s : Shared} {x : Array Value} {h1 : Value → Sem α} {h2 : Array Value → Sem α} {Q : α → Shared → Prop} (hx : ¬ x.size = 1) (h : wpAny M A (h2 x) Q E s) : wpAny M A (Bytes.joinM.match_1 (fun _ => Sem α) x h1 h2) Q E s := by
  rw [match_no _ _ _ hx]; exact h
section
variable {prog : Program} {w : World} {A : Around} {s : Shared} {E : Value → Shared → Prop}
theorem take_succ {α : Type} {l : List α} {x : Nat} (h : x < l.length) : l.take (x + 1) = l.take x ++ [l[x]] := by
  rw [List.take_add_one, List.getElem?_eq_getElem h]; rfl
theorem joined_is (ps : List (Array UInt8)) : Bytes.joined #[] ps = (ps.map Array.toList).flatten.toArray := by
  unfold Bytes.joined
  have key : ∀ (ps : List (Array UInt8)) (k : Nat) (acc : Array UInt8), ((ps.zipIdx k).foldl (fun out (x : Array UInt8 × Nat) => (if x.2 > 0 then out ++ #[] else out) ++ x.1) acc) = acc ++ (ps.map Array.toList).flatten.toArray := by
    intro ps
    induction ps with
    | nil => intro k acc; simp
    | cons p r ih =>
      intro k acc
      rw [List.zipIdx_cons, List.foldl_cons, ih]
      apply Array.toList_inj.mp
      simp
  have := key ps 0 #[]
  simpa using this
theorem joinLetGo_wp {M : Model} {A : Around} {Q : Unit → Shared → Prop} {keep : List Value} (h : Q () s) : ∀ ps : List (Array UInt8 × Tok), wpAny M A (Bytes.joinLetGo (ps.map fun p => (Value.bytes p.1 p.2, none)) keep) Q E s
  | [] => wpAny_pure h
  | p :: r => by
    show wpAny M A (letGo [Value.bytes p.1 p.2] _ >>= fun _ => Bytes.joinLetGo (r.map fun p => (Value.bytes p.1 p.2, none)) keep) Q E s
    exact wpAny_bind (wpAny_letGo (joinLetGo_wp h r))
theorem any_heap (ps : List (Array UInt8 × Tok)) : ((ps.map fun p => ((Value.bytes p.1 p.2, none) : Value × Option Value)).any fun x => x.1.onHeap) = false := by
  simp [Value.onHeap]
theorem bjoin {Q : Value → Shared → Prop} {t : Tok} {D : Addr} {ps : List (Array UInt8 × Tok)} {e : Nat} (hD : s.heap.get? D = some (listOf (bytesValues ps).toArray e)) (hsz : (ps.map fun p => p.1.size).sum ≤ 16777216)
    (h : ∀ t' tk, Q (.bytes (ps.map fun p => p.1.toList).flatten.toArray t') { s with toks := tk }) : wpAny (model prog w) A (call (.builtin "bytes.join") [.bytes #[] t, .ref D]) Q E s := by
  refine wpAny_call (codeAny_call_builtin slot_bjoin.plain entry_bjoin (slot_bjoin.check _ _ _ _ _ _ _ _ (typeIs_bytes _ _ _) (args_bjoin _ _) ?_))
  show wpAny _ _ (Bytes.joinM .bytes _) _ _ s
  unfold Bytes.joinM
  refine wpAny_bind (wpAny_of_eq (a := (Value.bytes #[] t, Value.ref D)) rfl ?_)
  show wpAny _ _ (Bytes.joinItems (.ref D) >>= fun seq => _) _ _ s
  refine wpAny_bind ?_
  unfold Bytes.joinItems
  refine wpAny_bind (wpAny_typeOf ⟨_, hD, rfl⟩ ?_)
  rw [if_pos (show (Value.type "list" == Value.type "list" || Value.type "list" == Value.type "tuple") = true from rfl)]
  refine wpAny_pure ?_
  refine wpAny_bind (wpAny_seqItems hD rfl ?_)
  by_cases h1 : ps.length = 1
  · obtain ⟨p, rfl⟩ := List.length_eq_one_iff.mp h1
    show wpAny _ _ (typeOf (Value.bytes p.1 p.2) >>= fun r => _) _ _ s
    refine wpAny_bind (wpAny_typeOf (typeIs_bytes _ _ _) ?_)
    show wpAny _ _ (rule "bytes.join.one-item" >>= fun _ => ret (Value.bytes p.1 p.2) >>= fun r => pure r) _ _ s
    refine wpAny_bind (wpAny_rule (wpAny_bind (wpAny_pure (wpAny_pure ?_))))
    have := h p.2 s.toks
    simpa using this
  · refine wp_match_no (x := (bytesValues ps).toArray) (by simp; exact h1) ?_
    refine wpAny_bind (m := forIn [:(bytesValues ps).toArray.size] (#[], []) _) ?_
    rw [Std.Legacy.Range.forIn_eq_forIn_range']
    refine wpAny_forIn_list _ (fun rest b s' => s' = s ∧ ∃ j, rest = List.range' j (ps.length - j) ∧ j ≤ ps.length ∧ b.1 = ((ps.take j).map (·.1)).toArray ∧ b.2 = (ps.take j).map fun p => (Value.bytes p.1 p.2, none)) _ ?_ ?_ _ _ ⟨rfl, 0, by simp, Nat.zero_le _, rfl, rfl⟩
    · rintro x rest ⟨parts, taken⟩ s' ⟨rfl, j, hr, hj, rfl, rfl⟩
      have hlt : j < ps.length := by
        refine Nat.lt_of_le_of_ne hj fun e => ?_
        rw [e, Nat.sub_self] at hr; cases hr
      rw [show ps.length - j = (ps.length - (j + 1)) + 1 from by omega, List.range'_succ] at hr
      obtain ⟨rfl, rfl⟩ := List.cons.inj hr
      refine wpAny_bind (wpAny_seqItems hD rfl ?_)
      have hx : (bytesValues ps).toArray.getD x Value.none = Value.bytes ps[x].1 ps[x].2 := by
        simp [bytesValues, hlt]
      show wpAny _ _ (if (Bytes.Kind.bytes == Bytes.Kind.bytearray || ((ps.take x).map fun p => ((Value.bytes p.1 p.2, none) : Value × Option Value)).any fun x => x.1.onHeap) = true then _ else _) _ _ _
      rw [if_neg (by rw [any_heap]; decide)]
      refine wpAny_bind (wpAny_holding ?_)
      rw [hx]
      refine wpAny_of_eq take_eq ?_
      refine wpAny_bind (wpAny_seqItems hD rfl ?_)
      show wpAny _ _ (if ((bytesValues ps).toArray.size != (bytesValues ps).toArray.size) = true then _ else _) _ _ _
      rw [if_neg (by simp)]
      refine wpAny_pure ⟨rfl, x + 1, rfl, hlt, ?_, ?_⟩
      · show ((ps.take x).map (·.1)).toArray.push ps[x].1 = ((ps.take (x + 1)).map (·.1)).toArray
        rw [take_succ hlt, List.map_append, List.push_toArray]; rfl
      · show (ps.take x).map _ ++ [(Value.bytes ps[x].1 ps[x].2, none)] = (ps.take (x + 1)).map _
        rw [take_succ hlt, List.map_append]; rfl
    · rintro ⟨parts, taken⟩ s' ⟨rfl, j, hr, hj, rfl, rfl⟩
      have e : j = ps.length := by
        refine Nat.le_antisymm hj (Nat.le_of_not_lt fun hlt => ?_)
        rw [show ps.length - j = (ps.length - (j + 1)) + 1 from by omega, List.range'_succ] at hr
        cases hr
      subst e
      rw [List.take_length]
      refine wpAny_bind (m := Bytes.payload (.bytes #[] t)) (wpAny_of_eq (a := #[]) rfl ?_)
      have hfold : ∀ (l : List (Array UInt8)) (n : Nat), l.foldl (fun a b => a + b.size) n = n + (l.map (·.size)).sum := by
        intro l
        induction l with
        | nil => intro n; simp
        | cons p r ih => intro n; rw [List.foldl_cons, ih]; simp; omega
      have hts : Bytes.tooLong ((ps.map (·.1)).toArray.foldl (fun a b => a + b.size) ((#[] : Array UInt8).size * ((ps.map (·.1)).toArray.size - 1))) = false := by
        unfold Bytes.tooLong
        rw [sizeLine_eq, List.foldl_toArray, hfold]
        refine decide_eq_false ?_
        rw [show (#[] : Array UInt8).size = 0 from rfl, Nat.zero_mul, Nat.zero_add, List.map_map]
        exact Nat.not_lt.mpr hsz
      show wpAny _ _ (if Bytes.tooLong ((ps.map (·.1)).toArray.foldl (fun a b => a + b.size) ((#[] : Array UInt8).size * ((ps.map (·.1)).toArray.size - 1))) = true then _ else _) _ _ _
      rw [if_neg (by rw [hts]; decide)]
      refine wpAny_bind (m := Bytes.Kind.new .bytes (Bytes.joined #[] (ps.map (·.1)).toArray.toList)) ?_
      show wpAny _ _ (mkBytes (Bytes.joined #[] (ps.map (·.1)))) _ _ _
      rw [joined_is]
      refine wpAny_mkBytes ?_ ?_
      · refine wpAny_bind (wpAny_holding (wpAny_point ?_))
        refine wpAny_bind (joinLetGo_wp ?_ ps)
        refine wpAny_pure ?_
        have := h s'.toks (s'.toks + 1)
        rw [List.map_map]
        exact this
      · rw [sizeLine_eq, List.size_toArray, List.length_flatten, List.map_map, List.map_map]
        exact hsz
end
end Mine

end
section
open PySem PySem.W PyProof.Rows
set_option maxRecDepth 100000
namespace Mine
open Builtin Builtin.Re
/-- the bytes of numbers -/
abbrev B (l : List Nat) : Array UInt8 := (l.map Nat.toUInt8).toArray
theorem B_nat {l : List Nat} (h : ∀ c ∈ l, c < 256) : (B l).map (·.toNat) = l.toArray := by
  apply Array.toList_inj.mp
  simp only [Array.toList_map, List.map_map]
  conv => rhs; rw [← List.map_id l]
  refine List.map_congr_left fun c hc => ?_
  show (Nat.toUInt8 c).toNat = c
  simp [Nat.toUInt8, UInt8.toNat_ofNat']
  exact h c hc
theorem B_inj {a b : List Nat} (ha : ∀ c ∈ a, c < 256) (hb : ∀ c ∈ b, c < 256) (h : B a = B b) : a = b := by
  have := congrArg (Array.map (·.toNat)) h
  rw [B_nat ha, B_nat hb] at this
  exact List.toArray_inj this
theorem bytesValues_push (l : List (Array UInt8 × Tok)) (x : Array UInt8) (t : Tok) : (bytesValues l).toArray.push (.bytes x t) = (bytesValues (l ++ [(x, t)])).toArray := by
  simp [bytesValues, List.push_toArray]
theorem sum_le_mul {B : Nat} : ∀ l : List Nat, (∀ q ∈ l, q ≤ B) → l.sum ≤ l.length * B
  | [], _ => by simp
  | a :: r, h => by
    have := sum_le_mul r fun q hq => h q (.tail _ hq)
    have := h a (.head _)
    rw [List.sum_cons, List.length_cons, Nat.add_mul]; omega
section
variable {prog : Program} {w : World} {A : Around} {s : Shared}
theorem tail_bytes {R : Result → Shared → Prop} {l : List Nat} {D : Addr} {X1 X2 : Value → Sem Fin} {ps : List (Array UInt8 × Tok)} {e : Nat} (hD : s.heap.get? D = some (listOf (bytesValues ps).toArray e)) (hps : ps.length ≤ 5000) (hlen : ∀ q ∈ ps.map (·.1.size), q ≤ 1000)
    (h : ∀ t' tk, R (.ok (.ret (.bytes (ps.map fun p => p.1.toList).flatten.toArray t'))) { s with toks := tk }) :
    wpAny (model prog w) A.in1 (do
      let joiner ← reSlice l.toArray 1 0 0
      let x ← seqItems? (Value.ref D)
      if (x.getD #[]).isEmpty = true then do
          let text ← pure joiner
          if false = true then X1 text else ret text
        else do
          let text ← call (Value.builtin (if (1 == 0) = true then "str.join" else "bytes.join")) [joiner, Value.ref D]
          if false = true then X2 text else ret text)
      (fun fin s' => match fin with | .done f => R (.ok f) s' | .again c' => c'.quiet = true ∧ codeAny (model prog w) A c' R s') (fun e s' => R (.error e) s') s := by
  refine wpAny_bind (m := reSlice l.toArray 1 0 0) ?_
  show wpAny _ _ (mkBytes ((l.toArray.extract 0 0).map (·.toUInt8))) _ _ s
  refine wpAny_mkBytes ?_ (by simp [sizeLine_eq])
  refine wpAny_bind (wpAny_seqItems hD rfl ?_)
  show wpAny _ _ (if (bytesValues ps).toArray.isEmpty = true then _ else _) _ _ _
  have ej : (l.toArray.extract 0 0).map (·.toUInt8) = #[] := by simp
  by_cases hz : ps = []
  · subst hz
    rw [if_pos (show (bytesValues []).toArray.isEmpty = true from rfl)]
    refine wpAny_bind (wpAny_pure ?_)
    rw [if_neg Bool.false_ne_true]
    refine wpAny_pure ?_
    rw [ej]
    exact h _ _
  · rw [if_neg (by cases ps with | nil => exact absurd rfl hz | cons _ _ => simp [bytesValues])]
    rw [if_neg (show ¬ ((1 : Nat) == 0) = true from by decide), ej]
    refine wpAny_bind (bjoin hD ?_ fun t' k => ?_)
    · have := sum_le_mul _ hlen
      rw [List.length_map] at this
      omega
    · rw [if_neg Bool.false_ne_true]
      refine wpAny_pure ?_
      exact h _ _
theorem turn_eq (t : Tok) (b : Array UInt8) : reLiteralCannotBeTurned (.bytes b t) = pure () := by
  unfold reLiteralCannotBeTurned
  rw [KBy.isInstance_eq]; rfl
theorem loop_bytes {R : Result → Shared → Prop} {l : List Nat} {u t : Tok} {p c D : Addr} {pt fl : Value} {cv : Array Value} {cn : Nat} (hcode : (cv.map reRawOf).map (·.toNat) = code1) (hb : ∀ c ∈ l, c < 256) (hl : l.length ≤ 1000) :
    ∀ (n done k e : Nat) (ps : List (Array UInt8 × Tok)) (s : Shared), l.length - done < n → done ≤ l.length → SubAt s.heap p c D pt fl (.int 1 0) cv cn (bytesValues ps).toArray e → ps.length ≤ 2 * done → (∀ q ∈ ps.map (·.1.size), q ≤ 1000) →
      (ps.map fun p => p.1.toList).flatten ++ (dots (bol l done) (l.drop done)).map Nat.toUInt8 = (dots true l).map Nat.toUInt8 →
      (∀ t' h' tk, KeepsBut D s.heap h' → R (.ok (.ret (.bytes (B (dots true l)) t'))) { s with heap := h', toks := tk }) →
      codeAny (model prog w) A (.builtin "re.Pattern.sub.loop" ⟨[.ref p, .bytes (B l) u, .bytes (B [46, 46]) t, rawInt 0, rawInt 0, rawInt k, rawInt done, rawInt done, .bool false, .ref D, .bool false], []⟩) R s := by
  intro n
  induction n with
  | zero => intro done k e ps s hn; omega
  | succ n ih =>
    intro done k e ps s hn hd hS hps hlen hinv hR
    refine code_builtin plain_loop entry_loop ?_
    unfold Builtin.«re.Pattern.sub.loop»
    dsimp only [rawInt]
    refine wpAny_bind (target_bytes hS.pat hS.code hcode ?_)
    rw [if_pos (show ((0 : Int) == 0) = true from rfl)]
    refine wpAny_bind (m := reLiteralCannotBeTurned (.bytes (B [46, 46]) t)) (wpAny_of_eq (turn_eq _ _) ?_)
    refine wpAny_bind ?_
    rw [if_neg (by simp), Int.toNat_natCast]
    dsimp only
    rw [B_nat hb]
    obtain ⟨m', he, hm⟩ := search1 l.toArray done
    have hsz : l.toArray.size = l.length := List.size_toArray ..
    refine run_wp (m := Sre.forSearch code1 l.toArray 0 done l.toArray.size false) he (by omega) ?_
    have lenOk : ∀ a b, b ≤ l.length → ((l.toArray.extract a b).map (·.toUInt8)).size ≤ 1000 := fun a b hb => by
      simp; omega
    have listOk : ∀ a b, ((l.toArray.extract a b).map (·.toUInt8)).toList = ((l.drop a).take (b - a)).map Nat.toUInt8 := fun a b => by simp [List.extract_eq_drop_take]
    rcases hm with ⟨h1, h2⟩ | ⟨q, h1, h2, h3, h4, h5, h6⟩
    · refine .inr ⟨h1, ?_⟩
      dsimp only
      rw [hsz] at h2
      rw [dots_end hd h2] at hinv
      by_cases hlt : done < l.toArray.size
      · rw [if_pos hlt]
        refine wpAny_bind (m := reSlice l.toArray 1 done l.toArray.size) ?_
        show wpAny _ _ (mkBytes ((l.toArray.extract done l.toArray.size).map (·.toUInt8))) _ _ s
        refine wpAny_mkBytes ?_ (Nat.le_trans (lenOk done l.toArray.size (by omega)) (by rw [sizeLine_eq]; decide))
        refine wpAny_bind (wpAny_updateSeq hS.lst rfl ?_ (by simp [bytesValues, sizeLine_eq]; omega) (by simp [bytesValues, sizeLine_eq]; omega))
        have hS' := hS.push (.bytes ((l.toArray.extract done l.toArray.size).map (·.toUInt8)) s.toks)
        rw [bytesValues_push] at hS'
        refine tail_bytes (s := { s with heap := _, toks := _ }) hS'.lst (by simp; omega) ?_ fun t' tk => ?_
        · intro q hq
          simp only [List.map_append, List.mem_append, List.map_cons, List.map_nil, List.mem_singleton] at hq
          rcases hq with hq | hq
          · exact hlen q hq
          · rw [hq]; exact lenOk _ _ (by omega)
        · have e2 : ((ps ++ [((l.toArray.extract done l.toArray.size).map (·.toUInt8), s.toks)]).map fun p => p.1.toList).flatten = (dots true l).map Nat.toUInt8 := by
            rw [← hinv]
            rw [List.map_append, List.flatten_append]
            congr 1
            rw [List.map_cons, List.map_nil, List.flatten_cons, List.flatten_nil, List.append_nil]
            rw [listOk, List.take_of_length_le (by simp)]
          rw [e2]
          exact hR t' _ tk (fun b o hb e => upd_keeps b o hb e)
      · rw [if_neg hlt]
        refine tail_bytes hS.lst (by omega) hlen fun t' tk => ?_
        have e2 : (ps.map fun p => p.1.toList).flatten = (dots true l).map Nat.toUInt8 := by
          rw [← hinv, List.drop_eq_nil_of_le (by omega), List.map_nil, List.append_nil]
        rw [e2]
        exact hR t' _ tk (fun b o hb e => e)
    · refine .inl ⟨h1, ?_⟩
      dsimp only
      rw [hsz] at h5 h6
      have hq : q < l.length := h5.2.1
      rw [h2, h3]
      have hbf : (q + 1 == q) = false := by
        simp
      rw [hbf]
      have e1 := dots_step h4 h5 h6
      have main : ∀ (ps' : List (Array UInt8 × Tok)) (e' : Nat) (s' : Shared), SubAt s'.heap p c D pt fl (.int 1 0) cv cn (bytesValues ps').toArray e' → ps'.length ≤ 2 * done + 1 → (∀ q ∈ ps'.map (·.1.size), q ≤ 1000) →
          (ps'.map fun p => p.1.toList).flatten = (ps.map fun p => p.1.toList).flatten ++ ((l.drop done).take (q - done)).map Nat.toUInt8 →
          (∀ t' h' tk, KeepsBut D s'.heap h' → R (.ok (.ret (.bytes (B (dots true l)) t'))) { s' with heap := h', toks := tk }) →
          wpAny (model prog w) A.in1 (if (((0 : Int) == 0) = true) then do
              let item ← pure (Value.bytes (B [46, 46]) t)
              if (item != Value.none) = true then do
                updateSeq D fun x => x.push item
                again (Code.builtin "re.Pattern.sub.loop" { pos := [Value.ref p, Value.bytes (B l) u, Value.bytes (B [46, 46]) t, Value.int 0 0, Value.int 0 0, Value.int (↑k + 1) 0, Value.int (q + 1 : Nat) 0, Value.int (q + 1 : Nat) 0, Value.bool false, Value.ref D, Value.bool false] })
              else
                again (Code.builtin "re.Pattern.sub.loop" { pos := [Value.ref p, Value.bytes (B l) u, Value.bytes (B [46, 46]) t, Value.int 0 0, Value.int 0 0, Value.int (↑k + 1) 0, Value.int (q + 1 : Nat) 0, Value.int (q + 1 : Nat) 0, Value.bool false, Value.ref D, Value.bool false] })
            else unsupported "")
            (fun fin s' => match fin with | .done f => R (.ok f) s' | .again c' => c'.quiet = true ∧ codeAny (model prog w) A c' R s') (fun e s' => R (.error e) s') s' := by
        intro ps' e' s' hS2 hp2 hl2 hf2 hR2
        rw [if_pos (show ((0 : Int) == 0) = true from rfl)]
        refine wpAny_bind (wpAny_pure ?_)
        rw [if_pos (by rfl)]
        refine wpAny_bind (wpAny_updateSeq hS2.lst rfl ?_ (by simp [bytesValues, sizeLine_eq]; omega) (by simp [bytesValues, sizeLine_eq]; omega))
        have hS3 := hS2.push (.bytes (B [46, 46]) t)
        rw [bytesValues_push] at hS3
        refine wpAny_pure ⟨plainId_quiet plain_loop _, ?_⟩
        refine ih (q + 1) (k + 1) (e' + 1) (ps' ++ [(B [46, 46], t)]) { s' with heap := _ } (by omega) hq hS3 (by simp; omega) ?_ ?_ fun t' h' tk hk => hR2 t' h' tk fun b o hb e => hk b o hb (upd_keeps b o hb e)
        · intro q hq
          simp only [List.map_append, List.mem_append, List.map_cons, List.map_nil, List.mem_singleton] at hq
          rcases hq with hq | hq
          · exact hl2 q hq
          · rw [hq]; decide
        · rw [List.map_append, List.flatten_append, hf2, ← hinv, e1]
          simp
      by_cases hlt : done < q
      · rw [if_pos hlt]
        refine wpAny_bind (m := reSlice l.toArray 1 done q) ?_
        show wpAny _ _ (mkBytes ((l.toArray.extract done q).map (·.toUInt8))) _ _ s
        refine wpAny_mkBytes ?_ (Nat.le_trans (lenOk done q (by omega)) (by rw [sizeLine_eq]; decide))
        refine wpAny_bind (wpAny_updateSeq hS.lst rfl ?_ (by simp [bytesValues, sizeLine_eq]; omega) (by simp [bytesValues, sizeLine_eq]; omega))
        have hS' := hS.push (.bytes ((l.toArray.extract done q).map (·.toUInt8)) s.toks)
        rw [bytesValues_push] at hS'
        refine main (ps ++ [((l.toArray.extract done q).map (·.toUInt8), s.toks)]) _ { s with heap := _, toks := _ } hS' (by simp; omega) ?_ ?_ fun t' h' tk hk => hR t' h' tk fun b o hb e => hk b o hb (upd_keeps b o hb e)
        · intro q hq
          simp only [List.map_append, List.mem_append, List.map_cons, List.map_nil, List.mem_singleton] at hq
          rcases hq with hq | hq
          · exact hlen q hq
          · rw [hq]; exact lenOk _ _ (by omega)
        · rw [List.map_append, List.flatten_append]
          congr 1
          rw [List.map_cons, List.map_nil, List.flatten_cons, List.flatten_nil, List.append_nil]
          rw [listOk]
      · rw [if_neg hlt]
        refine main ps _ s hS (by omega) hlen ?_ hR
        rw [show q - done = 0 from by omega]; simp
theorem sub_bytes {E : Value → Shared → Prop} {Q : Value → Shared → Prop} {l : List Nat} {u t : Tok} {p c : Addr} {pt fl : Value} {cv : Array Value} {cn : Nat} (hcode : (cv.map reRawOf).map (·.toNat) = code1) (hb : ∀ c ∈ l, c < 256) (hl : l.length ≤ 1000)
    (hp : s.heap.get? p = some { cls := .type "re.Pattern", data := .fields #[pt, fl, .int 0 0, .none, .none, .ref c, .int 1 0] }) (hc : s.heap.get? c = some { cls := .type "tuple", data := .seq cv cn })
    (h : ∀ t' h' tk, Ext s.heap h' → Q (.bytes (B (dots true l)) t') { s with heap := h', toks := tk }) :
    wpAny (model prog w) A (call (.builtin "re.Pattern.sub") [.ref p, .bytes (B [46, 46]) t, .bytes (B l) u]) Q E s := by
  refine wpAny_call (codeAny_call_builtin slot_sub.plain entry_sub (slot_sub.check _ _ _ _ _ _ _ _ ⟨_, hp, rfl⟩ (args_sub _ _ _) ?_))
  show wpAny _ _ (reSubstitute "re.Pattern.sub" "sub" false _) _ _ s
  unfold reSubstitute
  refine wpAny_bind (wpAny_of_eq (named_sub _ _) ?_)
  refine wpAny_bind (wpAny_pure ?_)
  refine wpAny_bind (wpAny_specialOf (typeIs_bytes _ _ _) nocall_bytes ?_)
  simp only [Option.isSome_none, Bool.false_eq_true, if_false]
  refine wpAny_bind (m := asStr? (Value.bytes (B [46, 46]) t)) (wpAny_of_eq (a := none) rfl ?_)
  refine wpAny_bind (m := Bytes.bufferQuiet? _ (Value.bytes (B [46, 46]) t)) (wpAny_of_eq KBy.quiet_eq ?_)
  refine wpAny_bind (wpAny_pure ?_)
  have hc92 : (!(B [46, 46]).contains 92) = true := by simp [Nat.toUInt8]
  simp only [hc92, if_true]
  refine wpAny_bind (wpAny_pure ?_)
  show wpAny _ _ (do
    let _ ← holding [Value.bytes (B [46, 46]) t] (reWholeTarget (.ref p) (.bytes (B l) u))
    let x ← newList []
    again (Code.builtin "re.Pattern.sub.loop" { pos := [Value.ref p, Value.bytes (B l) u, Value.bytes (B [46, 46]) t, rawInt 0, rawInt 0, rawInt 0, rawInt 0, rawInt 0, Value.bool false, x, Value.bool false] })) _ _ s
  refine wpAny_bind (wpAny_holding (target_bytes hp hc hcode ?_))
  refine wpAny_bind (m := newList []) (wpAny_newObj_type ?_ (by show (0 : Nat) ≤ sizeLine; exact Nat.zero_le _))
  refine wpAny_pure ⟨plainId_quiet plain_loop _, ?_⟩
  refine loop_bytes hcode hb hl (l.length + 1) 0 0 0 [] { s with heap := _ } (by omega) (by omega) ⟨Heap.get?_push_of_some _ hp, Heap.get?_push_of_some _ hc, Heap.get?_push_size _ rfl⟩ (by simp) (by simp) (by simp [bol]) fun t' h' tk hk => ?_
  refine h t' h' tk fun b o e => hk b o (Nat.ne_of_lt (Heap.lt_size e)) (Heap.get?_push_of_some _ e)
end
end Mine

end
section
open PySem PySem.W PyProof.Rows
set_option maxRecDepth 100000
namespace Mine
local macro_rules | `(tactic| walk_at "execs cons") => `(tactic| (k_here; (refine execs_T (by first | assumption | exact Nat.succ_pos _ | (dsimp only; omega)) ?_); intro tk htk; (try dsimp only)))
set_option maxHeartbeats 8000000 in
theorem fix_spec {w : World} {loose : List Str} {mean : ExcName → Option Value} {mg mb : Str → Option Value} {s : Shared} {x : List Nat} {t : Tok} {Q : Value → Shared → Prop} {E : Value → Shared → Prop}
    (X : (hd.heap_39 w.params).In s.heap) (T : Top topProg loose mean mg mb s.heap) (hp : 0 < s.toks) (hx : x.length ≤ 1000)
    (h : ∀ t' h' tk, Ext s.heap h' → Q (.str (S (crlf x)) t') { s with heap := h', toks := tk }) :
    wpAny (model PySem.Challenge.rw_ny0028_01.row.prog w) (Ar 800 4000) (call (.ref 62) [.str (S x) t]) Q E s := by
  w_on
  refine wpAny_call ?_
  revert X; k_fill; intro X
  refine enter (binds := [(Str.ofString "data", .str (S x) t)]) X T (by k_is) (by k_is) (by decide) (BindsTo.of_eq rfl) (locs rfl) ?_ rfl rfl rfl (by decide)
  intro L h₁ hL F N
  dsimp only
  have hr0 := S_len x
  obtain ⟨pt, fl, h48⟩ : ∃ pt fl, s.heap.get? 48 = some { cls := .type "re.Pattern", data := .fields #[pt, fl, .int 0 0, .none, .none, .ref 47, .int 0 0] } := ⟨_, _, X _ _ (by k_is)⟩
  obtain ⟨cv, cn, h47, hcv⟩ : ∃ cv cn, s.heap.get? 47 = some { cls := .type "tuple", data := .seq cv cn } ∧ (cv.map Builtin.Re.reRawOf).map (·.toNat) = code2 := ⟨_, _, X _ _ (by k_is), by simp [code2, Builtin.Re.reRawOf]⟩
  k_steps
  refine getMethod_builtin ⟨_, F.keep _ _ h48, rfl⟩ plainAttrs_re slot_sub type_sub (fun a e => by cases e; exact ⟨_, F.keep _ _ h48, rfl⟩) ?_
  k_steps
  refine sub_str hcv hx (F.keep _ _ h48) (F.keep _ _ h47) fun t' h' tk e => ?_
  k_steps
  dsimp only
  exact h _ _ _ (Ext.trans F.keep e)
set_option maxHeartbeats 8000000 in
theorem quote_spec {w : World} {loose : List Str} {mean : ExcName → Option Value} {mg mb : Str → Option Value} {s : Shared} {x : List Nat} {t : Tok} {Q : Value → Shared → Prop} {E : Value → Shared → Prop}
    (X : (hd.heap_39 w.params).In s.heap) (T : Top topProg loose mean mg mb s.heap) (hp : 0 < s.toks) (hb : ∀ c ∈ x, c < 256) (hx : x.length ≤ 1000)
    (h : ∀ t' h' tk, Ext s.heap h' → Q (.bytes (B (dots true x)) t') { s with heap := h', toks := tk }) :
    wpAny (model PySem.Challenge.rw_ny0028_01.row.prog w) (Ar 800 4000) (call (.ref 55) [.bytes (B x) t]) Q E s := by
  w_on
  refine wpAny_call ?_
  revert X; k_fill; intro X
  refine enter (binds := [(Str.ofString "bindata", .bytes (B x) t)]) X T (by k_is) (by k_is) (by decide) (BindsTo.of_eq rfl) (locs rfl) ?_ rfl rfl rfl (by decide)
  intro L h₁ hL F N
  dsimp only
  obtain ⟨pt, fl, h48⟩ : ∃ pt fl, s.heap.get? 43 = some { cls := .type "re.Pattern", data := .fields #[pt, fl, .int 0 0, .none, .none, .ref 42, .int 1 0] } := ⟨_, _, X _ _ (by k_is)⟩
  obtain ⟨cv, cn, h47, hcv⟩ : ∃ cv cn, s.heap.get? 42 = some { cls := .type "tuple", data := .seq cv cn } ∧ (cv.map Builtin.Re.reRawOf).map (·.toNat) = code1 := ⟨_, _, X _ _ (by k_is), by simp [code1, Builtin.Re.reRawOf]⟩
  k_steps
  refine getMethod_builtin ⟨_, F.keep _ _ h48, rfl⟩ plainAttrs_re slot_sub type_sub (fun a e => by cases e; exact ⟨_, F.keep _ _ h48, rfl⟩) ?_
  k_steps
  refine sub_bytes hcv hb hx (F.keep _ _ h48) (F.keep _ _ h47) fun t' h' tk e => ?_
  k_steps
  dsimp only
  exact h _ _ _ (Ext.trans F.keep e)
theorem fix_N {w : World} {A : Around} {h₀ : Heap} {L : Addr} {m : Str → Option Value} {news : List (Addr × Obj)} {loose : List Str} {mean : ExcName → Option Value} {mg mb : Str → Option Value} {s : Shared} {x : List Nat} {t : Tok} {Q : Value → Shared → Prop} {E : Value → Shared → Prop}
    (F : Fr h₀ L s.heap m) (N : News h₀ L s.heap news) (X : (hd.heap_39 w.params).In h₀) (T : Top topProg loose mean mg mb h₀) (hp : 0 < s.toks) (hx : x.length ≤ 1000) (a1 : A.handled = none) (a2 : A.depth ≤ 800) (a3 : A.units ≤ 4000)
    (h : ∀ (t' : Tok) (h' : Heap) (tk : Nat), 0 < tk → Fr h₀ L h' m → News h₀ L h' news → Q (.str (S (crlf x)) t') { s with heap := h', toks := tk }) :
    wpAny (model PySem.Challenge.rw_ny0028_01.row.prog w) A (call (.ref 62) [.str (S x) t]) Q E s :=
  toks_T hp (weaken (fix_spec (X.keeps F.keep) (T.keeps F.keep) hp hx fun t' h' tk e1 htk => h t' h' tk htk (frExt F e1) (newsExt N e1)) a1 a2 a3)
theorem quote_N {w : World} {A : Around} {h₀ : Heap} {L : Addr} {m : Str → Option Value} {news : List (Addr × Obj)} {loose : List Str} {mean : ExcName → Option Value} {mg mb : Str → Option Value} {s : Shared} {x : List Nat} {t : Tok} {Q : Value → Shared → Prop} {E : Value → Shared → Prop}
    (F : Fr h₀ L s.heap m) (N : News h₀ L s.heap news) (X : (hd.heap_39 w.params).In h₀) (T : Top topProg loose mean mg mb h₀) (hp : 0 < s.toks) (hb : ∀ c ∈ x, c < 256) (hx : x.length ≤ 1000) (a1 : A.handled = none) (a2 : A.depth ≤ 800) (a3 : A.units ≤ 4000)
    (h : ∀ (t' : Tok) (h' : Heap) (tk : Nat), 0 < tk → Fr h₀ L h' m → News h₀ L h' news → Q (.bytes (B (dots true x)) t') { s with heap := h', toks := tk }) :
    wpAny (model PySem.Challenge.rw_ny0028_01.row.prog w) A (call (.ref 55) [.bytes (B x) t]) Q E s :=
  toks_T hp (weaken (quote_spec (X.keeps F.keep) (T.keeps F.keep) hp hb hx fun t' h' tk e1 htk => h t' h' tk htk (frExt F e1) (newsExt N e1)) a1 a2 a3)
end Mine

end
section
open PySem PySem.W PyProof.Rows
set_option maxRecDepth 100000
namespace Mine
open LCg
section
variable {prog : Program} {w : World} {A : Around} {s : Shared} {env : Env} {h₀ : Heap} {L : Addr} {m : Str → Option Value} {E : Value → Shared → Prop}

/-- what a comprehension's element leaves -/
def EltEnd (h₀ : Heap) (L : Addr) (m : Str → Option Value) (s₁ : Shared) (I : Addr) (oI : Obj) (C : Addr) (oC : Obj) (D : Addr) (oD : Obj) (J : Value → List (Addr × Obj) → Prop) (y : Value) (s₂ : Shared) : Prop :=
  ∃ h' tk news', s₂ = { s₁ with heap := h', toks := tk } ∧ Fr h₀ L h' m ∧ News h₀ L h' ((I, oI) :: (C, oC) :: (D, oD) :: news') ∧ Off3 I C D news' ∧ J y news'

/-- the turns of a comprehension, over a walk whose state is its iterator and the base heap -/
theorem comp_turns {elt iter : Expr} {x : Str} {px : Pos} {scope : Scope} {cl : List (Str × Addr)} {pos : Pos} {I : Addr} {fp : List Addr} {n : Nat} {P : Nat → Value → Prop} {St : Nat → Heap → Prop} {news : List (Addr × Obj)} {RR : Value → Addr → Result → Shared → Prop}
    (W : Walks prog w A I fp [I] n P St) (hsz : n ≤ sizeLine) (alive : ∀ i h, St i h → ∃ o, h.get? I = some o)
    (hfp : ∀ b ∈ fp, b < s.heap.objs.size) (J : Nat → List Value → List (Addr × Obj) → Prop)
    (src : ∀ i h h' o ys nw, St i h → h.get? I = some o → h'.get? I = some o → (∀ b o, h₀.get? b = some o → h'.get? b = some o) → News h₀ L h' nw → J i ys nw → St i h')
    (hcell : ∀ y ∈ scope.names, y.2 ≠ .cell) (hkind : scope.kind = .function) (hx : scope.names.lookup x = some .local) (hst : St 0 s.heap) (hp : 0 < s.toks)
    (F : Fr h₀ L s.heap m) (N : News h₀ L s.heap news) (hIL : L ≠ I) (hI₀ : h₀.get? I = none) (off : ∀ p ∈ news, p.1 ≠ I) (h0 : J 0 [] news)
    (turn : ∀ i v I oI C oC D m₂ ys news h tk, i < n → P i v → J i ys news → 0 < tk → NsObj oC m₂ → m₂ x = some v → Fr h₀ L h m → News h₀ L h ((I, oI) :: (C, oC) :: (D, lst ys) :: news) → Off3 I C D news → ((@Ne Nat I C) ∧ (@Ne Nat I D) ∧ (@Ne Nat C D)) →
      wpAny (model prog w) A (eval elt (compEnvC scope cl C env)) (EltEnd h₀ L m { s with heap := h, toks := tk } I oI C oC D (lst ys) (fun y news' => J (i + 1) (ys ++ [y]) news')) (fun _ _ => False) { s with heap := h, toks := tk })
    (done : ∀ D C h tk m' ys news', 0 < tk → Fr h₀ L h m → News h₀ L h ((D, lst ys) :: news') → Off1 D news' → h.Ns C m' → h₀.get? C = none → h₀.get? D = none → C ≠ L → D ≠ L → C ≠ D → (∀ p ∈ news', p.1 ≠ C) → J n ys news' → RR (.ref D) C (.ok .next) { s with heap := h, toks := tk }) :
    wpAny (model prog w) A (newList []) (fun acc s₃ => wpAny (model prog w) A (newFunctionEnv scope env.globals cl [] env.qual none .none (some env)) (fun cenv s₄ =>
      codeAny (model prog w) A (.compStart (.ListComp elt [⟨.Name x px, iter, [], 0⟩] scope pos) 0 (.ref I) acc { cenv with scope := relabel scope env }) (RR acc cenv.locals) s₄) E s₃) E s := by
  refine wpAny_newObj_type (wpAny_newFunctionEnv hcell (by intro y hy; simp at hy) (fun h₁ hns₁ hsb₁ => ?_) hkind)
  dsimp only at hns₁ hsb₁ ⊢
  obtain ⟨D, hD⟩ : ∃ D, D = s.heap.objs.size := ⟨_, rfl⟩
  generalize hH : s.heap.push { cls := .type "list", dict := none, data := .seq ([] : List Value).toArray } = H at hns₁ hsb₁ ⊢
  obtain ⟨C, hC⟩ : ∃ C, C = H.objs.size := ⟨_, rfl⟩
  have eC : C = D + 1 := by rw [hC, hD, ← hH, Heap.size_push]
  rw [← hC] at hns₁ hsb₁ ⊢
  rw [← hD]
  have lowNe : ∀ b, b < D → b ≠ C ∧ b ≠ D := fun b hb => ⟨by rw [eC]; exact Nat.ne_of_lt (Nat.lt_succ_of_lt hb), Nat.ne_of_lt hb⟩
  have hDC : D ≠ C := by rw [eC]; exact Nat.ne_of_lt (Nat.lt_succ_self _)
  have low : ∀ b o, s.heap.get? b = some o → b < D := fun b o e => by rw [hD]; exact Heap.lt_size e
  have up : ∀ b o, s.heap.get? b = some o → h₁.get? b = some o := fun b o e => hsb₁.extBut b o (lowNe b (low b o e)).1 (Heap.get?_push_of_some _ (hH ▸ Heap.get?_push_of_some _ e))
  have atD : h₁.get? D = some (lst []) := hsb₁.extBut _ _ hDC (Heap.get?_push_of_some _ (hH ▸ hD ▸ Heap.get?_push_size _ rfl))
  have noBase : ∀ a, D ≤ a → h₀.get? a = none := fun a ha => by
    cases e : h₀.get? a with
    | none => rfl
    | some o => exact absurd (low a o (F.keep a o e)) (Nat.not_lt.mpr ha)
  have hD₀ := noBase D (Nat.le_refl _)
  have hC₀ := noBase C (by rw [eC]; exact Nat.le_succ _)
  have hLD : L < D := by rw [hD]; exact F.ns.lt
  have hCL : C ≠ L := Ne.symm (lowNe L hLD).1
  have hDL : D ≠ L := Ne.symm (lowNe L hLD).2
  have hIfp : I ∈ fp := W.sub I (List.mem_singleton.mpr rfl)
  have fpNe : ∀ b ∈ fp, b ≠ C ∧ b ≠ D := fun b hb => lowNe b (by rw [hD]; exact hfp b hb)
  obtain ⟨hIC, hID⟩ := fpNe I hIfp
  have hst₁ : St 0 h₁ := W.frame _ _ _ hst fun b _ o e => up b o e
  have off₁ : Off3 I C D news := Off3.of fun p hp => ⟨off p hp, lowNe _ (low _ _ (N p hp).1)⟩
  have loop : ∀ s₃ : Shared, s₃ = { s with heap := h₁, toks := s.toks + ([] : List (Str × Value)).length } →
      codeAny (model prog w) A (.compLoop (.ListComp elt [⟨.Name x px, iter, [], 0⟩] scope pos) 0 (.ref I) (.ref D) (compEnvC scope cl C env)) (RR (.ref D) C) s₃ := by
    rintro s₃ rfl
    refine codeAny_compLoop_tests (fun k s' => ∃ h' tk i ys m' nw, s' = { s with heap := h', toks := tk } ∧ 0 < tk ∧ i ≤ n ∧ k = n + 1 - i ∧ ys.length = i ∧ St i h' ∧ Fr h₀ L h' m ∧ h'.Ns C m' ∧ News h₀ L h' ((D, lst ys) :: nw) ∧ Off3 I C D nw ∧ J i ys nw) ?_ (n + 1)
      ⟨h₁, _, 0, [], _, news, rfl, hp, Nat.zero_le _, rfl, rfl, hst₁, F.keeps up, hns₁, fun p hp => ?_, off₁, h0⟩
    · rintro k s' ⟨h', tk, i, ys, m', nw, rfl, hp', hi, rfl, hyl, st', F', hn', N', off', hJ⟩
      have o3 := off'.mem
      have offI : ∀ p ∈ (D, lst ys) :: nw, p.1 ≠ I := fun p hp => by
        rcases List.mem_cons.mp hp with rfl | hp
        · exact Ne.symm hID
        · exact (o3 p hp).1
      by_cases hlt : i < n
      · refine toks_T hp' (W.item i _ _ _ hlt st' fun v h₂ tk₂ hPv st₂ k₂ => ?_)
        intro hp₂
        refine wpAny_assign_Name (wpAny_storeName_local (lookup_relabel_local hx) (hn'.at' fun o e => k₂ _ o (by simpa using Ne.symm hIC) e) (fun h₃ hn₃ hs₃ => ?_) (by simp [compEnvC, relabel, hkind]))
        refine wpAny_tests_nil ?_
        simp only [if_true]
        have st₃ : St (i + 1) h₃ := W.frame _ _ _ st₂ fun b hb o e => hs₃.extBut b o (fpNe b hb).1 e
        obtain ⟨oI, eI⟩ := alive _ _ st₃
        obtain ⟨oC, eC', hoC⟩ := ns_obj hn₃
        have N₂ := news_but N' k₂ offI
        have N₃ : News h₀ L h₃ ((I, oI) :: (C, oC) :: (D, lst ys) :: nw) := fun p hp => by
          rcases List.mem_cons.mp hp with rfl | hp
          · exact ⟨eI, Ne.symm hIL, hI₀⟩
          rcases List.mem_cons.mp hp with rfl | hp
          · exact ⟨eC', hCL, hC₀⟩
          have z := N₂ p hp
          refine ⟨hs₃.extBut _ _ ?_ z.1, z.2⟩
          rcases List.mem_cons.mp hp with rfl | hp
          · exact hDC
          · exact (o3 p hp).2.1
        refine wpAny_mono (plus_T (s := { s with heap := h₃, toks := tk₂ + 1 }) (Nat.succ_pos _) (turn i v I oI C oC D _ ys nw h₃ (tk₂ + 1) hlt hPv hJ (Nat.succ_pos _) hoC (by simp) ((fr_but F' k₂ hIL hI₀).change hs₃ hCL hC₀) N₃ off' ⟨hIC, hID, Ne.symm hDC⟩)) (fun y s₄ z => ?_) fun _ _ e => e.elim
        obtain ⟨_, hp₄, h₄, tk₄, nw₄, rfl, F₄, N₄, off₄, hJ₄⟩ := z
        have zI := (N₄ (I, oI) (.head _)).1
        have zC := (N₄ (C, oC) (.tail _ (.head _))).1
        have zD := (N₄ (D, lst ys) (.tail _ (.tail _ (.head _)))).1
        have N₄' : News h₀ L h₄ nw₄ := fun p hp => N₄ p (.tail _ (.tail _ (.tail _ hp)))
        have st₄ : St (i + 1) h₄ := src _ _ _ _ _ _ st₃ eI zI F₄.keep N₄' hJ₄
        refine append_at (hsz := by show ys.toArray.size ≤ sizeLine; rw [List.size_toArray, hyl]; exact Nat.le_trans hi hsz) zD fun h₅ hs₅ hD₅ => ?_
        refine ⟨n + 1 - (i + 1), by omega, h₅, tk₄, i + 1, ys ++ [y], _, nw₄, rfl, hp₄, hlt, rfl, by rw [List.length_append, List.length_singleton, hyl], W.frame _ _ _ st₄ fun b hb o e => hs₅.extBut b o (fpNe b hb).2 e, F₄.change hs₅ hDL hD₀,
          (hoC.ns zC).sameBut hs₅ (Ne.symm hDC), fun p hp => ?_, off₄, hJ₄⟩
        rcases List.mem_cons.mp hp with rfl | hp
        · exact ⟨hD₅.trans (congrArg some (lst_snoc ys y)), hDL, hD₀⟩
        · exact ⟨hs₅.extBut _ _ (off₄.mem p hp).2.2 (N₄' p hp).1, (N₄' p hp).2⟩
      · obtain rfl : i = n := Nat.le_antisymm hi (Nat.not_lt.mp hlt)
        refine toks_T hp' (W.done _ _ _ st' fun h₂ tk₂ k₂ => ?_)
        intro hp₂
        exact done D C h₂ tk₂ _ ys nw hp₂ (fr_but F' k₂ hIL hI₀) (news_but N' k₂ offI) off'.one (hn'.at' fun o e => k₂ _ o (by simpa using Ne.symm hIC) e) hC₀ hD₀ hCL hDL (Ne.symm hDC) (fun p hp => (o3 p hp).2.1) hJ
    · rcases List.mem_cons.mp hp with rfl | hp
      · exact ⟨atD, hDL, hD₀⟩
      · exact ⟨up _ _ (N p hp).1, (N p hp).2⟩
  exact codeAny_compStart_list (loop _ rfl) (W.self 0 _ _ _ hst₁ (loop _ rfl))


abbrev CompAt (prog : Program) (w : World) (A : Around) (env : Env) (elt iter : Expr) (x : Str) (px : Pos) (scope : Scope) (cl : List (Str × Addr)) (pos : Pos) (use : Option (Value → Sem Unit)) (Q : Value → Shared → Prop) (E : Value → Shared → Prop) (it : Value) (s₂ : Shared) : Prop :=
  wpAny (model prog w) A (newList []) (fun acc s₃ => wpAny (model prog w) A (newFunctionEnv scope env.globals cl [] env.qual none .none (some env)) (fun cenv s₄ =>
      codeAny (model prog w) A (.compStart (.ListComp elt [⟨.Name x px, iter, [], 0⟩] scope pos) 0 it acc { cenv with scope := relabel scope env }) (compPost (model prog w) A E use Q acc cenv.locals) s₄) E s₃) E s₂

theorem comp_done {Q : Value → Shared → Prop} {J : List Value → List (Addr × Obj) → Prop}
    (done : ∀ D ys news h tk, 0 < tk → Fr h₀ L h m → News h₀ L h ((D, lst ys) :: news) → Off1 D news → J ys news → Q (.ref D) { s with heap := h, toks := tk }) :
    ∀ D C h tk m' ys news', 0 < tk → Fr h₀ L h m → News h₀ L h ((D, lst ys) :: news') → Off1 D news' → h.Ns C m' → h₀.get? C = none → h₀.get? D = none → C ≠ L → D ≠ L → C ≠ D → (∀ p ∈ news', p.1 ≠ C) → J ys news' → compPost (model prog w) A E none Q (.ref D) C (.ok .next) { s with heap := h, toks := tk } := by
  intro D C h tk m' ys news' hp F' N' o1 hn hC₀ hD₀ hCL hDL hCD offC fin
  refine ⟨m', hn, fun h'' hs'' => done D ys news' h'' tk hp (F'.change hs'' hCL hC₀) (fun p hp => ?_) o1 fin⟩
  refine ⟨hs''.extBut _ _ ?_ (N' p hp).1, (N' p hp).2⟩
  rcases List.mem_cons.mp hp with rfl | hp
  · exact Ne.symm hCD
  · exact offC p hp

/-- the same, the list named -/
theorem comp_doneA {Q : Value → Shared → Prop} {J : List Value → List (Addr × Obj) → Prop} {y : Str} {py : Pos} (hLe : env.locals = L) (hy : env.kindOf y = some .local) (hp : (env.scope.kind == .class || (env.scope.kind == .module && env.locals != env.globals)) = false)
    (done : ∀ D ys news h tk, 0 < tk → Fr h₀ L h (fun z => if z = y then some (.ref D) else m z) → News h₀ L h ((D, lst ys) :: news) → Off1 D news → J ys news → Q .none { s with heap := h, toks := tk }) :
    ∀ D C h tk m' ys news', 0 < tk → Fr h₀ L h m → News h₀ L h ((D, lst ys) :: news') → Off1 D news' → h.Ns C m' → h₀.get? C = none → h₀.get? D = none → C ≠ L → D ≠ L → C ≠ D → (∀ p ∈ news', p.1 ≠ C) → J ys news' → compPost (model prog w) A E (some (assign (.Name y py) env)) Q (.ref D) C (.ok .next) { s with heap := h, toks := tk } := by
  subst hLe
  intro D C h' tk m' ys news' hp0 F' N' o1 hn hC₀ hD₀ hCL hDL hCD offC fin
  show wpAny _ A (assign (.Name y py) env (.ref D)) _ _ _
  refine wpAny_assign_Name (wpAny_storeName_local hy F'.ns (fun h₂ hn₂ hs₂ => ?_) hp)
  have hL₀ : h₀.get? env.locals = none := Heap.get?_none_of_le F'.above
  have F₂ : Fr h₀ env.locals h₂ (fun z => if z = y then some (.ref D) else m z) := ⟨hn₂, fun b o e => hs₂.extBut b o (fun q => by rw [q, hL₀] at e; cases e) (F'.keep b o e), F'.above⟩
  refine ⟨m', hn.sameBut hs₂ hCL, fun h'' hs'' => done D ys news' h'' _ (Nat.succ_pos _) (F₂.change hs'' hCL hC₀) (fun p hp => ?_) o1 fin⟩
  have z : h₂.get? p.1 = some p.2 := hs₂.extBut _ _ (N' p hp).2.1 (N' p hp).1
  refine ⟨hs''.extBut _ _ ?_ z, (N' p hp).2⟩
  rcases List.mem_cons.mp hp with rfl | hp
  · exact Ne.symm hCD
  · exact offC p hp

theorem comp_ascii {elt iter : Expr} {y : Str} {px : Pos} {scope : Scope} {cl : List (Str × Addr)} {pos : Pos} {Q : Value → Shared → Prop} {x : Str} {t : Tok} {news₀ : List (Addr × Obj)}
    (J : Nat → List Value → List (Addr × Obj) → Prop) (ha : x.cps.all (· < 128) = true) (hz : x.cps.size ≤ sizeLine) (hh : A.handled = none) (hp : 0 < s.toks) (F : Fr h₀ L s.heap m) (N : News h₀ L s.heap news₀) (h0 : J 0 [] news₀)
    (hcell : ∀ y ∈ scope.names, y.2 ≠ .cell) (hkind : scope.kind = .function) (hx : scope.names.lookup y = some .local)
    (turn : ∀ i c u I oI C oC D m₂ ys news h tk, x.cps[i]? = some c → J i ys news → 0 < tk → NsObj oC m₂ → m₂ y = some (.str ⟨#[c]⟩ u) → Fr h₀ L h m → News h₀ L h ((I, oI) :: (C, oC) :: (D, lst ys) :: news) → Off3 I C D news → ((@Ne Nat I C) ∧ (@Ne Nat I D) ∧ (@Ne Nat C D)) →
      wpAny (model prog w) A (eval elt (compEnvC scope cl C env)) (EltEnd h₀ L m { s with heap := h, toks := tk } I oI C oC D (lst ys) (fun y news' => J (i + 1) (ys ++ [y]) news')) (fun _ _ => False) { s with heap := h, toks := tk })
    (done : ∀ D ys news h tk, 0 < tk → Fr h₀ L h m → News h₀ L h ((D, lst ys) :: news) → Off1 D news → J x.cps.size ys news → Q (.ref D) { s with heap := h, toks := tk }) :
    wpAny (model prog w) A (pyIter (.str x t)) (CompAt prog w A env elt iter y px scope cl pos none Q E) E s := by
  refine wpAny_pyIter_ascii ha ?_
  have hne : ∀ p ∈ news₀, p.1 ≠ s.heap.objs.size := fun p hp => Nat.ne_of_lt (Heap.lt_size (N p hp).1)
  refine comp_turns (J := J) (Walks.strAscii hh s.heap.objs.size x t) hz (fun _ _ ⟨o, ho, _⟩ => ⟨o, ho⟩) (fun b hb => ?_) ?_ hcell hkind hx ⟨_, Heap.get?_push_size _ rfl, rfl, rfl⟩ hp (F.push _) (newsExt N fun _ _ e => Heap.get?_push_of_some _ e) (Nat.ne_of_lt F.ns.lt) (next_is_new F) hne h0 ?_ (comp_done done)
  · rw [List.mem_singleton.mp hb]; show s.heap.objs.size < (s.heap.push _).objs.size; rw [Heap.size_push]; exact Nat.lt_succ_self _
  · rintro i h h' o ys nw ⟨o', ho', r⟩ e e' _ _ _
    rw [e] at ho'; cases ho'
    exact ⟨o, e', r⟩
  · rintro i v I oI C oC D m₂ ys news h tk hi ⟨c, u, hc, rfl⟩ hJ hp' ns hm F' N' off ne
    exact turn i c u I oI C oC D m₂ ys news h tk hc hJ hp' ns hm F' N' off ne

theorem comp_bytes {elt iter : Expr} {y : Str} {px : Pos} {scope : Scope} {cl : List (Str × Addr)} {pos : Pos} {Q : Value → Shared → Prop} {b : Array UInt8} {t : Tok} {news₀ : List (Addr × Obj)}
    (J : Nat → List Value → List (Addr × Obj) → Prop) (hz : b.size ≤ sizeLine) (hh : A.handled = none) (hp : 0 < s.toks) (F : Fr h₀ L s.heap m) (N : News h₀ L s.heap news₀) (h0 : J 0 [] news₀)
    (hcell : ∀ y ∈ scope.names, y.2 ≠ .cell) (hkind : scope.kind = .function) (hx : scope.names.lookup y = some .local)
    (turn : ∀ (i : Nat) (c : UInt8) u I oI C oC D m₂ ys news h tk, b[i]? = some c → J i ys news → 0 < tk → NsObj oC m₂ → m₂ y = some (.int (c.toNat : Int) u) → Fr h₀ L h m → News h₀ L h ((I, oI) :: (C, oC) :: (D, lst ys) :: news) → Off3 I C D news → ((@Ne Nat I C) ∧ (@Ne Nat I D) ∧ (@Ne Nat C D)) →
      wpAny (model prog w) A (eval elt (compEnvC scope cl C env)) (EltEnd h₀ L m { s with heap := h, toks := tk } I oI C oC D (lst ys) (fun y news' => J (i + 1) (ys ++ [y]) news')) (fun _ _ => False) { s with heap := h, toks := tk })
    (done : ∀ D ys news h tk, 0 < tk → Fr h₀ L h m → News h₀ L h ((D, lst ys) :: news) → Off1 D news → J b.size ys news → Q (.ref D) { s with heap := h, toks := tk }) :
    wpAny (model prog w) A (pyIter (.bytes b t)) (CompAt prog w A env elt iter y px scope cl pos none Q E) E s := by
  refine KBw.pyIter_bytes ?_
  have hne : ∀ p ∈ news₀, p.1 ≠ s.heap.objs.size := fun p hp => Nat.ne_of_lt (Heap.lt_size (N p hp).1)
  refine comp_turns (J := J) (KBw.walks hh s.heap.objs.size b t) hz (fun _ _ ⟨o, ho, _⟩ => ⟨o, ho⟩) (fun b hb => ?_) ?_ hcell hkind hx ⟨_, Heap.get?_push_size _ rfl, rfl, rfl⟩ hp (F.push _) (newsExt N fun _ _ e => Heap.get?_push_of_some _ e) (Nat.ne_of_lt F.ns.lt) (next_is_new F) hne h0 ?_ (comp_done done)
  · rw [List.mem_singleton.mp hb]; show s.heap.objs.size < (s.heap.push _).objs.size; rw [Heap.size_push]; exact Nat.lt_succ_self _
  · rintro i h h' o ys nw ⟨o', ho', r⟩ e e' _ _ _
    rw [e] at ho'; cases ho'
    exact ⟨o, e', r⟩
  · rintro i v I oI C oC D m₂ ys news h tk hi ⟨c, u, hc, rfl⟩ hJ hp' ns hm F' N' off ne
    exact turn i c u I oI C oC D m₂ ys news h tk hc hJ hp' ns hm F' N' off ne

theorem comp_list {elt iter : Expr} {y : Str} {px : Pos} {scope : Scope} {cl : List (Str × Addr)} {pos : Pos} {Q : Value → Shared → Prop} {ax : Addr} {its : Array Value} {news₀ : List (Addr × Obj)} {use : Option (Value → Sem Unit)}
    (J : Nat → List Value → List (Addr × Obj) → Prop) (S : SrcAt h₀ ax its news₀) (hS : ∀ i ys nw, J i ys nw → SrcAt h₀ ax its nw) (hz : its.size ≤ sizeLine) (hh : A.handled = none) (hp : 0 < s.toks) (F : Fr h₀ L s.heap m) (N : News h₀ L s.heap news₀) (h0 : J 0 [] news₀)
    (hcell : ∀ y ∈ scope.names, y.2 ≠ .cell) (hkind : scope.kind = .function) (hx : scope.names.lookup y = some .local)
    (turn : ∀ (i : Nat) v I oI C oC D m₂ ys news h tk, its[i]? = some v → J i ys news → 0 < tk → NsObj oC m₂ → m₂ y = some v → Fr h₀ L h m → News h₀ L h ((I, oI) :: (C, oC) :: (D, lst ys) :: news) → Off3 I C D news → ((@Ne Nat I C) ∧ (@Ne Nat I D) ∧ (@Ne Nat C D)) →
      wpAny (model prog w) A (eval elt (compEnvC scope cl C env)) (EltEnd h₀ L m { s with heap := h, toks := tk } I oI C oC D (lst ys) (fun y news' => J (i + 1) (ys ++ [y]) news')) (fun _ _ => False) { s with heap := h, toks := tk })
    (done : ∀ D C h tk m' ys news', 0 < tk → Fr h₀ L h m → News h₀ L h ((D, lst ys) :: news') → Off1 D news' → h.Ns C m' → h₀.get? C = none → h₀.get? D = none → C ≠ L → D ≠ L → C ≠ D → (∀ p ∈ news', p.1 ≠ C) → J its.size ys news' → compPost (model prog w) A E use Q (.ref D) C (.ok .next) { s with heap := h, toks := tk }) :
    wpAny (model prog w) A (pyIter (.ref ax)) (CompAt prog w A env elt iter y px scope cl pos use Q E) E s := by
  have hl := S.list F.keep N
  have hlt : ax < s.heap.objs.size := by obtain ⟨_, e, _⟩ := hl; exact Heap.lt_size e
  refine wpAny_pyIter_list hl ?_
  have hne : ∀ p ∈ news₀, p.1 ≠ s.heap.objs.size := fun p hp => Nat.ne_of_lt (Heap.lt_size (N p hp).1)
  refine comp_turns (J := J) (Walks.list hh s.heap.objs.size ax (Nat.ne_of_lt hlt) its) hz (fun i h st => by obtain ⟨o, e, _⟩ := st.1; exact ⟨o, e⟩) (fun b hb => ?_) ?_ hcell hkind hx ⟨⟨_, Heap.get?_push_size _ rfl, rfl, rfl⟩, hl.push _⟩ hp (F.push _) (newsExt N fun _ _ e => Heap.get?_push_of_some _ e) (Nat.ne_of_lt F.ns.lt) (next_is_new F) hne h0 ?_ done
  · show b < (s.heap.push _).objs.size
    rw [Heap.size_push]
    rcases List.mem_cons.mp hb with rfl | hb
    · exact Nat.lt_succ_self _
    · rw [List.mem_singleton.mp hb]; exact Nat.lt_succ_of_lt hlt
  · intro i h h' o ys nw st e e' k N' hJ
    exact list_st i h h' o nw st e e' k N' (hS _ _ _ hJ)
  · intro i v I oI C oC D m₂ ys news h tk hi hc hJ hp' ns hm F' N' off ne
    exact turn i v I oI C oC D m₂ ys news h tk hc hJ hp' ns hm F' N' off ne
theorem comp_open {elt iter : Expr} {y : Str} {px : Pos} {scope : Scope} {cl : List (Str × Addr)} {pos : Pos} {Q : Value → Shared → Prop} (hclos : closureFor scope env = pure cl) (hkind : scope.kind = .function)
    (hnames : ∀ y ∈ scope.names, y.2 = .local → scope.names.lookup y.1 = some .local)
    (h : wpAny (model prog w) A (eval iter env) (fun xv s₁ => wpAny (model prog w) A (pyIter xv) (CompAt prog w A env elt iter y px scope cl pos none Q E) E s₁) E s)
    (hs : ∀ x, foldedSetIterable iter env x = pure x := by intro _; rfl) :
    wpAny (model prog w) A (eval (.ListComp elt [⟨.Name y px, iter, [], 0⟩] scope pos) env) Q E s := by
  rw [eval_ListComp]
  exact wpAny_comprehension_free (use := none) rfl hs hclos hkind hnames h
theorem comp_openA {elt iter : Expr} {x y : Str} {px py : Pos} {scope : Scope} {cl : List (Str × Addr)} {pos spos : Pos} {Q : Flow → Shared → Prop}
    (hsw : swapsWith (.ListComp elt [⟨.Name x px, iter, [], 0⟩] scope pos) (some (.Name y py)) spos.line env = pure true)
    (hclos : closureFor scope env = pure cl) (hkind : scope.kind = .function) (hnames : ∀ z ∈ scope.names, z.2 = .local → scope.names.lookup z.1 = some .local)
    (h : wpAny (model prog w) A (eval iter env) (fun xv s₁ => wpAny (model prog w) A (pyIter xv) (CompAt prog w A env elt iter x px scope cl pos (some (assign (.Name y py) env)) (fun _ s' => Q .next s') E) E s₁) E s)
    (hs : ∀ x, foldedSetIterable iter env x = pure x := by intro _; rfl) :
    wpAny (model prog w) A (exec (.Assign [.Name y py] (.ListComp elt [⟨.Name x px, iter, [], 0⟩] scope pos) spos) env) Q E s := by
  rw [exec_Assign_Name_used _ _ _ _ hsw]
  refine wpAny_bind (wpAny_standAt (wpAny_bind ?_))
  show wpAny _ A (do let _ ← comprehension (.ListComp elt [⟨.Name x px, iter, [], 0⟩] scope pos) scope env _ (newList []) false (eval iter env) (some (assign (.Name y py) env))) _ _ s
  exact wpAny_bind (wpAny_mono (wpAny_comprehension_free (use := some (assign (.Name y py) env)) (Q := fun _ s' => Q .next s') rfl hs hclos hkind hnames h) (fun _ s' hq => wpAny_pure (wpAny_pure hq)) fun _ _ e => e)
end
end Mine

end
section
open PySem PySem.W PyProof.Rows
set_option maxRecDepth 100000
namespace Mine
theorem crlf_mem : ∀ (n : Nat) (x : List Nat), x.length ≤ n → ∀ c ∈ crlf x, c ∈ x ∨ c = 13 ∨ c = 10 := by
  intro n
  induction n with
  | zero =>
    intro x hx c hc
    cases x with
    | nil => simp [crlf] at hc
    | cons _ _ => simp at hx
  | succ n ih =>
    intro x hx c hc
    cases x with
    | nil => simp [crlf] at hc
    | cons d r =>
      by_cases h : d = 13 ∧ ∃ r', r = 10 :: r'
      · obtain ⟨rfl, r', rfl⟩ := h
        rw [crlf_two] at hc
        rcases List.mem_cons.mp hc with rfl | hc
        · simp
        rcases List.mem_cons.mp hc with rfl | hc
        · simp
        rcases ih r' (by simp at hx; omega) c hc with h | h
        · exact .inl (.tail _ (.tail _ h))
        · exact .inr h
      · rw [crlf_cons h] at hc
        have ih' := ih r (by simp at hx; omega) c
        split at hc
        · rcases List.mem_cons.mp hc with rfl | hc
          · simp
          rcases List.mem_cons.mp hc with rfl | hc
          · simp
          rcases ih' hc with h | h
          · exact .inl (.tail _ h)
          · exact .inr h
        · rcases List.mem_cons.mp hc with rfl | hc
          · simp
          rcases ih' hc with h | h
          · exact .inl (.tail _ h)
          · exact .inr h
theorem dots_mem : ∀ (x : List Nat) (b : Bool), ∀ c ∈ dots b x, c ∈ x ∨ c = 46 := by
  intro x
  induction x with
  | nil => intro b c hc; simp [dots] at hc
  | cons d r ih =>
    intro b c hc
    by_cases h : b = true ∧ d = 46
    · obtain ⟨rfl, rfl⟩ := h
      rw [dots] at hc
      rcases List.mem_cons.mp hc with rfl | hc
      · simp
      rcases List.mem_cons.mp hc with rfl | hc
      · simp
      rcases ih _ _ hc with h | h
      · exact .inl (.tail _ h)
      · exact .inr h
    · rw [dots_cons h] at hc
      rcases List.mem_cons.mp hc with rfl | hc
      · simp
      rcases ih _ _ hc with h | h
      · exact .inl (.tail _ h)
      · exact .inr h
theorem byteArr_B (l : List Nat) : byteArr (l.map fun c : Nat => (c : Int)) = B l := by
  show (List.map _ (List.map _ l)).toArray = _
  rw [List.map_map]; rfl
theorem B_app (a b : List Nat) : B a ++ B b = B (a ++ b) := by
  apply Array.toList_inj.mp; simp
theorem B_size (l : List Nat) : (B l).size = l.length := by simp
theorem picked_B (l : List Nat) (lo hi : Option Int) : KBy.picked (B l) lo hi = B ((l.drop (lo.elim 0 (clipAt l.length))).take (hi.elim l.length (clipAt l.length) - lo.elim 0 (clipAt l.length))) := by
  rw [KBc.picked_eq, B_size]
  apply Array.toList_inj.mp
  simp [List.map_take, List.map_drop]
section
variable {prog : Program} {w : World} {A : Around} {E : Value → Shared → Prop} {s : Shared} {value slice : PySem.Expr} {l : List Nat} {t : Tok} {h₀ : Heap} {L : Addr} {m : PySem.Str → Option Value} {news : List (Addr × Obj)} {lv u : Value} {lo hi : Option Int} {Q : Value → Shared → Prop}
theorem slice_B (hF : Fr h₀ L s.heap m) (hN : News h₀ L s.heap news) (hl : IsPart lv lo) (hu : IsPart u hi) (hz : l.length ≤ 16777216)
    (h : ∀ h' t' k, Fr h₀ L h' m → News h₀ L h' news → Q (.bytes (B ((l.drop (lo.elim 0 (clipAt l.length))).take (hi.elim l.length (clipAt l.length) - lo.elim 0 (clipAt l.length)))) t') { s with heap := h', toks := k })
    (hs : subscripted slice false (.bytes (B l) t) (.ref s.heap.objs.size) = operate [.ref s.heap.objs.size, .bytes (B l) t] (getItem (.bytes (B l) t) (.ref s.heap.objs.size)) := by with_unfolding_all rfl)
    (ht : ∀ r, letTemporaryGo value (.bytes (B l) t) r = pure () := by intro _; with_unfolding_all rfl) :
    wpAny (model prog w) A (subscriptTail value slice (.bytes (B l) t) (.ref s.heap.objs.size)) Q E { s with heap := s.heap.push { cls := .type "slice", data := .fields #[lv, u, .none] } } :=
  KBc.slice_K hF hN rfl hl hu (by rw [KBw.ints_length, B_size]; exact hz) (fun h' t' k F' N' _ => by rw [picked_B]; exact h h' t' k F' N') hs ht
theorem add_B {r : List Nat} {c : Array UInt8} {tr : Tok} (hc : c = B r) (hsz : l.length + r.length ≤ 16777216) (h : ∀ t' k, Q (.bytes (B (l ++ r)) t') { s with toks := k }) : wpAny (model prog w) A (binaryOp .Add (.bytes (B l) t) (.bytes c tr)) Q E s := by
  subst hc
  exact KBy.add_bytes (by rw [B_size, B_size]; exact hsz) fun t' k => by rw [B_app]; exact h t' k
theorem noI_bytes_add : typeLookup (.type "bytes") (dunderI "add") = pure none := by rw [typeLookup_type, builtinLookup_eq_fast]; kernel_rfl
theorem iadd_B {r : List Nat} {c : Array UInt8} {tr : Tok} (hc : c = B r) (hsz : l.length + r.length ≤ 16777216) (h : ∀ t' k, Q (.bytes (B (l ++ r)) t') { s with toks := k }) : wpAny (model prog w) A (inplaceOp .Add (.bytes (B l) t) (.bytes c tr)) Q E s := by
  subst hc
  refine iconcat_gives (typeIs_bytes s _ t) (typeIs_bytes s _ tr) noI_bytes_add KBy.noFill_bytes_add KBy.seq_bytes_add FB.slot_bytes_add FB.entry_bytes_add (FB.args_bytes_add_2 _ _) (KBy.gives_bytes_add (KBy.tooLong_not (by rw [B_size, B_size]; exact hsz))) ?_
  have h2 : ∀ t' k, Q (.bytes (B l ++ B r) t') { s with toks := k } := fun t' k => by rw [B_app]; exact h t' k
  by_cases hb : (B l).isEmpty = true
  · rw [if_pos hb]
    have e : B l = #[] := Array.isEmpty_iff.1 hb
    have h' := h2 tr s.toks
    rw [e, Array.empty_append] at h'
    exact h'
  · rw [if_neg hb]
    by_cases hc : (B r).isEmpty = true
    · rw [if_pos hc]
      have e : B r = #[] := Array.isEmpty_iff.1 hc
      have h' := h2 t s.toks
      rw [e, Array.append_empty] at h'
      exact h'
    · rw [if_neg hc]
      exact ⟨by rw [Array.size_append, B_size, B_size, sizeLine_eq]; exact hsz, h2 s.toks (s.toks + 1)⟩
end
/-- one message's octets -/
def sentL (x : List Nat) : List Nat :=
  let s := dots true (crlf x)
  if s.drop (s.length - 2) = [13, 10] then s else s ++ [13, 10]
def wireL (xs : List (List Nat)) : List Nat := xs.flatMap fun x => sentL x ++ [46, 13, 10]
theorem sent_len (x : List Nat) : (sentL x).length ≤ 4 * x.length + 2 := by
  have h1 := crlf_len x
  have h2 := dots_len (crlf x) true
  unfold sentL
  dsimp only
  split
  · omega
  · simp; omega
theorem wire_len : ∀ xs : List (List Nat), (∀ x ∈ xs, x.length ≤ 150) → (wireL xs).length ≤ 605 * xs.length
  | [], _ => by simp [wireL]
  | x :: r, h => by
    have h1 := wire_len r fun y hy => h y (.tail _ hy)
    have h2 := sent_len x
    have h3 := h x (.head _)
    have e : wireL (x :: r) = sentL x ++ [46, 13, 10] ++ wireL r := rfl
    rw [e]
    simp only [List.length_append, List.length_cons, List.length_nil]
    omega
theorem clip_m2 (n : Nat) : clipAt n (-2) = n - 2 := by
  unfold clipAt
  rw [if_pos (by decide)]
  omega
theorem sent_cond {x : List Nat} (h : ∀ c ∈ dots true (crlf x), c < 256) : ((B (List.take ((dots true (crlf x)).length - clipAt (dots true (crlf x)).length (-2)) (List.drop (clipAt (dots true (crlf x)).length (-2)) (dots true (crlf x))))).toList != (#[13, 10] : Array UInt8).toList) = decide (¬ (dots true (crlf x)).drop ((dots true (crlf x)).length - 2) = [13, 10]) := by
  rw [clip_m2, List.take_of_length_le (by simp)]
  generalize hy : (dots true (crlf x)).drop ((dots true (crlf x)).length - 2) = y
  have hyb : ∀ c ∈ y, c < 256 := fun c hc => h c (by rw [← hy] at hc; exact List.mem_of_mem_drop hc)
  by_cases e : y = [13, 10]
  · rw [e]; decide
  · rw [decide_eq_true e, bne_iff_ne]
    intro h2
    refine e (B_inj hyb (by decide) ?_)
    apply Array.toList_inj.mp
    rw [h2]; decide
theorem sent_no {x : List Nat} (h : ∀ c ∈ dots true (crlf x), c < 256) (hc : ((B (List.take ((dots true (crlf x)).length - clipAt (dots true (crlf x)).length (-2)) (List.drop (clipAt (dots true (crlf x)).length (-2)) (dots true (crlf x))))).toList != (#[13, 10] : Array UInt8).toList) = true) : sentL x = dots true (crlf x) ++ [13, 10] := by
  rw [sent_cond h] at hc
  exact if_neg (of_decide_eq_true hc)
theorem sent_yes {x : List Nat} (h : ∀ c ∈ dots true (crlf x), c < 256) (hc : ((B (List.take ((dots true (crlf x)).length - clipAt (dots true (crlf x)).length (-2)) (List.drop (clipAt (dots true (crlf x)).length (-2)) (dots true (crlf x))))).toList != (#[13, 10] : Array UInt8).toList) = false) : sentL x = dots true (crlf x) := by
  rw [sent_cond h] at hc
  exact if_pos (Decidable.not_not.mp (of_decide_eq_false hc))
theorem wire_snoc {xs : List (List Nat)} {i : Nat} {x y : List Nat} (h : xs[i]? = some x) (hy : sentL x = y) : wireL (xs.take i) ++ (y ++ [46, 13, 10]) = wireL (xs.take (i + 1)) := by
  rw [List.take_add_one, h, ← hy]
  simp [wireL]
local macro_rules | `(tactic| walk_at "execs cons") => `(tactic| (k_here; (refine execs_T (by first | assumption | exact Nat.succ_pos _ | (dsimp only; omega)) ?_); intro tk htk; (try dsimp only)))
local macro_rules | `(tactic| walk_at "exec For") => `(tactic| (k_here; k_dflt (refine wpAny_For ?_)))
local macro_rules | `(tactic| walk_at "exec For Name Name cons nil") => `(tactic| (k_here; k_dflt (refine wpAny_For ?_)))
local macro_rules | `(tactic| walk_at "pyIter ref") => `(tactic| fail)
local macro_rules | `(tactic| walk_at "call type:bytes") => `(tactic| (k_here; k_dflt (refine toks_T (by first | assumption | exact Nat.succ_pos _ | (dsimp only; omega)) (KBa.make_K (by k_asm) (by k_asm) rfl (News.isList (by k_asm) (.head _)) (by assumption) (by assumption) (by rw [List.length_map]; omega) ?_)); intro h5 t5 tk5 F5 N5 _ htk5; rw [byteArr_B]; dsimp only))
local macro_rules | `(tactic| walk_at "subscriptTail") => `(tactic| (k_here; (with_reducible show wpAny _ _ (subscriptTail _ (Expr.Slice _ _ none _) (Value.bytes (B _) _) (Value.ref _)) _ _ _); (with_reducible rename Fr _ _ _ _ => F'); (with_reducible rename News _ _ _ _ => N'); k_dflt (refine slice_B (s := ⟨_, _, _, _, _⟩) F' N' (by constructor) (by constructor) (by omega) ?_); intro _ _ _ _ _; dsimp only [Option.elim]))
local macro_rules | `(tactic| walk_at "binaryOp Add bytes bytes") => `(tactic| (k_here; k_dflt (first | refine add_B (r := [46, 13, 10]) rfl (by simp; omega) ?_ | refine add_B (by rfl) (by simp; omega) ?_); intro _ _))
local macro_rules | `(tactic| walk_at "inplaceOp Add") => `(tactic| (k_here; k_dflt (first | refine iadd_B (r := [13, 10]) rfl (by simp; omega) ?_ | refine iadd_B (by rfl) (by simp; omega) ?_); intro _ _))
local macro_rules | `(tactic| walk_at "inplaceOp Add bytes bytes") => `(tactic| (k_here; k_dflt (first | refine iadd_B (r := [13, 10]) rfl (by simp; omega) ?_ | refine iadd_B (by rfl) (by simp; omega) ?_); intro _ _))
local macro_rules | `(tactic| walk_at "pyIter str") => `(tactic| fail)
local macro_rules | `(tactic| walk_at "eval ListComp") => `(tactic| (k_here; k_dflt (refine comp_open (by with_unfolding_all rfl) (by rfl) (by decide) ?_)))
set_option maxHeartbeats 8000000 in
theorem wire_spec {w : World} {loose : List Str} {mean : ExcName → Option Value} {mg mb : Str → Option Value} {s : Shared} {a : Addr} {an : Nat} {l : List (Str × Tok)} {xs : List (List Nat)} {Q : Value → Shared → Prop} {E : Value → Shared → Prop}
    (X : (hd.heap_39 w.params).In s.heap) (T : Top topProg loose mean mg mb s.heap) (hp : 0 < s.toks) (ha : s.heap.get? a = some (listOf (strValues l).toArray an)) (hl : l.map (·.1) = xs.map S)
    (hb : ∀ x ∈ xs, (∀ c ∈ x, c < 128) ∧ x.length ≤ 150) (hn : xs.length ≤ 1000)
    (h : ∀ t' h' tk, Ext s.heap h' → Q (.bytes (B (wireL xs)) t') { s with heap := h', toks := tk }) :
    wpAny (model PySem.Challenge.rw_ny0028_01.row.prog w) (Ar 700 3000) (call (.ref 137) [.ref a]) Q E s := by
  w_on
  refine wpAny_call ?_
  revert X; k_fill; intro X
  refine enter (binds := [(Str.ofString "texts", .ref a)]) X T (by k_is) (by k_is) (by decide) (BindsTo.of_eq rfl) (locs rfl) ?_ rfl rfl rfl (by decide)
  intro L h₁ hL F N
  dsimp only
  k_steps
  rename Fr _ _ _ _ => F'
  rename News _ _ _ _ => N'
  have hl0 : s.heap.IsList a (strValues l).toArray := ⟨_, ha, rfl, _, rfl⟩
  refine for_list (h₀ := s.heap) (L := L) (fun i m news => news = [] ∧ ∃ t, m (Str.ofString "wire") = some (.bytes (B (wireL (xs.take i))) t)) rfl (by first | assumption | exact Nat.succ_pos _ | omega | (dsimp only; omega)) (hl0.at fun o e => F'.keep _ _ e) F' N' ⟨rfl, _, rfl⟩ go_name ?_ ?_
  · rintro i v m₁ news₁ hq tk it itO hv ⟨rfl, tt, hm1⟩ htk hgr hit F N hne hl1
    have hv' : (strValues l)[i]? = some v := by simpa using hv
    have F2 := fr_set F hm1
    clear F
    obtain ⟨⟨x0, xt⟩, hx0, rfl⟩ : ∃ p, l[i]? = some p ∧ v = .str p.1 p.2 := by
      simp [strValues] at hv'
      obtain ⟨p1, p2, e1, e2⟩ := hv'
      exact ⟨(p1, p2), e1, e2.symm⟩
    obtain ⟨x, hx, rfl⟩ : ∃ x, xs[i]? = some x ∧ x0 = S x := by
      have h1 : (l.map (·.1))[i]? = some x0 := by rw [List.getElem?_map, hx0]; rfl
      rw [hl, List.getElem?_map] at h1
      obtain ⟨x, e1, e2⟩ := Option.map_eq_some_iff.mp h1
      exact ⟨x, e1, e2.symm⟩
    obtain ⟨hb1, hb2⟩ := hb x (List.mem_of_getElem? hx)
    have hw := wire_len (xs.take i) (fun y hy => (hb y (List.mem_of_mem_take hy)).2)
    have hw2 : (xs.take i).length ≤ xs.length := by simp; omega
    have hc1 := crlf_len x
    have hc2 := dots_len (crlf x) true
    have hc3 : ∀ c ∈ crlf x, c < 128 := fun c hc => by
      rcases crlf_mem _ x (Nat.le_refl _) c hc with h | h | h
      · exact hb1 c h
      · omega
      · omega
    have hd3 : ∀ c ∈ dots true (crlf x), c < 256 := fun c hc => by
      rcases dots_mem _ _ c hc with h | h
      · have := hc3 c h; omega
      · omega
    k_steps
    refine fix_N (by k_asm) (by k_asm) X T (by first | assumption | exact Nat.succ_pos _ | (dsimp only; omega)) (by omega) rfl (Nat.le_of_ble_eq_true rfl) (Nat.le_of_ble_eq_true rfl) ?_
    intro t1 h1 tk1 htk1 F3 N3
    refine comp_ascii (fun i ys nw => nw = [(it, itO)] ∧ IntsAre ys (((crlf x).take i).map fun c : Nat => (c : Int))) (by simp; exact hc3) (by simp [sizeLine_eq]; omega) rfl (by first | assumption | exact Nat.succ_pos _ | (dsimp only; omega)) F3 N3 ⟨rfl, .nil⟩ (by decide) (by rfl) (by rfl) ?_ ?_
    · rintro j c u I oI C oC D m₂ ys nw h2 tk2 hcj ⟨rfl, hI⟩ htk2 ns hm2 F4 N4 off ne
      k_steps
      have hcj' : (crlf x)[j]? = some c := by simpa using hcj
      refine ⟨_, _, _, rfl, F4, N4, off, rfl, ?_⟩
      rw [List.take_add_one, hcj', List.map_append]
      exact IntsAre.append hI (.cons _ _ .nil)
    · rintro D ys nw h2 tk2 htk2 F4 N4 off ⟨rfl, hI⟩
      rw [show (S (crlf x)).cps.size = (crlf x).length from by simp, List.take_length] at hI
      dsimp only
      have hIn : KBa.In ((crlf x).map fun c : Nat => (c : Int)) := by
        intro n hn
        obtain ⟨c, hc, rfl⟩ := List.mem_map.mp hn
        have := hc3 c hc
        omega
      k_steps
      refine quote_N (by k_asm) (by k_asm) X T (by first | assumption | exact Nat.succ_pos _ | (dsimp only; omega)) (fun c hc => by have := hc3 c hc; omega) (by omega) rfl (Nat.le_of_ble_eq_true rfl) (Nat.le_of_ble_eq_true rfl) ?_
      intro t6 h6 tk6 htk6 F6 N6
      dsimp only
      k_steps
      all_goals (rename Fr _ _ _ _ => F7; rename News _ _ _ _ => N7)
      · refine ⟨_, _, _, [], rfl, F7, newsSub N7 (by intro p hp; rw [List.mem_singleton.mp hp]; simp), by simp, ⟨rfl, _, congrArg (fun z => some (Value.bytes (B z) _)) (wire_snoc hx ?_)⟩, hl0.at fun o e => F7.keep _ _ e⟩
        exact sent_no hd3 (by assumption)
      · refine ⟨_, _, _, [], rfl, F7, newsSub N7 (by intro p hp; rw [List.mem_singleton.mp hp]; simp), by simp, ⟨rfl, _, congrArg (fun z => some (Value.bytes (B z) _)) (wire_snoc hx ?_)⟩, hl0.at fun o e => F7.keep _ _ e⟩
        exact sent_yes hd3 (by assumption)
  · rintro m₁ news₁ hq tk htk ⟨rfl, tt, hm1⟩ F N
    have F2 := fr_set F hm1
    clear F
    intro _
    dsimp only
    k_steps
    rename Fr _ _ _ _ => F5
    have e : (strValues l).toArray.size = xs.length := by simpa [strValues] using congrArg List.length hl
    rw [e, List.take_length]
    exact h _ _ _ F5.keep
end Mine

end
section
open PySem PySem.W PyProof.Rows
set_option maxRecDepth 100000
namespace Mine
section
variable {w : World} {A : Around} {s : Shared} {K : Frag} {R : Result → Shared → Prop} {prog p : Program} {loose : List Str} {mean : ExcName → Option Value} {mg mb : Str → Option Value}
  {name qual : Str} {params : Arguments} {body : List Stmt} {scope : Scope} {dV kV doc pm cdv ct oc : Value} {an od : Option Addr} {osl : Array (Option Value)} {f : Addr} {args : Args} {binds : List (Str × Value)}
/-- the objects that a call may change, apart from its base -/
def Muts (h₀ h : Heap) (mu : List (Addr × Obj)) : Prop := ∀ p ∈ mu, h.get? p.1 = some p.2 ∧ h₀.get? p.1 = none
structure Base (h₀ h : Heap) : Prop where
  keep : ∀ b o, h₀.get? b = some o → h.get? b = some o
  size : h₀.objs.size ≤ h.objs.size
theorem enterH {h₀ : Heap} {mt : List (Addr × Obj)} (b : Base h₀ s.heap) (mu : Muts h₀ s.heap mt) (X : K.In h₀) (T : Top p loose mean mg mb h₀)
    (ho : K.lookup f = some ⟨oc, od, .func (fnOf name qual params body scope dV kV doc pm an cdv ct), osl⟩) (hcd : codeIn K cdv qual = true) (hroom : A.depth < recursionLimit)
    (hbind : BindsTo s (fnOf name qual params body scope dV kV doc pm an cdv ct) args binds) (hloc : ∀ y ∈ binds, scope.names.lookup y.1 = some .local)
    (h : ∀ L h₁, L = s.heap.objs.size → Fr h₀ L h₁ (fun y => binds.reverse.lookup y) → News h₀ L h₁ mt →
      wpAny (model prog w) (A.deeper (envOf qual scope L f cdv)) (execs body (envOf qual scope L f cdv))
        (fun fl s' => R (.ok (.ret (match fl with | .ret v => v | _ => .none))) s') (fun _ _ => False)
        { s with heap := h₁, toks := s.toks + binds.length })
    (hco : scope.isCoroutine = false) (hgen : scope.isGenerator = false) (hk : scope.kind = .function)
    (hcell : ∀ x ∈ scope.names, x.2 ≠ .cell) : codeAny (model prog w) A (.call (.ref f) args) R s :=
  codeAny_call_def (fd := fnOf name qual params body scope dV kV doc pm an cdv ct) (body := body) (binds := binds) hroom (b.keep _ _ (X _ _ ho)) rfl (T.keeps b.keep).nolimit (codeRec_of (X.keeps b.keep) hcd) rfl hbind hcell hloc
    (fun h₁ hns hk₁ => wpAny_mono (h _ h₁ rfl ⟨hns, fun c o e => hk₁ c o (b.keep c o e), b.size⟩ (fun q hq => ⟨hk₁ _ _ (mu q hq).1, Nat.ne_of_lt (Heap.lt_size (mu q hq).1), (mu q hq).2⟩)) (fun _ _ x => x) (fun _ _ x => x.elim)) hco hgen hk
end
local macro_rules | `(tactic| walk_at "execs cons") => `(tactic| (k_here; (refine execs_T (by first | assumption | exact Nat.succ_pos _ | (dsimp only; omega)) ?_); intro tk htk; (try dsimp only)))
abbrev ent (w : World) (n : String) (t : Tok) (v : Value) : DictEntry := ⟨PyData.keyHash w.params (Str.ofString n), .str (Str.ofString n) t, v⟩
abbrev lexD (w : World) (t1 t2 t3 t4 tl tw : Tok) (line : Int) (fp : Value) (pb : Addr) (more : List DictEntry) (n : Nat) : Obj :=
  dictOf ([ent w "lineno" t1 (.int line tl), ent w "instream" t2 fp, ent w "whitespace" t3 (.str (Str.ofString "\n\t\x0d ") tw), ent w "pushback" t4 (.ref pb)] ++ more) n
set_option maxHeartbeats 8000000 in
theorem init_code {w : World} {A : Around} {loose : List Str} {mean : ExcName → Option Value} {mg mb : Str → Option Value} {s : Shared} {h₀ : Heap} {x dx : Addr} {v : Value} {R : Result → Shared → Prop}
    (b : Base h₀ s.heap) (mu : Muts h₀ s.heap [(x, instObj 100 dx), (dx, dictOf [] 0)]) (hlt : @LT.lt Nat _ dx x) (X : (hd.heap_39 w.params).In h₀) (T : Top topProg loose mean mg mb h₀) (hp : 0 < s.toks) (hroom : A.depth < recursionLimit)
    (h : ∀ (t1 t2 t3 t4 tl tw : Tok) (pb : Addr) (h' : Heap) (tk : Nat), 0 < tk → @LT.lt Nat _ x pb → (∀ b o, h₀.get? b = some o → h'.get? b = some o) → Muts h₀ h' [(pb, listOf #[] 0), (x, instObj 100 dx), (dx, lexD w t1 t2 t3 t4 tl tw 1 v pb [] 4)] → R (.ok (.ret .none)) { s with heap := h', toks := tk }) :
    codeAny (model PySem.Challenge.rw_ny0028_01.row.prog w) A (.call (.ref 76) ⟨[.ref x, v], []⟩) R s := by
  w_on
  revert X; k_fill; intro X
  refine enterH (binds := [(Str.ofString "self", .ref x), (Str.ofString "fp", v)]) b mu X T (by k_is) (by k_is) hroom (BindsTo.of_eq rfl) (locs rfl) ?_ rfl rfl rfl (by decide)
  intro L h₁ hL F N
  try dsimp only
  k_steps
  rename Fr _ _ _ _ => F'
  rename News _ _ _ _ => N'
  exact h _ _ _ _ _ _ _ _ _ (by assumption) (by omega) F'.keep fun p hp => ⟨(N' p hp).1, (N' p hp).2.2⟩
theorem lex_new {w : World} {A : Around} {E : Value → Shared → Prop} {loose : List Str} {mean : ExcName → Option Value} {mg mb : Str → Option Value} {s : Shared} {v : Value} {Q : Value → Shared → Prop}
    (X : (hd.heap_39 w.params).In s.heap) (T : Top topProg loose mean mg mb s.heap) (hp : 0 < s.toks) (hroom : A.depth + 10 < recursionLimit)
    (h : ∀ (t1 t2 t3 t4 tl tw : Tok) (x dx pb : Addr) (h' : Heap) (tk : Nat), 0 < tk → s.heap.objs.size ≤ dx → (@LT.lt Nat _ dx x ∧ @LT.lt Nat _ x pb) → Ext s.heap h' → Muts s.heap h' [(pb, listOf #[] 0), (x, instObj 100 dx), (dx, lexD w t1 t2 t3 t4 tl tw 1 v pb [] 4)] → Q (.ref x) { s with heap := h', toks := tk }) :
    wpAny (model PySem.Challenge.rw_ny0028_01.row.prog w) A (call (.ref 100) [v]) Q E s := by
  w_on
  refine wpAny_call ?_
  revert X; k_fill; intro X
  obtain ⟨hh, g, d, t, os⟩ := s
  refine make_core (makes_of X (by k_is)) (looks_findIn X (by k_is)) (fun self => bind_fn X self (by k_is)) (.inl rfl) ?_
  have sz1 := size_push hh emptyDict
  have sz2 := size_push (hh.push emptyDict) (instObj 100 hh.objs.size)
  refine init_code (h₀ := hh) ⟨fun c o e => Heap.get?_push_of_some _ (Heap.get?_push_of_some _ e), by show hh.objs.size ≤ ((hh.push emptyDict).push _).objs.size; omega⟩ ?_ (Nat.lt_succ_self _) X T hp ?_ ?_
  · intro p hp
    rcases List.mem_cons.mp hp with rfl | hp
    · refine ⟨?_, none_of_size (Nat.le_succ _)⟩
      have := Heap.get?_push_size (hh.push emptyDict) (o := instObj 100 hh.objs.size) rfl
      rw [sz1] at this; exact this
    · rw [List.mem_singleton.mp hp]
      exact ⟨Heap.get?_push_of_some _ (Heap.get?_push_size _ rfl), none_of_size (Nat.le_refl _)⟩
  · show A.depth + 1 < recursionLimit
    omega
  · intro t1 t2 t3 t4 tl tw pb h' tk htk hlt hk mu
    exact ⟨rfl, h t1 t2 t3 t4 tl tw _ _ pb h' tk htk (Nat.le_refl _) ⟨Nat.lt_succ_self _, hlt⟩ hk mu⟩
end Mine

end
section
open PySem PySem.W PyProof.Rows
set_option maxRecDepth 100000
namespace Mine
section
variable {prog : Program} {w : World} {A : Around} {E : Value → Shared → Prop} {s : Shared}
theorem tupHas_bytes {t : Addr} {a b x : Array UInt8} {ta tb u : Tok} {P : Fin → Shared → Prop} (ht : IsTup s.heap t #[.bytes a ta, .bytes b tb])
    (h : P (.done (.ret (.bool (decide (a.toList = x.toList) || decide (b.toList = x.toList))))) s) : wpAny (model prog w) A (Builtin.«tuple.__contains__» ⟨[.ref t, .bytes x u], []⟩) P E s := by
  show wpAny _ _ (Builtin.Tuple.tupleItemsOf (.ref t) >>= _) _ _ s
  refine wpAny_bind (tupleItemsOf_ ht ?_)
  rw [← Array.forIn_toList]
  show wpAny _ _ ((forIn [Value.bytes a ta, Value.bytes b tb] _ _) >>= _) _ _ s
  rw [List.forIn_cons]
  refine wpAny_bind (wpAny_bind (wpAny_bind (eqBool_bytes ?_)))
  by_cases ha : a.toList = x.toList
  · rw [decide_eq_true ha] at h ⊢
    exact wpAny_bind (wpAny_pure (wpAny_pure (wpAny_pure (wpAny_pure (by simpa using h)))))
  · rw [decide_eq_false ha] at h ⊢
    refine wpAny_pure ?_
    show wpAny _ _ (forIn [Value.bytes b tb] _ _) _ _ s
    rw [List.forIn_cons]
    refine wpAny_bind (wpAny_bind (eqBool_bytes ?_))
    by_cases hb : b.toList = x.toList
    · rw [decide_eq_true hb] at h ⊢
      exact wpAny_bind (wpAny_pure (wpAny_pure (wpAny_pure (wpAny_pure (by simpa using h)))))
    · rw [decide_eq_false hb] at h ⊢
      exact wpAny_pure (wpAny_pure (wpAny_pure (by simpa using h)))
theorem in_two {t : Addr} {a b x : Array UInt8} {ta tb u : Tok} {Q : Value → Shared → Prop} (ht : IsTup s.heap t #[.bytes a ta, .bytes b tb])
    (h : Q (.bool (decide (a.toList = x.toList) || decide (b.toList = x.toList))) s) : wpAny (model prog w) A (compareOp .In (.bytes x u) (.ref t)) Q E s := by
  show wpAny _ _ (do return .bool (← contains (.ref t) (.bytes x u))) Q E s
  refine wpAny_bind ?_
  unfold contains
  refine wpAny_holding ?_
  refine wpAny_bind (wpAny_specialOf ht.typeIs slot_tuple_contains.lookup ?_)
  rw [if_neg (by decide)]
  exact wpAny_bind (wpAny_callSpecialUnlessNone?_slot (name := Str.ofString "__contains__") ht.typeIs slot_tuple_contains
    (wpAny_call_entry slot_tuple_contains ht.typeIs entry_tuple_contains (tupHas_bytes ht ⟨_, rfl, wpAny_truthy_bool (wpAny_pure h)⟩) (args_tuple_contains _ _)))
end
end Mine

end
section
open PySem PySem.W PyProof.Rows
set_option maxRecDepth 100000
namespace Mine
section
variable {w : World} {A : Around} {s : Shared} {K : Frag} {R : Result → Shared → Prop} {prog p : Program} {loose : List Str} {mean : ExcName → Option Value} {mg mb : Str → Option Value}
  {name qual : Str} {params : Arguments} {body : List Stmt} {scope : Scope} {dV kV doc pm cdv ct oc : Value} {an od : Option Addr} {osl : Array (Option Value)} {f : Addr} {args : Args} {binds : List (Str × Value)}
theorem enterC {h₀ : Heap} {mt : List (Addr × Obj)} (b : Base h₀ s.heap) (mu : Muts h₀ s.heap mt) (X : K.In h₀) (T : Top p loose mean mg mb h₀)
    (ho : K.lookup f = some ⟨oc, od, .func (fnOf name qual params body scope dV kV doc pm an cdv ct), osl⟩) (hcd : codeIn K cdv qual = true) (hroom : A.depth < recursionLimit)
    (hbind : BindsTo s (fnOf name qual params body scope dV kV doc pm an cdv ct) args binds) (hkind : (binds.all fun y => scope.names.lookup y.1 == some .local || scope.names.lookup y.1 == some .cell) = true)
    (hnd : ((cellsFrom 0 scope.names []).map (·.1)).Nodup)
    (h : ∀ L h₁ tk cells, L = s.heap.objs.size → Fr h₀ L h₁ (bindL (envOfC qual scope L f cdv).kindOf binds fun _ => none) → News h₀ L h₁ (cells ++ mt) →
      CellsAre (bindC (envOfC qual scope L f cdv).kindOf binds fun _ => none) (cellsFrom (L + 1) scope.names []) cells → (∀ p ∈ mt, p.1 < L) → s.toks ≤ tk →
      wpAny (model prog w) (A.deeper (envOfC qual scope L f cdv)) (execs body (envOfC qual scope L f cdv))
        (fun fl s' => R (.ok (.ret (match fl with | .ret v => v | _ => .none))) s') (fun _ _ => False)
        { s with heap := h₁, toks := tk })
    (hco : scope.isCoroutine = false) (hgen : scope.isGenerator = false) (hk : scope.kind = .function) : codeAny (model prog w) A (.call (.ref f) args) R s := by
  refine codeAny_call_function hroom (b.keep _ _ (X _ _ ho)) rfl hco hgen rfl (codeRec_of (X.keeps b.keep) hcd) (hbind _ _ _ _ ?_)
  refine grown (wpAny_newFunctionEnv_cells hk (kindsX hkind _) fun env' he s' x => ?_)
  intro hg
  subst he
  refine ⟨(T.keeps b.keep).nolimit.keeps x.toInCall.keep, codeAny_func ?_⟩
  obtain ⟨h₁, tk, rfl, _⟩ := x.done
  have hk₁ := x.toInCall.keep
  obtain ⟨cells, NC, Y⟩ := Cl.news (h₀ := s.heap) (Nat.le_refl _) fun n c hm => ⟨x.cell n c (lookup_of_mem_nodup (cellsFrom_names scope.names 0 (s.heap.objs.size + 1) [] [] rfl ▸ hnd) hm), x.above n c hm⟩
  refine wpAny_mono (h s.heap.objs.size h₁ tk cells rfl ⟨x.toInCall.ns, fun c o e => hk₁ c o (b.keep c o e), b.size⟩ (fun p hp => ?_) Y (fun p hp => Heap.lt_size (mu p hp).1) hg.1) (fun fl s' hl => hl) fun _ _ y => y.elim
  rcases List.mem_append.mp hp with hp | hp
  · refine ⟨(NC p hp).1, (NC p hp).2.1, ?_⟩
    cases q : h₀.get? p.1 with
    | none => rfl
    | some o => have := b.keep _ _ q; rw [(NC p hp).2.2] at this; cases this
  · exact ⟨hk₁ _ _ (mu p hp).1, Nat.ne_of_lt (Heap.lt_size (mu p hp).1), (mu p hp).2⟩
theorem enterX {h₀ : Heap} {mt : List (Addr × Obj)} {cl : List (Str × Addr)} {c' : Addr} {ctv : Value} (b : Base h₀ s.heap) (mu : Muts h₀ s.heap mt) (T : Top p loose mean mg mb h₀)
    (ho : s.heap.get? f = some (fnMade name qual params body scope cl doc pm c' ctv)) (hcd : s.heap.CodeRec (.ref c') qual) (hroom : A.depth < recursionLimit)
    (hbind : BindsTo s (fnX name qual params body scope cl .none .none doc pm none (.ref c') ctv) args binds) (hloc : ∀ y ∈ binds, scope.names.lookup y.1 = some .local)
    (h : ∀ L h₁, L = s.heap.objs.size → Fr h₀ L h₁ (fun y => binds.reverse.lookup y) → News h₀ L h₁ mt →
      wpAny (model prog w) (A.deeper (envX qual scope L f (.ref c') cl)) (execs body (envX qual scope L f (.ref c') cl))
        (fun fl s' => R (.ok (.ret (match fl with | .ret v => v | _ => .none))) s') (fun _ _ => False)
        { s with heap := h₁, toks := s.toks + binds.length })
    (hco : scope.isCoroutine = false) (hgen : scope.isGenerator = false) (hk : scope.kind = .function)
    (hcell : ∀ x ∈ scope.names, x.2 ≠ .cell) : codeAny (model prog w) A (.call (.ref f) args) R s :=
  codeAny_call_def (fd := fnX name qual params body scope cl .none .none doc pm none (.ref c') ctv) (body := body) (binds := binds) hroom ho rfl (T.keeps b.keep).nolimit hcd rfl hbind hcell hloc
    (fun h₁ hns hk₁ => wpAny_mono (h _ h₁ rfl ⟨hns, fun c o e => hk₁ c o (b.keep c o e), b.size⟩ (fun q hq => ⟨hk₁ _ _ (mu q hq).1, Nat.ne_of_lt (Heap.lt_size (mu q hq).1), (mu q hq).2⟩)) (fun _ _ x => x) (fun _ _ x => x.elim)) hco hgen hk
end
local macro_rules | `(tactic| walk_at "execs cons") => `(tactic| (k_here; (refine execs_T (by first | assumption | exact Nat.succ_pos _ | (dsimp only; omega)) ?_); intro tk htk; (try dsimp only)))
theorem lexNew_N {w : World} {A : Around} {h₀ : Heap} {L : Addr} {m : Str → Option Value} {news : List (Addr × Obj)} {loose : List Str} {mean : ExcName → Option Value} {mg mb : Str → Option Value} {s : Shared} {v : Value} {Q : Value → Shared → Prop} {E : Value → Shared → Prop}
    (F : Fr h₀ L s.heap m) (N : News h₀ L s.heap news) (X : (hd.heap_39 w.params).In h₀) (T : Top topProg loose mean mg mb h₀) (hp : 0 < s.toks) (hroom : A.depth + 10 < recursionLimit)
    (h : ∀ (t1 t2 t3 t4 tl tw : Tok) (x dx pb : Addr) (h' : Heap) (tk : Nat), 0 < tk → Fr h₀ L h' m → News h₀ L h' ((pb, listOf #[] 0) :: (x, instObj 100 dx) :: (dx, lexD w t1 t2 t3 t4 tl tw 1 v pb [] 4) :: news) → (∀ p ∈ news, p.1 < dx) → @LT.lt Nat _ dx x ∧ @LT.lt Nat _ x pb → Q (.ref x) { s with heap := h', toks := tk }) :
    wpAny (model PySem.Challenge.rw_ny0028_01.row.prog w) A (call (.ref 100) [v]) Q E s := by
  refine lex_new (X.keeps F.keep) (T.keeps F.keep) hp hroom fun t1 t2 t3 t4 tl tw x dx pb h' tk htk hdx hlt e mu => ?_
  have low : ∀ p ∈ news, p.1 < dx := fun p hp => Nat.lt_of_lt_of_le (Heap.lt_size (N p hp).1) hdx
  refine h t1 t2 t3 t4 tl tw x dx pb h' tk htk (frExt F e) ?_ low hlt
  intro p hp
  rcases List.mem_append.mp (show p ∈ [(pb, listOf #[] 0), (x, instObj 100 dx), (dx, lexD w t1 t2 t3 t4 tl tw 1 v pb [] 4)] ++ news from hp) with hp | hp
  · refine ⟨(mu p hp).1, fun q => ?_, ?_⟩
    · obtain ⟨oL, _, _, hL, _⟩ := F.ns
      have := (mu p hp).2
      rw [show p.1 = L from q, hL] at this; cases this
    · cases q : h₀.get? p.1 with
      | none => rfl
      | some o => have := F.keep _ _ q; rw [(mu p hp).2] at this; cases this
  · exact newsExt N e p hp
local macro_rules | `(tactic| walk_at "call ref") => `(tactic| (k_here; (try dsimp only [List.nil_append, List.cons_append]); k_dflt (refine' lexNew_N ?k1 ?k2 ?k3 ?k4 ?k5 ?k6 ?_; (case k1 => k_asm); (case k2 => k_asm); (case k3 => k_asm); (case k4 => k_asm); (case k5 => first | assumption | exact Nat.succ_pos _ | (dsimp only; omega)); (case k6 => (simp only [depth_deeper]; omega))); intro lt1 lt2 lt3 lt4 ltl ltw lx ldx lpb lh ltk lhtk lF lN ll1 ll2; (try k_lt ll1); (try k_sweep)))
section
variable {prog : Program} {w : World} {A : Around} {E : Value → Shared → Prop} {s : Shared} {h₀ : Heap} {L a : Addr} {m : Str → Option Value} {news : List (Addr × Obj)} {cn : Str} {cs : Scope} {ccd : Value} {cl : List (Str × Addr)}
theorem ldnX {x : Str} {v : Value} {Q : Value → Shared → Prop} (F : Fr h₀ L s.heap m) (hv : m x = some v) (h : Q v s)
    (hk : cs.kind = .function := by rfl) (hx : (envX cn cs L a ccd cl).kindOf x = some .local := by rfl) : wpAny (model prog w) A (loadName (envX cn cs L a ccd cl) x) Q E s := wpAny_loadName_local hk hx F.ns hv h
theorem at0 {D : Addr} {p : Int} {tp u : Tok} {n : Nat} {value slice : Expr} {Q : Value → Shared → Prop} (N : News h₀ L s.heap news) (hm : (D, listOf #[.int p tp] n) ∈ news) (h : Q (.int p tp) s)
    (hs : subscripted slice false (.ref D) (.int 0 u) = operate [.ref D, .int 0 u] (getItem (.ref D) (.int 0 u)) := by with_unfolding_all rfl) :
    wpAny (model prog w) A (subscriptTail value slice (.ref D) (.int 0 u)) Q E s :=
  tail_any (N.isList hm).typeIs slot_list_getitem.lookup (wpAny_getItem_list (N.isList hm) (by decide) (by decide) (by rfl) h) hs
theorem len_B {l : List Nat} {t : Tok} {Q : Value → Shared → Prop} (hfit : l.length ≤ 1099511627776) (h : ∀ t' k, 0 < k → Q (.int (l.length : Nat) t') { s with toks := k }) : wpAny (model prog w) A (call (.builtin "len") [.bytes (B l) t]) Q E s := by
  refine len_bytes (by rw [B_size]; exact hfit) ?_
  rw [B_size]; exact h _ _ (Nat.succ_pos _)
end
theorem comp_bytes0 {prog : Program} {w : World} {A : Around} {E : Value → Shared → Prop} {s : Shared} {h₀ : Heap} {L : Addr} {m : Str → Option Value} {env : Env} {elt iter : Expr} {y : Str} {px : Pos} {scope : Scope} {cl : List (Str × Addr)} {pos : Pos} {Q : Value → Shared → Prop} {b : Array UInt8} {t : Tok} {news₀ : List (Addr × Obj)}
    (J : Nat → List Value → Prop) (hz : b.size ≤ sizeLine) (hh : A.handled = none) (hp : 0 < s.toks) (F : Fr h₀ L s.heap m) (N : News h₀ L s.heap news₀) (h0 : J 0 [])
    (hcell : ∀ y ∈ scope.names, y.2 ≠ .cell) (hkind : scope.kind = .function) (hx : scope.names.lookup y = some .local)
    (turn : ∀ (i : Nat) (c : UInt8) u I oI C oC D m₂ ys h tk, b[i]? = some c → J i ys → 0 < tk → LCg.NsObj oC m₂ → m₂ y = some (.int (c.toNat : Int) u) → Fr h₀ L h m → News h₀ L h ((I, oI) :: (C, oC) :: (D, LCg.lst ys) :: news₀) → LCg.Off3 I C D news₀ → ((@Ne Nat I C) ∧ (@Ne Nat I D) ∧ (@Ne Nat C D)) →
      wpAny (model prog w) A (eval elt (compEnvC scope cl C env)) (EltEnd h₀ L m { s with heap := h, toks := tk } I oI C oC D (LCg.lst ys) (fun y news' => news' = news₀ ∧ J (i + 1) (ys ++ [y]))) (fun _ _ => False) { s with heap := h, toks := tk })
    (done : ∀ D ys h tk, 0 < tk → Fr h₀ L h m → News h₀ L h ((D, LCg.lst ys) :: news₀) → LCg.Off1 D news₀ → J b.size ys → Q (.ref D) { s with heap := h, toks := tk }) :
    wpAny (model prog w) A (pyIter (.bytes b t)) (CompAt prog w A env elt iter y px scope cl pos none Q E) E s := by
  refine comp_bytes (fun i ys nw => nw = news₀ ∧ J i ys) hz hh hp F N ⟨rfl, h0⟩ hcell hkind hx ?_ ?_
  · rintro i c u I oI C oC D m₂ ys nw h tk hc ⟨rfl, hJ⟩ hp' ns hm F' N' off ne
    exact turn i c u I oI C oC D m₂ ys h tk hc hJ hp' ns hm F' N' off ne
  · rintro D ys nw h tk hp' F' N' off ⟨rfl, hJ⟩
    exact done D ys h tk hp' F' N' off hJ
section
variable {prog : Program} {w : World} {A : Around} {E : Value → Shared → Prop} {s : Shared}
theorem chr_oct {x : List Nat} {i : Nat} {c : UInt8} {u : Tok} {Q : Value → Shared → Prop} (hb : ∀ c ∈ x, c < 256) (hc : (B x)[i]? = some c) (h : ∀ t' k y, x[i]? = some y → Q (.str (S [y]) t') { s with toks := k }) : wpAny (model prog w) A (call (.builtin "chr") [.int (c.toNat : Int) u]) Q E s := by
  have hc' : (x.map Nat.toUInt8)[i]? = some c := by simpa using hc
  rw [List.getElem?_map] at hc'
  obtain ⟨y, hy, rfl⟩ := Option.map_eq_some_iff.mp hc'
  have hlt := hb y (List.mem_of_getElem? hy)
  have e : (Nat.toUInt8 y).toNat = y := by
    simp [Nat.toUInt8, UInt8.toNat_ofNat']; exact hlt
  rw [e]
  refine P.chr_of_int ?_ ?_
  · rw [decide_eq_false (by omega), decide_eq_false (by omega)]; rfl
  · exact h _ _ y hy
theorem join_oct {x : List Nat} {D : Addr} {ls : List (Str × Tok)} {t : Tok} {Q : Value → Shared → Prop} (hp : 0 < s.toks) (hD : s.heap.IsList D (strValues ls).toArray) (hl : ls.map (·.1) = x.map fun c => S [c]) (hx : x.length ≤ 1) (h : ∀ t' k, 0 < k → Q (.str (S x) t') { s with toks := k }) : wpAny (model prog w) A (call (.builtin "str.join") ([.str (Str.ofString "") t] ++ [.ref D])) Q E s := by
  have hlen : ls.length = x.length := by simpa using congrArg List.length hl
  refine toks_T hp (SC.join (l := ls) hD rfl ?_ fun t' k => ?_)
  · unfold JoinOk
    rw [StrLaws.joinTotal]
    have h1 := StrLaws.sumLen_le (B := 1) (ls.map (·.1)) (by
      rw [hl]; intro q hq
      obtain ⟨c, _, rfl⟩ := List.mem_map.mp hq
      exact Nat.le_refl 1)
    have h2 : (Str.ofString "").length = 0 := rfl
    rw [h2, Nat.mul_zero, Nat.add_zero]
    rw [List.length_map] at h1
    unfold Builtin.Str.tooLong
    rw [sizeLine_eq]
    have : ¬ (List.map (fun x => x.length) (ls.map (·.1))).sum > 16777216 := by omega
    rw [decide_eq_false this]; rfl
  · intro hk
    have e : Txt.join (Str.ofString "") (ls.map (·.1)) = S x := by
      rw [show Str.ofString "" = S [] from by decide +kernel, join_nil]
      have e2 : (ls.map fun p => p.1.cps.toList) = x.map fun c => [c] := by
        have := congrArg (List.map fun q : Str => q.cps.toList) hl
        rw [List.map_map, List.map_map] at this
        exact this
      rw [e2]
      congr 1
      have : ∀ x : List Nat, (x.map fun c => [c]).flatten = x := by
        intro x
        induction x with
        | nil => rfl
        | cons c r ih => rw [List.map_cons, List.flatten_cons, ih]; rfl
      exact this x
    rw [e]
    exact h _ _ hk
end
theorem takeHead {h₀ h : Heap} {L : Addr} {p : Addr × Obj} {r : List (Addr × Obj)} (N : News h₀ L h (p :: r)) : ∃ q, q = p := ⟨_, rfl⟩
theorem newsPick {h₀ h : Heap} {L : Addr} {l r : List (Addr × Obj)} (N : News h₀ L h r) (hs : ∀ p ∈ l, p ∈ r) : Muts h₀ h l := fun p hp => ⟨(N p (hs p hp)).1, (N p (hs p hp)).2.2⟩
theorem slice_int (l : List Nat) {a b : Int} {p q : Nat} (ha : a = (p : Int)) (hb : b = (q : Int)) : List.take (clipAt l.length b - clipAt l.length a) (List.drop (clipAt l.length a) l) = (l.drop p).take (q - p) := by
  subst ha hb
  rw [clipAt_nat, clipAt_nat]
  by_cases hp : p ≤ l.length
  · rw [Nat.min_eq_left hp]
    by_cases hq : q ≤ l.length
    · rw [Nat.min_eq_left hq]
    · rw [Nat.min_eq_right (by omega)]
      rw [List.take_of_length_le (by simp), List.take_of_length_le (by simp; omega)]
  · rw [Nat.min_eq_right (show l.length ≤ p by omega), List.drop_eq_nil_of_le (Nat.le_refl _), List.drop_eq_nil_of_le (by omega)]
    simp
/-- is place p of the octets l a row's head -/
def headL (l : List Nat) (p : Nat) : Bool := let x := (l.take p).drop (p - 2); x == [] || x == [13, 10]
/-- what one read gives, and the next place -/
def giveL (l : List Nat) (p : Nat) : List Nat × Nat :=
  if headL l p && (l.drop p).take 3 == [46, 13, 10] then ([], p + 3)
  else
    let q := if headL l p && (l.drop p).take 1 == [46] then p + 1 else p
    ((l.drop q).take 1, q + ((l.drop q).take 1).length)
theorem map8_inj {a b : List Nat} (ha : ∀ c ∈ a, c < 256) (hb : ∀ c ∈ b, c < 256) : (a.map Nat.toUInt8 = b.map Nat.toUInt8) = (a = b) := by
  refine propext ⟨fun h => B_inj ha hb (congrArg List.toArray h), fun h => by rw [h]⟩
theorem head_cond {l : List Nat} {p : Nat} (hb : ∀ c ∈ l, c < 256) (hp : p ≤ l.length) : (decide ([] = List.map Nat.toUInt8 (List.take (clipAt l.length (p : Int) - clipAt l.length (if (p : Int) - 2 > 0 then (p : Int) - 2 else 0)) (List.drop (clipAt l.length (if (p : Int) - 2 > 0 then (p : Int) - 2 else 0)) l))) ||
    decide ([13, 10] = List.map Nat.toUInt8 (List.take (clipAt l.length (p : Int) - clipAt l.length (if (p : Int) - 2 > 0 then (p : Int) - 2 else 0)) (List.drop (clipAt l.length (if (p : Int) - 2 > 0 then (p : Int) - 2 else 0)) l)))) = headL l p := by
  have e : (if (p : Int) - 2 > 0 then (p : Int) - 2 else 0) = ((p - 2 : Nat) : Int) := by split <;> omega
  rw [slice_int l e rfl]
  have e2 : (l.drop (p - 2)).take (p - (p - 2)) = (l.take p).drop (p - 2) := by rw [List.drop_take]
  rw [e2]
  unfold headL
  dsimp only
  have hx : ∀ c ∈ (l.take p).drop (p - 2), c < 256 := fun c hc => hb c (List.mem_of_mem_take (List.mem_of_mem_drop hc))
  generalize (l.take p).drop (p - 2) = x at hx
  have h1 : ([] = List.map Nat.toUInt8 x) = ([] = x) := map8_inj (a := []) (by simp) hx
  have h2 : ([13, 10] = List.map Nat.toUInt8 x) = ([13, 10] = x) := map8_inj (a := [13, 10]) (by decide) hx
  simp only [h1, h2]
  rw [Bool.eq_iff_iff]
  simp only [Bool.or_eq_true, decide_eq_true_eq, beq_iff_eq]
  constructor
  · rintro (h | h)
    · exact .inl h.symm
    · exact .inr h.symm
  · rintro (h | h)
    · exact .inl h.symm
    · exact .inr h.symm
theorem eq_cond {l : List Nat} {p q : Nat} {a b : Int} {y : List Nat} {yb : List UInt8} (hb : ∀ c ∈ l, c < 256) (ha : a = (p : Int)) (hq : b = (q : Int)) (hy : ∀ c ∈ y, c < 256) (hyb : yb = y.map Nat.toUInt8) :
    (List.map Nat.toUInt8 (List.take (clipAt l.length b - clipAt l.length a) (List.drop (clipAt l.length a) l)) == yb) = ((l.drop p).take (q - p) == y) := by
  rw [slice_int l ha hq, hyb]
  have hx : ∀ c ∈ (l.drop p).take (q - p), c < 256 := fun c hc => hb c (List.mem_of_mem_drop (List.mem_of_mem_take hc))
  generalize (l.drop p).take (q - p) = x at hx
  rw [Bool.eq_iff_iff, beq_iff_eq, beq_iff_eq]
  exact iff_of_eq (map8_inj hx hy)
theorem dot3_cond {l : List Nat} {p : Nat} (hb : ∀ c ∈ l, c < 256) (hp : p ≤ l.length) : ((B (List.take (clipAt l.length ((p : Int) + 3) - clipAt l.length (p : Int)) (List.drop (clipAt l.length (p : Int)) l))).toList == (#[46, 13, 10] : Array UInt8).toList) = ((l.drop p).take 3 == [46, 13, 10]) := by
  have := eq_cond (p := p) (q := p + 3) (a := (p : Int)) (b := (p : Int) + 3) (y := [46, 13, 10]) (yb := [46, 13, 10]) hb rfl (by omega) (by decide) rfl
  rw [show p + 3 - p = 3 from by omega] at this
  exact this
theorem dot1_cond {l : List Nat} {p : Nat} (hb : ∀ c ∈ l, c < 256) (hp : p ≤ l.length) : ((B (List.take (clipAt l.length ((p : Int) + 1) - clipAt l.length (p : Int)) (List.drop (clipAt l.length (p : Int)) l))).toList == (#[46] : Array UInt8).toList) = ((l.drop p).take 1 == [46]) := by
  have := eq_cond (p := p) (q := p + 1) (a := (p : Int)) (b := (p : Int) + 1) (y := [46]) (yb := [46]) hb rfl (by omega) (by decide) rfl
  rw [show p + 1 - p = 1 from by omega] at this
  exact this
theorem give_end {l : List Nat} {p : Nat} (h1 : headL l p = true) (h2 : ((l.drop p).take 3 == [46, 13, 10]) = true) : giveL l p = ([], p + 3) := by
  unfold giveL
  rw [h1, h2]; rfl
theorem give_dot {l : List Nat} {p : Nat} (h1 : headL l p = true) (h2 : ((l.drop p).take 3 == [46, 13, 10]) = false) (h3 : ((l.drop p).take 1 == [46]) = true) : giveL l p = ((l.drop (p + 1)).take 1, p + 1 + ((l.drop (p + 1)).take 1).length) := by
  unfold giveL
  rw [h1, h2, h3]; rfl
theorem give_nodot {l : List Nat} {p : Nat} (h1 : headL l p = true) (h2 : ((l.drop p).take 3 == [46, 13, 10]) = false) (h3 : ((l.drop p).take 1 == [46]) = false) : giveL l p = ((l.drop p).take 1, p + ((l.drop p).take 1).length) := by
  unfold giveL
  rw [h1, h2, h3]; rfl
theorem give_mid {l : List Nat} {p : Nat} (h1 : headL l p = false) : giveL l p = ((l.drop p).take 1, p + ((l.drop p).take 1).length) := by
  unfold giveL
  rw [h1]; rfl
def GiveOk (w : World) (f : Addr) (objs : List (Addr × Obj)) (l : List Nat) (at_ : Addr) : Prop :=
  ∀ (loose : List Str) (mean : ExcName → Option Value) (mg mb : Str → Option Value) (s : Shared) (h₀ : Heap) (p n : Nat) (tp t1 : Tok) (Q E : Value → Shared → Prop),
    Base h₀ s.heap → Muts h₀ s.heap ((at_, listOf #[.int (p : Int) tp] n) :: objs) → (hd.heap_39 w.params).In h₀ → Top topProg loose mean mg mb h₀ → 0 < s.toks → p ≤ l.length →
    (∀ (t' tp' : Tok) (h' : Heap) (tk : Nat), 0 < tk → (∀ b o, h₀.get? b = some o → h'.get? b = some o) → Muts h₀ h' ((at_, listOf #[.int ((giveL l p).2 : Nat) tp'] n) :: objs) → Q (.str (S (giveL l p).1) t') { s with heap := h', toks := tk }) →
    wpAny (model PySem.Challenge.rw_ny0028_01.row.prog w) (Ar 600 2000) (call (.ref f) [.int 1 t1]) Q E s
local macro_rules | `(tactic| walk_at "exec If") => `(tactic| (k_here; (with_reducible show wpAny _ _ (exec (Stmt.If _ _ _ ⟨104, _, _, _⟩) _) _ _ _); refine hold ?_))
/-- behind the look at a row's head -/
def GiveMid (h₀ : Heap) (L : Addr) (s : Shared) (mt : Nat → Tok → List (Addr × Obj)) (l : List Nat) (p : Nat) (t1 : Tok) (f : Flow) (s' : Shared) : Prop :=
  (∃ t' tp' h' tk, f = .ret (.str (S []) t') ∧ s' = { s with heap := h', toks := tk } ∧ (∀ b o, h₀.get? b = some o → h'.get? b = some o) ∧ Muts h₀ h' (mt (p + 3) tp') ∧ giveL l p = ([], p + 3)) ∨
  (f = .next ∧ ∃ h' tk m' q tq tp', s' = { s with heap := h', toks := tk } ∧ Fr h₀ L h' m' ∧ News h₀ L h' (mt p tp') ∧ q ≤ p + 1 ∧ giveL l p = ((l.drop q).take 1, q + ((l.drop q).take 1).length) ∧
    ∀ z ∈ [(Str.ofString "place", Value.int (q : Int) tq), (Str.ofString "size", Value.int 1 t1)], m' z.1 = some z.2)
local macro_rules | `(tactic| walk_at "eval Name") => `(tactic| (k_here; k_dflt (refine' nameX_F ?N ?c ?m ?d ?_ ?a ?b; (case a => rfl); (case b => rfl); (case c => rfl); (case N => k_asm); (case m => k_mem); (case d => with_reducible assumption); k_whole)))
local macro_rules | `(tactic| walk_at "subscriptTail") => `(tactic| (k_here; (with_reducible show wpAny _ _ (subscriptTail _ (Expr.Slice _ _ none _) (Value.bytes (B _) _) (Value.ref _)) _ _ _); (with_reducible rename Fr _ _ _ _ => F'); (with_reducible rename News _ _ _ _ => N'); k_dflt (refine slice_B (s := ⟨_, _, _, _, _⟩) F' N' (by constructor) (by constructor) (by omega) ?_); intro _ _ _ _ _; dsimp only [Option.elim]))
local macro_rules | `(tactic| walk_at "eval ListComp") => `(tactic| (k_here; k_dflt (refine comp_open (by with_unfolding_all rfl) (by rfl) (by decide) ?_)))
local macro_rules | `(tactic| walk_at "pyIter bytes") => `(tactic| fail)
local macro_rules | `(tactic| walk_at "compareOp In bytes ref") => `(tactic| (k_here; k_dflt (refine in_two (News.isTup (by k_asm) (by k_mem)) ?_)))
local macro_rules | `(tactic| walk_at "loadName") => `(tactic| (k_here; k_dflt (refine ldnX (by k_asm) (by rfl) ?_)))
local macro_rules | `(tactic| walk_at "subscriptTail Name Constant ref int") => `(tactic| (k_here; k_dflt (refine at0 (by k_asm) (by k_mem) ?_)))
local macro_rules | `(tactic| walk_at "call builtin:len") => `(tactic| (k_here; k_dflt (refine len_B (by simp; omega) ?_); intro _ _ _))
set_option maxHeartbeats 2000000 in
theorem recv_spec {w : World} {A : Around} {loose : List Str} {mean : ExcName → Option Value} {mg mb : Str → Option Value} {s : Shared} {h₀ : Heap} {l : List Nat} {tb : Tok} {at_ : Addr} {Q : Value → Shared → Prop} {E : Value → Shared → Prop}
    (b : Base h₀ s.heap) (mu : Muts h₀ s.heap [(139, tabObj #[])]) (X : (hd.heap_39 w.params).In h₀) (T : Top topProg loose mean mg mb h₀) (C : CodeHd h₀ 143 139) (hp : 0 < s.toks) (hroom : A.depth + 20 < recursionLimit) (hat : @LT.lt Nat _ at_ s.heap.objs.size) (hl : l.length ≤ 100000) (hb : ∀ c ∈ l, c < 256)
    (h : ∀ (t1 t2 t3 t4 t5 tl tw : Tok) (x dx pb f : Addr) (objs : List (Addr × Obj)) (ps : Array Value) (h' : Heap) (tk : Nat), 0 < tk → (∀ b o, h₀.get? b = some o → h'.get? b = some o) →
      Muts h₀ h' ((x, instObj 100 dx) :: (dx, lexD w t1 t2 t3 t4 tl tw 1 .none pb [ent w "read" t5 (.ref f)] 5) :: (139, tabObj ps) :: objs) → GiveOk w f objs l at_ → (∃ oc od fd sl, (f, (⟨oc, od, .func fd, sl⟩ : Obj)) ∈ objs) →
      ((@LT.lt Nat _ at_ dx ∧ @LT.lt Nat _ 139 dx) ∧ @LT.lt Nat _ dx x ∧ ∀ p ∈ objs, @Ne Nat p.1 at_ ∧ @Ne Nat p.1 x ∧ @Ne Nat p.1 dx ∧ @Ne Nat p.1 139) →
      Q (.ref x) { s with heap := h', toks := tk }) :
    wpAny (model PySem.Challenge.rw_ny0028_01.row.prog w) A (call (.ref 144) [.bytes (B l) tb, .ref at_]) Q E s := by
  w_on
  refine wpAny_call ?_
  revert X; k_fill; intro X
  refine enterC (binds := [(Str.ofString "wire", .bytes (B l) tb), (Str.ofString "at", .ref at_)]) b mu X T (by k_is) (by k_is) (by omega) (BindsTo.of_eq rfl) (by rfl) (by decide +kernel) ?_ rfl rfl rfl
  intro L h₁ tk0 cells hL F N Y l1 htk0
  k_lt l1
  k_cells Y
  (try simp only [List.cons_append, List.nil_append] at N)
  try dsimp only
  k_steps
  rename Fr _ _ _ _ => F'
  rename News _ _ _ _ => N'
  rename_i o1 o2 d1 d2 tkA htkA lt1 lt2 lt3 lt4 ltl ltw lx ldx lpb lh ltk lhtk ll2 ll1 hB aB tkB htkB f' c' oc' vs' t' ct' dc' hC tkC d3 d4 l5 l6 hD aD tkD htkD hE aE tkE htkE zE
  obtain ⟨q, hq⟩ := takeHead N'
  refine' h lt1 lt2 lt3 lt4 _ ltl ltw lx ldx lpb f' [q, (c', oc'), (L + 1, o2), (L + 1 + 1, o1)] _ _ _ ?g1 F'.keep (newsPick N' ?g2) ?g3 ?g4 ?g5
  case g2 =>
    subst hq
    refine' List.forall_mem_cons.mpr ⟨?_, List.forall_mem_cons.mpr ⟨?_, List.forall_mem_cons.mpr ⟨?_, List.forall_mem_cons.mpr ⟨?_, List.forall_mem_cons.mpr ⟨?_, List.forall_mem_cons.mpr ⟨?_, List.forall_mem_cons.mpr ⟨?_, List.forall_mem_nil _⟩⟩⟩⟩⟩⟩⟩
    all_goals k_mem
  case g1 => assumption
  case g4 => subst hq; exact ⟨_, _, _, _, .head _⟩
  case g5 =>
    have hlt : @LT.lt Nat _ at_ L := by omega
    have z1 : @LT.lt Nat _ at_ ldx := by omega
    have z2 : @LT.lt Nat _ ldx lx := by omega
    subst hq
    refine ⟨⟨z1, by omega⟩, z2, List.forall_mem_cons.mpr ⟨?_, List.forall_mem_cons.mpr ⟨?_, List.forall_mem_cons.mpr ⟨?_, List.forall_mem_cons.mpr ⟨?_, List.forall_mem_nil _⟩⟩⟩⟩⟩
    all_goals (refine ⟨?_, ?_, ?_, ?_⟩ <;> (dsimp only; omega))
  · obtain ⟨f₂, fo⟩ := q
    obtain ⟨rfl, hfo⟩ := Prod.mk.inj hq
    intro loose' mean' mg' mb' s' h₀' p n tp t1 Q' E' b' mu' X' T' hp' hpl hR
    refine wpAny_call ?_
    have hf := (mu' _ (.tail _ (.head _))).1
    rw [hfo] at hf
    have hc := (mu' (c', oc') (.tail _ (.tail _ (.head _)))).1
    refine enterX (binds := [(Str.ofString "size", .int 1 t1)]) b' mu' T' hf ⟨_, _, _, _, rfl, hc, d3, d4⟩ (by decide) (BindsTo.of_eq rfl) (locs rfl) ?_ rfl rfl rfl (by decide)
    intro L₂ h₂ hL₂ F₂ N₂
    have hlt : @LT.lt Nat _ at_ L := by omega
    have e1 : o1.data = .cell (some (.ref at_)) := d1
    have e2 : o2.data = .cell (some (.bytes (B l) tb)) := d2
    clear d1 d2 hq hfo F' N' h mu b X T C hf hc mu' b'
    k_steps
    delta Hold
    refine toks_T (by first | assumption | exact Nat.succ_pos _ | (dsimp only; omega)) (wpAny_mono (Q := GiveMid h₀' L₂ s' (fun p tp => (at_, listOf #[.int (p : Int) tp] n) :: [(f₂, fo), (c', oc'), (L + 1, o2), (L + 1 + 1, o1)]) l p t1) (E := fun _ _ => False) ?wif ?wrest (fun _ _ h => h.elim))
    case wif =>
      refine wpAny_If ?_
      k_steps
      all_goals (rename Fr _ _ _ _ => F5; rename News _ _ _ _ => N5)
      · rename (_ || _) = true => hc1
        rename (_ == _) = true => hc2
        rw [head_cond hb hpl] at hc1
        rw [dot3_cond hb hpl] at hc2
        rw [show (p : Int) + 3 = ((p + 3 : Nat) : Int) from by omega] at N5
        exact .inl ⟨_, _, _, _, rfl, rfl, F5.keep, newsPick N5 fun p hp => by first | exact hp | exact .tail _ hp, give_end hc1 hc2⟩
      · rename (_ || _) = true => hc1
        rename (_ == _) = false => hc2
        rename (_ == _) = true => hc3
        rw [head_cond hb hpl] at hc1
        rw [dot3_cond hb hpl] at hc2
        rw [dot1_cond hb hpl] at hc3
        exact .inr ⟨rfl, _, _, _, p + 1, _, _, rfl, F5, newsSub N5 fun p hp => by first | exact hp | exact .tail _ hp, Nat.le_refl _, give_dot hc1 hc2 hc3, by repeat' (first | exact List.forall_mem_nil _ | refine List.forall_mem_cons.mpr ⟨rfl, ?_⟩)⟩
      · rename (_ || _) = true => hc1
        rename (_ == (#[46] : Array UInt8).toList) = false => hc3
        rename (_ == (#[46, 13, 10] : Array UInt8).toList) = false => hc2
        rw [head_cond hb hpl] at hc1
        rw [dot3_cond hb hpl] at hc2
        rw [dot1_cond hb hpl] at hc3
        exact .inr ⟨rfl, _, _, _, p, _, _, rfl, F5, newsSub N5 fun p hp => by first | exact hp | exact .tail _ hp, Nat.le_succ _, give_nodot hc1 hc2 hc3, by repeat' (first | exact List.forall_mem_nil _ | refine List.forall_mem_cons.mpr ⟨rfl, ?_⟩)⟩
      · rename (_ || _) = false => hc1
        rw [head_cond hb hpl] at hc1
        exact .inr ⟨rfl, _, _, _, p, _, _, rfl, F5, newsSub N5 fun p hp => by first | exact hp | exact .tail _ hp, Nat.le_succ _, give_mid hc1, by repeat' (first | exact List.forall_mem_nil _ | refine List.forall_mem_cons.mpr ⟨rfl, ?_⟩)⟩
    case wrest =>
      rintro _ _ (⟨t9, tp9, h9, tk9, rfl, rfl, hk9, mu9, g⟩ | ⟨rfl, h9, tk9, m9, q, tq, tp9, rfl, F9, N9, hq9, g, hm9⟩) htk9
      · intro _
        dsimp only
        rw [g] at hR
        exact hR _ _ _ _ htk9 hk9 mu9
      have F9a := fr_sets _ F9 hm9
      dsimp only [setsOf] at F9a
      clear F9
      rename Fr _ _ _ _ => F9b
      dsimp only at N9
      rw [g] at hR
      dsimp only at hR
      intro _
      dsimp only
      k_steps
      rename Fr _ _ _ _ => F5
      rename News _ _ _ _ => N5
      rw [slice_int l (p := q) (q := q + 1) rfl (by omega), show q + 1 - q = 1 from by omega] at F5 N5 ⊢
      have hx1 : ((l.drop q).take 1).length ≤ 1 := by simp; omega
      have hxb : ∀ c ∈ (l.drop q).take 1, c < 256 := fun c hc => hb c (List.mem_of_mem_drop (List.mem_of_mem_take hc))
      generalize (l.drop q).take 1 = x at F5 N5 hR hx1 hxb ⊢
      refine comp_bytes0 (fun i ys => ∃ ls : List (Str × Tok), ys = strValues ls ∧ ls.map (·.1) = (x.take i).map fun c => S [c]) (by rw [B_size, sizeLine_eq]; omega) rfl (by first | assumption | exact Nat.succ_pos _ | (dsimp only; omega)) F5 N5 ⟨[], rfl, rfl⟩ (by decide) (by rfl) (by rfl) ?_ ?_
      · rintro i c u I oI C oC D m₂ ys h7 tk7 hci ⟨ls, rfl, hls⟩ htk7 ns hm F7 N7 off ne
        clear F5 N5
        k_steps
        refine chr_oct hxb hci fun t8 k8 y hy => ?_
        k_steps
        refine ⟨_, _, _, rfl, F7, N7, off, rfl, ls ++ [(S [y], t8)], by simp [strValues], ?_⟩
        rw [List.take_add_one, hy]
        simp [hls]
      · rintro D ys h7 tk7 htk7 F7 N7 off ⟨ls, rfl, hls⟩
        clear F5 N5
        dsimp only
        k_steps
        rw [B_size, List.take_length] at hls
        refine join_oct (by first | assumption | exact Nat.succ_pos _ | (dsimp only; omega)) (N7.isList (.head _)) hls hx1 fun t8 k8 hk8 => ?_
        k_steps
        dsimp only
        exact hR _ _ _ _ hk8 F7.keep (newsPick N7 fun p hp => by first | exact .tail _ hp | exact .tail _ (.tail _ hp))
end Mine

end
section
open PySem PySem.W PyProof.Rows
set_option maxRecDepth 100000
namespace Mine
/-- the base for a call that may change the objects mt -/
abbrev Aside (h : Heap) (mt : List (Addr × Obj)) : Heap := hideAll h (mt.map (·.1))
section
variable {h₀ h : Heap} {L : Addr} {m : Str → Option Value} {news mt : List (Addr × Obj)}
theorem aside_base : Base (Aside h mt) h := ⟨fun _ _ e => of_hideAll _ e, Nat.le_of_eq (hideAll_size _ _)⟩
theorem aside_muts (N : News h₀ L h mt) : Muts (Aside h mt) h mt := fun p hp => ⟨(N p hp).1, hideAll_none _ (List.mem_map_of_mem hp)⟩
theorem aside_ext (F : Fr h₀ L h m) (N : News h₀ L h mt) : Ext h₀ (Aside h mt) := fun b o e => hideAll_get _ (F.keep b o e) fun hm => by
  obtain ⟨p, hp, rfl⟩ := List.mem_map.mp hm
  rw [(N p hp).2.2] at e; cases e
theorem aside_fr {h' : Heap} (F : Fr h₀ L h m) (N : News h₀ L h mt) (k : ∀ b o, (Aside h mt).get? b = some o → h'.get? b = some o) : Fr h₀ L h' m := by
  refine ⟨?_, fun b o e => k b o (aside_ext F N b o e), F.above⟩
  obtain ⟨oL, es, ep, hL, r⟩ := F.ns
  refine ⟨oL, es, ep, k _ _ (hideAll_get _ hL fun hm => ?_), r⟩
  obtain ⟨p, hp, e⟩ := List.mem_map.mp hm
  exact (N p hp).2.1 e
theorem aside_rest {h' : Heap} {rest : List (Addr × Obj)} (N : News h₀ L h rest) (hne : ∀ q ∈ rest, ∀ p ∈ mt, p.1 ≠ q.1) (k : ∀ b o, (Aside h mt).get? b = some o → h'.get? b = some o) : News h₀ L h' rest :=
  fun q hq => ⟨k _ _ (hideAll_get _ (N q hq).1 fun hm => by
    obtain ⟨p, hp, e⟩ := List.mem_map.mp hm
    exact hne q hq p hp e), (N q hq).2⟩
theorem aside_new {h' : Heap} {mt' : List (Addr × Obj)} (N : News h₀ L h mt) (mu : Muts (Aside h mt) h' mt') (hs : ∀ p ∈ mt', p.1 ∈ mt.map (·.1)) : News h₀ L h' mt' := fun p hp => by
  obtain ⟨q, hq, e⟩ := List.mem_map.mp (hs p hp)
  exact ⟨(mu p hp).1, e ▸ (N q hq).2⟩
theorem news_app {a b : List (Addr × Obj)} (x : News h₀ L h a) (y : News h₀ L h b) : News h₀ L h (a ++ b) := fun p hp => by
  rcases List.mem_append.mp hp with hp | hp
  · exact x p hp
  · exact y p hp
theorem news_sub {a b : List (Addr × Obj)} (x : News h₀ L h a) (hs : ∀ p ∈ b, p ∈ a) : News h₀ L h b := fun p hp => x p (hs p hp)
end
end Mine

end
section
open PySem PySem.W PyProof.Rows
set_option maxRecDepth 100000
namespace Mine
theorem S_nl (x : List Nat) : (S x == Str.ofString "\n") = decide (x = [10]) := by
  rw [show Str.ofString "\n" = S [10] from by decide +kernel]
  by_cases e : x = [10]
  · rw [e, decide_eq_true rfl]; exact beq_self_eq_true _
  · rw [decide_eq_false e]
    rw [beq_eq_false_iff_ne]
    intro h
    have := congrArg (fun q : Str => q.cps.toList) h
    rw [S_list, S_list] at this
    exact e this
/-- the lexer's places -/
structure Lx where
  at_ : Addr
  n : Nat
  dl : Addr
  xl : Addr
  pbl : Addr
  ds : Addr
  xs : Addr
  pbs : Addr
  f : Addr
  t1 : Tok
  t2 : Tok
  t3 : Tok
  t4 : Tok
  tw : Tok
  u1 : Tok
  u2 : Tok
  u3 : Tok
  u4 : Tok
  u5 : Tok
  ul : Tok
  uw : Tok
  objs : List (Addr × Obj)
abbrev Lx.led (w : World) (k : Lx) (p : Nat) (tp : Tok) (line : Int) (tl : Tok) : List (Addr × Obj) :=
  (k.at_, listOf #[.int (p : Int) tp] k.n) :: (k.dl, lexD w k.t1 k.t2 k.t3 k.t4 tl k.tw line (.ref k.xs) k.pbl [] 4) :: (k.xl, instObj 100 k.dl) :: (k.pbl, listOf #[] 0) :: (k.xs, instObj 100 k.ds) ::
    (k.ds, lexD w k.u1 k.u2 k.u3 k.u4 k.ul k.uw 1 .none k.pbs [ent w "read" k.u5 (.ref k.f)] 5) :: k.objs
structure Lx.Ok (w : World) (k : Lx) (l : List Nat) : Prop where
  give : GiveOk w k.f k.objs l k.at_
  fn : ∃ oc od fd sl, (k.f, (⟨oc, od, .func fd, sl⟩ : Obj)) ∈ k.objs
  o1 : @LT.lt Nat _ k.at_ k.ds
  o2 : @LT.lt Nat _ k.ds k.xs
  o3 : @LT.lt Nat _ k.xs k.dl
  o4 : @LT.lt Nat _ k.dl k.xl
  o5 : @LT.lt Nat _ k.xl k.pbl
  o6 : ∀ p ∈ k.objs, p.1 ≠ k.dl
  o7 : ∀ p ∈ k.objs, p.1 ≠ k.at_
  o8 : ∀ p ∈ k.objs, p.1 ≠ k.xl ∧ p.1 ≠ k.pbl ∧ p.1 ≠ k.xs ∧ p.1 ≠ k.ds
theorem give_N {w : World} {A : Around} {loose : List Str} {mean : ExcName → Option Value} {mg mb : Str → Option Value} {s : Shared} {h₀ : Heap} {L : Addr} {m : Str → Option Value} {f at_ : Addr} {objs rest news : List (Addr × Obj)} {l : List Nat} {p n : Nat} {tp t1 : Tok} {Q E : Value → Shared → Prop}
    (G : GiveOk w f objs l at_) (F : Fr h₀ L s.heap m) (N : News h₀ L s.heap news) (X : (hd.heap_39 w.params).In h₀) (T : Top topProg loose mean mg mb h₀) (hp : 0 < s.toks) (hpl : p ≤ l.length)
    (hmt : ∀ q ∈ (at_, listOf #[.int (p : Int) tp] n) :: objs, q ∈ news) (hrs : ∀ q ∈ rest, q ∈ news) (hne : ∀ q ∈ rest, q.1 ≠ at_ ∧ ∀ p ∈ objs, p.1 ≠ q.1) (a1 : A.handled = none) (a2 : A.depth ≤ 600) (a3 : A.units ≤ 2000)
    (h : ∀ (t' tp' : Tok) (h' : Heap) (tk : Nat), 0 < tk → Fr h₀ L h' m → News h₀ L h' ((at_, listOf #[.int ((giveL l p).2 : Nat) tp'] n) :: rest ++ objs) → Q (.str (S (giveL l p).1) t') { s with heap := h', toks := tk }) :
    wpAny (model PySem.Challenge.rw_ny0028_01.row.prog w) A (call (.ref f) [.int 1 t1]) Q E s := by
  have Nm := news_sub N hmt
  have e := aside_ext F Nm
  refine weaken (G loose mean mg mb s (Aside s.heap ((at_, listOf #[.int (p : Int) tp] n) :: objs)) p n tp t1 Q E aside_base (aside_muts Nm) (X.keeps e) (T.keeps e) hp hpl fun t' tp' h' tk htk k mu => ?_) a1 a2 a3
  have N1 := aside_new (mt := (at_, listOf #[.int (p : Int) tp] n) :: objs) Nm mu (by
    intro q hq
    rcases List.mem_cons.mp hq with rfl | hq
    · exact .head _
    · exact .tail _ (List.mem_map_of_mem hq))
  have N2 := aside_rest (news_sub N hrs) (mt := (at_, listOf #[.int (p : Int) tp] n) :: objs) (by
    intro q hq z hz
    rcases List.mem_cons.mp hz with rfl | hz
    · exact Ne.symm (hne q hq).1
    · exact (hne q hq).2 z hz) k
  refine h t' tp' h' tk htk (aside_fr F Nm k) ?_
  intro q hq
  rcases List.mem_cons.mp hq with rfl | hq
  · exact N1 _ (.head _)
  rcases List.mem_append.mp hq with hq | hq
  · exact N2 q hq
  · exact N1 q (.tail _ hq)
local macro_rules | `(tactic| walk_at "execs cons") => `(tactic| (k_here; (refine execs_T (by first | assumption | exact Nat.succ_pos _ | (dsimp only; omega)) ?_); intro tk htk; (try dsimp only)))
local macro_rules | `(tactic| k_all) => `(tactic| assumption)
set_option maxHeartbeats 2000000 in
theorem read_code {w : World} {loose : List Str} {mean : ExcName → Option Value} {mg mb : Str → Option Value} {s : Shared} {h₀ : Heap} {k : Lx} {l : List Nat} {p : Nat} {tp tl : Tok} {line : Int} {R : Result → Shared → Prop}
    (b : Base h₀ s.heap) (K : k.Ok w l) (mu : Muts h₀ s.heap (k.led w p tp line tl)) (X : (hd.heap_39 w.params).In h₀) (T : Top topProg loose mean mg mb h₀) (hp : 0 < s.toks) (hpl : p ≤ l.length)
    (h : ∀ (t' tp' tl' : Tok) (h' : Heap) (tk : Nat), 0 < tk → (∀ b o, h₀.get? b = some o → h'.get? b = some o) → Muts h₀ h' (k.led w (giveL l p).2 tp' (line + if (giveL l p).1 = [10] then 1 else 0) tl') → R (.ok (.ret (.str (S (giveL l p).1) t'))) { s with heap := h', toks := tk }) :
    codeAny (model PySem.Challenge.rw_ny0028_01.row.prog w) (Ar 500 1500) (.call (.ref 83) ⟨[.ref k.xl], []⟩) R s := by
  w_on
  revert X; k_fill; intro X
  obtain ⟨at_, n, dl, xl, pbl, ds, xs, pbs, f, t1, t2, t3, t4, tw, u1, u2, u3, u4, u5, ul, uw, objs⟩ := k
  obtain ⟨give, fn, o1, o2, o3, o4, o5, o6, o7, o8⟩ := K
  dsimp only [Lx.led] at give fn o1 o2 o3 o4 o5 o6 o7 o8 mu h
  refine enterH (binds := [(Str.ofString "self", .ref xl)]) b mu X T (by k_is) (by k_is) (by decide) (BindsTo.of_eq rfl) (locs rfl) ?_ rfl rfl rfl (by decide)
  intro L h₁ hL F N
  try dsimp only
  k_steps
  have hfn : ∀ {h : Heap} {news : List (Addr × Obj)}, News h₀ L h news → (∀ p ∈ objs, p ∈ news) → FnAt f h := fun N' hs => by
    obtain ⟨oc, od, fd, sl, hm⟩ := fn
    exact FnAt.of N' (hs _ hm)
  refine callWith_F (hfn (by k_asm) (by intro p hp; simp [hp])) ?_
  k_steps
  · exact hfn (by k_asm) (by intro p hp; simp [hp])
  refine give_N (tp := tp) (n := n) (p := p) (rest := [(dl, lexD w t1 t2 t3 t4 tl tw line (.ref xs) pbl [] 4), (xl, instObj 100 dl), (pbl, listOf #[] 0), (xs, instObj 100 ds), (ds, lexD w u1 u2 u3 u4 ul uw 1 .none pbs [ent w "read" u5 (.ref f)] 5)]) give (by k_asm) (by k_asm) X T (by first | assumption | exact Nat.succ_pos _ | (dsimp only; omega)) hpl ?_ ?_ ?_ rfl (Nat.le_of_ble_eq_true rfl) (Nat.le_of_ble_eq_true rfl) ?_
  · intro q hq
    rcases List.mem_cons.mp hq with rfl | hq
    · exact .head _
    · simp [hq]
  · intro q hq
    exact .tail _ (List.mem_append_left _ hq)
  · intro q hq
    simp only [List.mem_cons, List.not_mem_nil, or_false] at hq
    rcases hq with rfl | rfl | rfl | rfl | rfl
    · exact ⟨neN (by dsimp only; omega), o6⟩
    · exact ⟨neN (by dsimp only; omega), fun p hp => (o8 p hp).1⟩
    · exact ⟨neN (by dsimp only; omega), fun p hp => (o8 p hp).2.1⟩
    · exact ⟨neN (by dsimp only; omega), fun p hp => (o8 p hp).2.2.1⟩
    · exact ⟨neN (by dsimp only; omega), fun p hp => (o8 p hp).2.2.2⟩
  intro t7 tp7 h7 tk7 htk7 F7 N7
  clear N
  dsimp only [List.cons_append, List.nil_append] at N7 ⊢
  k_steps
  all_goals (rename Fr _ _ _ _ => F8; rename News _ _ _ _ => N8)
  · rename (_ == _) = true => hc
    rw [S_nl] at hc
    have hc := of_decide_eq_true hc
    rw [if_pos hc] at h
    exact h _ _ _ _ _ (by assumption) F8.keep (newsPick N8 fun p hp => hp)
  · rename (_ == _) = false => hc
    rw [S_nl] at hc
    have hc := of_decide_eq_false hc
    rw [if_neg hc, Int.add_zero] at h
    exact h _ _ _ _ _ (by assumption) F8.keep (newsPick N8 fun p hp => hp)
end Mine

end
section
open PySem PySem.W PyProof.Rows
set_option maxRecDepth 100000
namespace Mine
open Builtin
theorem slot_ci : Slot "callable_iterator" "__next__" "callable_iterator.__next__" :=
  .of (owner := "callable_iterator") (n := "__next__") (by rw [typeLookup_type, builtinLookup_eq_fast]; kernel_rfl) (by decide +kernel) (by decide +kernel) (by decide +kernel)
    (by first | exact .inl (by decide +kernel) | exact .inr (by decide +kernel)) (by rw [isSubtype_type]; kernel_rfl)
theorem slot_ciself : Slot "callable_iterator" "__iter__" "callable_iterator.__iter__" :=
  .of (owner := "callable_iterator") (n := "__iter__") (by rw [typeLookup_type, builtinLookup_eq_fast]; kernel_rfl) (by decide +kernel) (by decide +kernel) (by decide +kernel)
    (by first | exact .inl (by decide +kernel) | exact .inr (by decide +kernel)) (by rw [isSubtype_type]; kernel_rfl)
theorem entry_ci : entryFor table "callable_iterator.__next__" = some Builtin.«callable_iterator.__next__» := entryFor_of_tree (by kernel_rfl)
theorem entry_ciself : entryFor table "callable_iterator.__iter__" = some Builtin.«dict_keyiterator.__iter__» := entryFor_alias (id' := "dict_keyiterator.__iter__") (by kernel_rfl) rfl (by decide +kernel) (by kernel_rfl)
theorem args_ci (a : Value) : argsOk "callable_iterator.__next__" ⟨[a], []⟩ := by unfold argsOk; kernel_rfl
theorem args_ciself (a : Value) : argsOk "callable_iterator.__iter__" ⟨[a], []⟩ := by unfold argsOk; kernel_rfl
theorem entry_iter : entryFor table "iter" = some Builtin.«iter» := entryFor_of_tree (by kernel_rfl)
theorem kind_iter : builtinKind "iter" = none := by decide +kernel
theorem plain_iter : plainId "iter" = true := by decide +kernel
theorem args_iter2 (a b : Value) : argsOk "iter" ⟨[a, b], []⟩ := by unfold argsOk; kernel_rfl
theorem call_method : typeLookup (.type "method") "__call__" = pure (some (.builtin "method.__call__")) := by rw [typeLookup_type, builtinLookup_eq_fast]; kernel_rfl
def IsCI (h : Heap) (it q : Addr) (ts : Tok) : Prop := h.get? it = some { cls := .type "callable_iterator", data := .fields #[.ref q, .str (Str.ofString "") ts, .bool false] }
abbrev ciO (q : Addr) (ts : Tok) : Obj := { cls := .type "callable_iterator", data := .fields #[.ref q, .str (Str.ofString "") ts, .bool false] }
abbrev ciEnd : Obj := { cls := .type "callable_iterator", data := .fields #[.none, .none, .bool true] }
section
variable {M : Model} {prog : Program} {w : World} {A : Around} {E : Value → Shared → Prop} {s : Shared}
theorem callBorrowed_wp {f : Value} {pos : List Value} {Q : Value → Shared → Prop}
    (hc : codeAny M A (.call f ⟨pos, []⟩) (fun r s' => match r with | .ok (.ret v) => Q v s' | .ok _ => False | .error e => E e s') s) : wpAny M A (callBorrowed f pos) Q E s := by
  intro Γ p hΓ
  have := wpAny_call hc Γ p hΓ
  rw [Sem.wp_cmd_call] at this
  unfold callBorrowed
  rw [Sem.wp_call]
  refine cast (congrArg (fun z => wpCode M _ z p s) ?_) this
  funext r s'
  cases r with
  | error e => rfl
  | ok f => cases f <;> rfl
theorem weakenC {c : Code} {R : Result → Shared → Prop} {d u : Nat} (h : codeAny M (Ar d u) c R s) (hh : A.handled = none) (hd : A.depth ≤ d) (hu : A.units ≤ u) : codeAny M A c R s :=
  fun Γ p hc hΓ => h Γ p hc ⟨hΓ.1.trans hh, Nat.le_trans hΓ.2.1 hd, (fun _ e => nomatch e), (fun _ e => nomatch e), Nat.le_trans hΓ.2.2.2.2 hu⟩
theorem ci_type {it q : Addr} {ts : Tok} (hit : IsCI s.heap it q ts) : s.TypeIs (.ref it) "callable_iterator" := ⟨_, hit, rfl⟩
theorem borrows {q f x : Addr} {oc : Value} {od : Option Addr} {fd : FuncData} {sl : Array (Option Value)} {Q : Bool → Shared → Prop} (hq : s.heap.get? q = some (methodObj (.ref f) (.ref x))) (hf : s.heap.get? f = some ⟨oc, od, .func fd, sl⟩) (h : Q true s) : wpAny M A (borrowsExactly (.ref q)) Q E s := by
  unfold borrowsExactly
  refine wpAny_bind (wpAny_load hq ?_)
  show wpAny _ _ (do match (← PySem.load f).data with | .func _ => pure true | _ => pure false) _ _ s
  exact wpAny_bind (wpAny_load hf (wpAny_pure h))
theorem next_ci {it q f x : Addr} {ts : Tok} {oc : Value} {od : Option Addr} {fd : FuncData} {sl : Array (Option Value)} {Q : Option Value → Shared → Prop}
    (hh : A.handled = none) (hit : IsCI s.heap it q ts) (hq : s.heap.get? q = some (methodObj (.ref f) (.ref x))) (hf : s.heap.get? f = some ⟨oc, od, .func fd, sl⟩)
    (call : ∀ R, (∀ y t' s', IsCI s'.heap it q ts → s'.heap.get? q = some (methodObj (.ref f) (.ref x)) → s'.heap.get? f = some ⟨oc, od, .func fd, sl⟩ →
        (if y = Str.ofString "" then ∀ h', Heap.ExtBut it s'.heap h' → h'.get? it = some ciEnd → Q none { s' with heap := h' } else Q (some (.str y t')) s') → R (.ok (.ret (.str y t'))) s') → codeAny (model prog w) A.in1 (.call (.ref f) ⟨[.ref x], []⟩) R s) :
    wpAny (model prog w) A (pyNext (.ref it)) Q E s := by
  unfold pyNext
  refine wpAny_bind (wpAny_attempt (wpAny_callSpecial?_slot (name := PySem.Str.ofString "__next__") (ci_type hit) slot_ci
    (wpAny_call_entry slot_ci (ci_type hit) entry_ci ?_ (args_ci _))))
  show wpAny _ _ (field (.ref it) 2 >>= _) _ _ s
  refine wpAny_bind (wpAny_field hit rfl (x := .bool false) rfl ?_)
  rw [if_neg (show ¬ ((Value.bool false == Value.bool true) = true) from by decide)]
  refine wpAny_bind (wpAny_field hit rfl (x := .ref q) rfl ?_)
  refine wpAny_bind (wpAny_attempt ?_)
  unfold callOutOfASlot
  refine wpAny_bind (borrows hq hf ?_)
  rw [if_pos rfl]
  refine callBorrowed_wp (method_call hq ?_)
  refine call _ fun y t' s' hit' hq' hf' hQ => ?_
  dsimp only
  refine wpAny_bind (wpAny_field hit' rfl (x := .bool false) rfl ?_)
  rw [if_neg (show ¬ ((Value.bool false == Value.bool true) = true) from by decide)]
  refine wpAny_bind (wpAny_field hit' rfl (x := .str (Str.ofString "") ts) rfl ?_)
  refine wpAny_bind (wpAny_holding (eqBool_str ?_))
  by_cases hy : y = Str.ofString ""
  · rw [if_pos hy] at hQ
    subst hy
    rw [beq_self_eq_true, if_neg (by decide)]
    refine wpAny_bind (wpAny_rule ?_)
    refine wpAny_bind ?_
    show wpAny _ _ (do
      slotLetsGo "callable_iterator.__next__" (← field (.ref it) 0) _
      setField (.ref it) 0 .none; setField (.ref it) 1 .none; setField (.ref it) 2 (.bool true)) _ _ s'
    refine wpAny_bind (wpAny_field hit' rfl (x := .ref q) rfl ?_)
    refine wpAny_bind ?_
    unfold slotLetsGo
    refine wpAny_bind (borrows hq' hf' ?_)
    rw [if_pos rfl]
    refine wpAny_pure ?_
    refine wpAny_bind (wpAny_setField_rec hit' (by simp) fun h1 g1 b1 => ?_)
    refine wpAny_bind (wpAny_setField_rec g1 (by simp) fun h2 g2 b2 => ?_)
    refine wpAny_setField_rec g2 (by simp) fun h3 g3 b3 => ?_
    have eb : Heap.ExtBut it s'.heap h3 := fun c o hc e => b3.extBut c o hc (b2.extBut c o hc (b1.extBut c o hc e))
    show wpAny _ _ (newExc (.type "StopIteration") [] >>= _) _ _ _
    refine wpAny_bind ?_
    simp only [newExc, newTuple]
    refine wpAny_bind (wpAny_newObj_type ?_ (by size_fits))
    refine wpAny_bind (m := firstArgMember _ _) (wpAny_of_eq (a := Value.none) (by first | rfl | (simp only [firstArgMember]; rfl)) ?_)
    refine wpAny_newObj_type ?_ (by size_fits)
    simp only [raiseNew]
    refine wpAny_bind (wpAny_handled ?_)
    rw [show A.in1.handled = none from hh]
    refine wpAny_bind (wpAny_pure (wpAny_throw ?_))
    refine wpAny_bind (wpAny_isInstance (T := "StopIteration") (b := true) ⟨_, Heap.get?_push_size _ rfl, rfl⟩ isSubtype_stop ?_)
    exact wpAny_pure (hQ _ ((eb.push _).push _) (Heap.get?_push_of_some _ (Heap.get?_push_of_some _ (by simpa using g3))))
  · rw [if_neg hy] at hQ
    rw [show (Str.ofString "" == y) = false from by rw [beq_eq_false_iff_ne]; exact Ne.symm hy, if_pos (show (!false) = true from rfl)]
    exact wpAny_pure ⟨_, rfl, wpAny_pure hQ⟩
theorem pyIter_ci {it q : Addr} {ts : Tok} {Q : Value → Shared → Prop} (hit : IsCI s.heap it q ts) (h : Q (.ref it) s) : wpAny (model prog w) A (pyIter (.ref it)) Q E s := by
  refine wpAny_pyIter_slot (ci_type hit) slot_ciself (wpAny_call_entry slot_ciself (ci_type hit) entry_ciself ?_ (args_ciself _))
  show wpAny _ _ (ret (.ref it)) _ _ s
  exact wpAny_pure ⟨_, rfl, "callable_iterator", _, ci_type hit, slot_ci.lookup, h⟩
theorem iter_call {q f x : Addr} {ts : Tok} {Q : Value → Shared → Prop} (hq : s.heap.get? q = some (methodObj (.ref f) (.ref x)))
    (h : Q (.ref s.heap.objs.size) { s with heap := s.heap.push { cls := .type "callable_iterator", data := .fields #[.ref q, .str (Str.ofString "") ts, .bool false] } }) :
    wpAny (model prog w) A (call (.builtin "iter") [.ref q, .str (Str.ofString "") ts]) Q E s := by
  refine wpAny_call (codeAny_call_builtin plain_iter entry_iter ?_)
  have hfin : wpAny (model prog w) A.in1 (Builtin.«iter» ⟨[.ref q, .str (Str.ofString "") ts], []⟩) (fun fin s' => match fin with | .done f => wants Q E (.ok f) s' | .again c' => c'.quiet = true ∧ codeAny (model prog w) A c' (wants Q E) s') (fun e s' => wants Q E (.error e) s') s := by
    unfold Builtin.«iter»
    refine wpAny_bind (wpAny_of_eq (a := [.ref q, .str (Str.ofString "") ts]) rfl ?_)
    refine wpAny_bind (wpAny_specialOf (T := "method") ⟨_, hq, rfl⟩ call_method ?_)
    rw [if_neg (by decide)]
    refine wpAny_bind (wpAny_rule ?_)
    exact wpAny_bind (wpAny_newObj_type (wpAny_pure h))
  simp only [checkBuiltinCall, kind_iter]
  have ok := args_iter2 (.ref q) (.str (Str.ofString "") ts)
  cases hsig : Manifest.signature? "iter" with
  | none => exact wpAny_pure hfin
  | some sig =>
    simp only [argsOk, hsig] at ok
    have h2 : Bind.checkArgs "iter" sig ⟨[.ref q, .str (Str.ofString "") ts], []⟩ = pure () := ok
    show wpAny _ _ (Bind.checkArgs "iter" sig ⟨_, []⟩) _ _ s
    rw [h2]; exact wpAny_pure hfin
theorem next_ended {it : Addr} {Q : Option Value → Shared → Prop} (hh : A.handled = none) (hit : s.heap.get? it = some ciEnd)
    (hQ : ∀ h', (∀ b o, s.heap.get? b = some o → h'.get? b = some o) → Q none { s with heap := h' }) : wpAny (model prog w) A (pyNext (.ref it)) Q E s := by
  have hT : s.TypeIs (.ref it) "callable_iterator" := ⟨_, hit, rfl⟩
  unfold pyNext
  refine wpAny_bind (wpAny_attempt (wpAny_callSpecial?_slot (name := PySem.Str.ofString "__next__") hT slot_ci
    (wpAny_call_entry slot_ci hT entry_ci ?_ (args_ci _))))
  show wpAny _ _ (field (.ref it) 2 >>= _) _ _ s
  refine wpAny_bind (wpAny_field hit rfl (x := .bool true) rfl ?_)
  rw [if_pos (show ((Value.bool true == Value.bool true) = true) from by decide)]
  refine wpAny_bind (wpAny_rule ?_)
  refine wpAny_bind ?_
  show wpAny _ _ (newExc (.type "StopIteration") [] >>= _) _ _ _
  refine wpAny_bind ?_
  simp only [newExc, newTuple]
  refine wpAny_bind (wpAny_newObj_type ?_ (by size_fits))
  refine wpAny_bind (m := firstArgMember _ _) (wpAny_of_eq (a := Value.none) (by first | rfl | (simp only [firstArgMember]; rfl)) ?_)
  refine wpAny_newObj_type ?_ (by size_fits)
  simp only [raiseNew]
  refine wpAny_bind (wpAny_handled ?_)
  rw [show A.in1.handled = none from hh]
  refine wpAny_bind (wpAny_pure (wpAny_throw ?_))
  refine wpAny_bind (wpAny_isInstance (T := "StopIteration") (b := true) ⟨_, Heap.get?_push_size _ rfl, rfl⟩ isSubtype_stop ?_)
  exact wpAny_pure (hQ _ fun b o e => Heap.get?_push_of_some _ (Heap.get?_push_of_some _ e))
end
end Mine

end
section
open PySem
namespace Mine
abbrev ws (c : Nat) : Prop := c = 10 ∨ c = 9 ∨ c = 13 ∨ c = 32
/-- the line feeds among signs -/
def nls (cs : List Nat) : Nat := (cs.filter (· = 10)).length
theorem nls_nil : nls [] = 0 := rfl
theorem nls_app (a b : List Nat) : nls (a ++ b) = nls a + nls b := by simp [nls]
theorem nls_cons (c : Nat) (a : List Nat) : nls (c :: a) = (if c = 10 then 1 else 0) + nls a := by
  unfold nls
  by_cases h : c = 10
  · simp [h]; omega
  · simp [h]
/-- the reads from place p give the signs cs and end at q -/
inductive Rd (l : List Nat) : Nat → List Nat → Nat → Prop
  | nil (p : Nat) : Rd l p [] p
  | cons {p q r c : Nat} {cs : List Nat} : giveL l p = ([c], q) → Rd l q cs r → Rd l p (c :: cs) r
theorem Rd.app {l : List Nat} {p q r : Nat} {a b : List Nat} (h : Rd l p a q) (k : Rd l q b r) : Rd l p (a ++ b) r := by
  induction h with
  | nil => exact k
  | cons g _ ih => exact .cons g (ih k)
theorem Rd.split {l : List Nat} : ∀ {a b : List Nat} {p r : Nat}, Rd l p (a ++ b) r → ∃ q, Rd l p a q ∧ Rd l q b r
  | [], _, p, _, h => ⟨p, .nil _, h⟩
  | c :: a, b, p, r, h => by
    cases h with
    | cons g h =>
      obtain ⟨q, h1, h2⟩ := Rd.split (a := a) h
      exact ⟨q, .cons g h1, h2⟩
theorem Rd.inv {l : List Nat} {p r c : Nat} {cs : List Nat} (h : Rd l p (c :: cs) r) : ∃ q, giveL l p = ([c], q) ∧ Rd l q cs r := by
  cases h with
  | cons g h => exact ⟨_, g, h⟩
/-- within quotes -/
inductive TokQ : List Nat → List Nat → List Nat → Prop
  | stop (acc : List Nat) : TokQ acc [34] acc
  | esc {acc cs tok : List Nat} {c : Nat} : TokQ (acc ++ [c]) cs tok → TokQ acc (92 :: c :: cs) tok
  | chr {acc cs tok : List Nat} {c : Nat} : c ≠ 34 → c ≠ 92 → TokQ (acc ++ [c]) cs tok → TokQ acc (c :: cs) tok
/-- plain -/
inductive TokP : List Nat → List Nat → List Nat → Prop
  | stop (acc : List Nat) {c : Nat} : ws c → TokP acc [c] acc
  | esc {acc cs tok : List Nat} {c : Nat} : TokP (acc ++ [c]) cs tok → TokP acc (92 :: c :: cs) tok
  | chr {acc cs tok : List Nat} {c : Nat} : ¬ ws c → c ≠ 92 → TokP (acc ++ [c]) cs tok → TokP acc (c :: cs) tok
/-- a token: its signs, and whether the input's end has ended it -/
inductive Tok0 : List Nat → List Nat → Bool → Prop
  | fin : Tok0 [] [] true
  | skip {cs tok : List Nat} {c : Nat} {e : Bool} : ws c → Tok0 cs tok e → Tok0 (c :: cs) tok e
  | quo {cs tok : List Nat} : TokQ [] cs tok → Tok0 (34 :: cs) tok false
  | esc {cs tok : List Nat} {c : Nat} : TokP [c] cs tok → Tok0 (92 :: c :: cs) tok false
  | chr {cs tok : List Nat} {c : Nat} : ¬ ws c → c ≠ 34 → c ≠ 92 → TokP [c] cs tok → Tok0 (c :: cs) tok false
theorem give_le {l : List Nat} {p c q : Nat} (h : giveL l p = ([c], q)) : q ≤ l.length := by
  unfold giveL at h
  by_cases hc : (headL l p && (l.drop p).take 3 == [46, 13, 10]) = true
  · rw [if_pos hc] at h; cases h
  · rw [if_neg hc] at h
    dsimp only at h
    generalize (if (headL l p && (l.drop p).take 1 == [46]) = true then p + 1 else p) = r at h
    have h1 := congrArg Prod.fst h
    have h2 := congrArg Prod.snd h
    dsimp only at h1 h2
    rw [h1] at h2
    have : r < l.length := by
      refine Nat.lt_of_not_le fun hle => ?_
      rw [List.drop_eq_nil_of_le hle] at h1; cases h1
    simp at h2; omega
theorem Rd.le {l : List Nat} {p q : Nat} {cs : List Nat} (h : Rd l p cs q) (hp : p ≤ l.length) : q ≤ l.length := by
  induction h with
  | nil => exact hp
  | cons g _ ih => exact ih (give_le g)
end Mine

end
section
open PySem PySem.W PyProof.Rows
set_option maxRecDepth 100000
namespace Mine
abbrev Lx.adr (k : Lx) : List Addr := k.at_ :: k.dl :: k.xl :: k.pbl :: k.xs :: k.ds :: k.objs.map (·.1)
theorem Lx.adr_led {w : World} {k : Lx} {p : Nat} {tp : Tok} {line : Int} {tl : Tok} : (k.led w p tp line tl).map (·.1) = k.adr := rfl
theorem Lx.mem_led {w : World} {k : Lx} {p : Nat} {tp : Tok} {line : Int} {tl : Tok} {q : Addr × Obj} (h : q ∈ k.led w p tp line tl) : q.1 ∈ k.adr := by
  rw [← Lx.adr_led (w := w) (p := p) (tp := tp) (line := line) (tl := tl)]; exact List.mem_map_of_mem h
section
variable {w : World} {A : Around} {loose : List Str} {mean : ExcName → Option Value} {mg mb : Str → Option Value} {s : Shared} {h₀ : Heap} {L : Addr} {m : Str → Option Value} {k : Lx} {rest : List (Addr × Obj)} {l : List Nat} {p : Nat} {tp tl : Tok} {line : Int}
theorem read_N {R : Result → Shared → Prop} (K : k.Ok w l) (F : Fr h₀ L s.heap m) (N : News h₀ L s.heap (rest ++ k.led w p tp line tl)) (hne : ∀ q ∈ rest, q.1 ∉ k.adr) (X : (hd.heap_39 w.params).In h₀) (T : Top topProg loose mean mg mb h₀) (hp : 0 < s.toks) (hpl : p ≤ l.length)
    (a1 : A.handled = none) (a2 : A.depth ≤ 500) (a3 : A.units ≤ 1500)
    (h : ∀ (t' tp' tl' : Tok) (h' : Heap) (tk : Nat), 0 < tk → Fr h₀ L h' m → News h₀ L h' (rest ++ k.led w (giveL l p).2 tp' (line + if (giveL l p).1 = [10] then 1 else 0) tl') → R (.ok (.ret (.str (S (giveL l p).1) t'))) { s with heap := h', toks := tk }) :
    codeAny (model PySem.Challenge.rw_ny0028_01.row.prog w) A (.call (.ref 83) ⟨[.ref k.xl], []⟩) R s := by
  have Nm : News h₀ L s.heap (k.led w p tp line tl) := news_sub N fun q hq => List.mem_append_right _ hq
  have Nr : News h₀ L s.heap rest := news_sub N fun q hq => List.mem_append_left _ hq
  have e := aside_ext F Nm
  refine weakenC (read_code aside_base K (aside_muts Nm) (X.keeps e) (T.keeps e) hp hpl fun t' tp' tl' h' tk htk kk mu => ?_) a1 a2 a3
  have N1 := aside_new (mt := k.led w p tp line tl) Nm mu (by
    intro q hq
    rw [Lx.adr_led]
    exact Lx.mem_led hq)
  have N2 := aside_rest Nr (mt := k.led w p tp line tl) (by
    intro q hq z hz e
    exact hne q hq (e ▸ Lx.mem_led hz)) kk
  exact h t' tp' tl' h' tk htk (aside_fr F Nm kk) (news_app N2 N1)
theorem fn83 (X : (hd.heap_39 w.params).In h₀) : ∃ oc od fd sl, h₀.get? 83 = some ⟨oc, od, .func fd, sl⟩ := by
  w_on
  have key : (hd.heap_39 w.params).In h₀ → PySem.Challenge.rw_ny0028_01 = PySem.Challenge.rw_ny0028_01 → ∃ oc od fd sl, h₀.get? 83 = some ⟨oc, od, .func fd, sl⟩ := by
    k_fill
    intro X _
    exact ⟨_, _, _, _, X _ _ (by k_is)⟩
  exact key X rfl
theorem next_N {it q : Addr} {ts : Tok} {c q' : Nat} {Q : Option Value → Shared → Prop} {E : Value → Shared → Prop} (K : k.Ok w l) (F : Fr h₀ L s.heap m) (N : News h₀ L s.heap (rest ++ k.led w p tp line tl)) (hne : ∀ q ∈ rest, q.1 ∉ k.adr) (X : (hd.heap_39 w.params).In h₀) (T : Top topProg loose mean mg mb h₀) (hp : 0 < s.toks) (hpl : p ≤ l.length)
    (hit : (it, ciO q ts) ∈ rest) (hq : (q, methodObj (.ref 83) (.ref k.xl)) ∈ rest)
    (a1 : A.handled = none) (a2 : A.depth < 500) (a3 : A.units < 1500) (g : giveL l p = ([c], q'))
    (h : ∀ (t' tp' tl' : Tok) (h' : Heap) (tk : Nat), 0 < tk → Fr h₀ L h' m → News h₀ L h' (rest ++ k.led w q' tp' (line + if c = 10 then 1 else 0) tl') → Q (some (.str (S [c]) t')) { s with heap := h', toks := tk }) :
    wpAny (model PySem.Challenge.rw_ny0028_01.row.prog w) A (pyNext (.ref it)) Q E s := by
  obtain ⟨oc, od, fd, sl, h83⟩ := fn83 X
  refine next_ci (f := 83) (x := k.xl) a1 (N _ (List.mem_append_left _ hit)).1 (N _ (List.mem_append_left _ hq)).1 (F.keep _ _ h83) fun R hR => ?_
  refine read_N K F N hne X T hp hpl a1 (by show A.depth ≤ 500; omega) (by show A.units + 1 ≤ 1500; omega) fun t' tp' tl' h' tk htk F' N' => ?_
  rw [g] at N' ⊢
  refine hR _ _ _ (N' _ (List.mem_append_left _ hit)).1 (N' _ (List.mem_append_left _ hq)).1 (F'.keep _ _ h83) ?_
  rw [if_neg (by rw [show Str.ofString "" = S [] from by decide +kernel]; intro h; cases S_inj h)]
  refine h t' tp' tl' h' tk htk F' ?_
  have e : (if ([c], q').1 = [10] then (1 : Int) else 0) = if c = 10 then 1 else 0 := by
    by_cases hc : c = 10
    · simp [hc]
    · simp [hc]
  rw [e] at N'
  exact N'
theorem next_E {it q : Addr} {ts : Tok} {q' : Nat} {Q : Option Value → Shared → Prop} {E : Value → Shared → Prop} (K : k.Ok w l) (F : Fr h₀ L s.heap m) (N : News h₀ L s.heap (rest ++ k.led w p tp line tl)) (hne : ∀ q ∈ rest, q.1 ∉ k.adr) (X : (hd.heap_39 w.params).In h₀) (T : Top topProg loose mean mg mb h₀) (hp : 0 < s.toks) (hpl : p ≤ l.length)
    (hit : (it, ciO q ts) ∈ rest) (hq : (q, methodObj (.ref 83) (.ref k.xl)) ∈ rest)
    (a1 : A.handled = none) (a2 : A.depth < 500) (a3 : A.units < 1500) (g : giveL l p = ([], q'))
    (h : ∀ (tp' tl' : Tok) (h' : Heap) (tk : Nat), 0 < tk → Fr h₀ L h' m → News h₀ L h' (k.led w q' tp' line tl') → Q none { s with heap := h', toks := tk }) :
    wpAny (model PySem.Challenge.rw_ny0028_01.row.prog w) A (pyNext (.ref it)) Q E s := by
  obtain ⟨oc, od, fd, sl, h83⟩ := fn83 X
  refine next_ci (f := 83) (x := k.xl) a1 (N _ (List.mem_append_left _ hit)).1 (N _ (List.mem_append_left _ hq)).1 (F.keep _ _ h83) fun R hR => ?_
  refine read_N K F N hne X T hp hpl a1 (by show A.depth ≤ 500; omega) (by show A.units + 1 ≤ 1500; omega) fun t' tp' tl' h' tk htk F' N' => ?_
  rw [g] at N' ⊢
  have Nit := N' _ (List.mem_append_left _ hit)
  refine hR _ _ _ Nit.1 (N' _ (List.mem_append_left _ hq)).1 (F'.keep _ _ h83) ?_
  rw [if_pos (show S [] = Str.ofString "" from by decide +kernel)]
  intro h₂ eb _
  refine h tp' tl' h₂ tk htk ⟨F'.ns.extBut eb (Ne.symm Nit.2.1), fun b o q => eb b o (fun z => by rw [z, Nit.2.2] at q; cases q) (F'.keep b o q), F'.above⟩ fun z hz => ?_
  have Nz := N' z (List.mem_append_right _ (by simpa using hz))
  refine ⟨eb _ _ (fun e => hne _ hit ?_) Nz.1, Nz.2⟩
  have := Lx.mem_led hz
  rw [e] at this; exact this
/-- a turn's end -/
def TurnC (w : World) (k : Lx) (l : List Nat) (h₀ : Heap) (L : Addr) (rest : List (Addr × Obj)) (J : List Nat → (Str → Option Value) → Prop) (q n : Nat) (lf : Int) (R : Result → Shared → Prop) (s : Shared) (f : Flow) (s₃ : Shared) : Prop :=
  match f with
  | .ret v => R (.ok (.ret v)) s₃
  | .brk => R (.ok .next) s₃
  | _ => ∃ h' tk' m' p tp line tl cs, s₃ = { s with heap := h', toks := tk' } ∧ Fr h₀ L h' m' ∧ News h₀ L h' (rest ++ k.led w p tp line tl) ∧ p ≤ l.length ∧ Rd l p cs q ∧ line + (nls cs : Nat) = lf ∧ cs.length < n ∧ J cs m'
theorem for_ci {R : Result → Shared → Prop} {x : Str} {px : Pos} {body : List Stmt} {env : Env} {it qm : Addr} {ts : Tok} {q : Nat} {lf : Int} {cs : List Nat} (K : k.Ok w l) (F : Fr h₀ L s.heap m) (N : News h₀ L s.heap (rest ++ k.led w p tp line tl)) (hne : ∀ q ∈ rest, q.1 ∉ k.adr) (X : (hd.heap_39 w.params).In h₀) (T : Top topProg loose mean mg mb h₀) (hp : 0 < s.toks) (hpl : p ≤ l.length)
    (hit : (it, ciO qm ts) ∈ rest) (hq : (qm, methodObj (.ref 83) (.ref k.xl)) ∈ rest)
    (a1 : A.handled = none) (a2 : A.depth < 500) (a3 : A.units < 1500) (J : List Nat → (Str → Option Value) → Prop) (rd : Rd l p cs q) (hlf : line + (nls cs : Nat) = lf) (h0 : J cs m)
    (turn : ∀ (c : Nat) (cs : List Nat) m h tk p tp line tl t', J (c :: cs) m → 0 < tk → Fr h₀ L h m → News h₀ L h (rest ++ k.led w p tp line tl) → p ≤ l.length → Rd l p cs q → line + (nls cs : Nat) = lf →
      wpAny (model PySem.Challenge.rw_ny0028_01.row.prog w) A (assign (.Name x px) env (.str (S [c]) t')) (fun _ s₂ => 0 < s₂.toks → wpAny (model PySem.Challenge.rw_ny0028_01.row.prog w) A (execs body env) (TurnC w k l h₀ L rest J q (cs.length + 1) lf R s) (fun _ _ => False) s₂) (fun _ _ => False) { s with heap := h, toks := tk })
    (done : ∀ m, J [] m → ∃ q', giveL l q = ([], q') ∧ ∀ h tk tp tl, 0 < tk → Fr h₀ L h m → News h₀ L h (k.led w q' tp lf tl) → R (.ok .next) { s with heap := h, toks := tk }) :
    codeAny (model PySem.Challenge.rw_ny0028_01.row.prog w) A (.forLoop (.Name x px) (.ref it) body [] env) R s := by
  refine codeAny_forLoop_any (fun n s' => ∃ h' tk' m' p tp line tl cs, s' = { s with heap := h', toks := tk' } ∧ 0 < tk' ∧ Fr h₀ L h' m' ∧ News h₀ L h' (rest ++ k.led w p tp line tl) ∧ p ≤ l.length ∧ Rd l p cs q ∧ line + (nls cs : Nat) = lf ∧ n = cs.length ∧ J cs m') ?_ cs.length
    ⟨s.heap, s.toks, m, p, tp, line, tl, cs, rfl, hp, F, N, hpl, rd, hlf, rfl, h0⟩
  rintro n s' ⟨h', tk', m', p, tp, line, tl, cs, rfl, hp', F', N', hpl', rd', hlf', rfl, hJ⟩
  cases cs with
  | nil =>
    cases rd'
    obtain ⟨q', g, hd⟩ := done m' hJ
    rw [nls_nil] at hlf'
    refine next_E K F' N' hne X T hp' hpl' hit hq a1 a2 a3 g fun tp' tl' h₁ tk₁ hp₁ F₁ N₁ => ?_
    refine wpAny_execs_nil (hd h₁ tk₁ tp' tl' hp₁ F₁ ?_)
    rw [← hlf', Int.natCast_zero, Int.add_zero]; exact N₁
  | cons c cs =>
    obtain ⟨r, g, rd₁⟩ := rd'.inv
    refine next_N K F' N' hne X T hp' hpl' hit hq a1 a2 a3 g fun t' tp' tl' h₁ tk₁ hp₁ F₁ N₁ => ?_
    refine wpAny_of_eq (a := ()) rfl ?_
    have hl₁ : line + (if c = 10 then 1 else 0) + (nls cs : Nat) = lf := by
      rw [nls_cons] at hlf'
      rw [← hlf']
      split <;> simp <;> omega
    refine wpAny_mono (plus_T (s := { s with heap := h₁, toks := tk₁ }) hp₁ (turn c cs m' h₁ tk₁ r tp' _ tl' t' hJ hp₁ F₁ N₁ (give_le g) rd₁ hl₁)) (fun _ s₂ x => ?_) fun _ _ x => x.elim
    obtain ⟨g₂, p₂, x⟩ := x
    refine wpAny_mono (plus_T p₂ (x p₂)) (fun f s₃ y => ?_) fun _ _ x => x.elim
    obtain ⟨g₃, p₃, y⟩ := y
    have fin : (∃ h' tk' m' p tp line tl cs', s₃ = { s with heap := h', toks := tk' } ∧ Fr h₀ L h' m' ∧ News h₀ L h' (rest ++ k.led w p tp line tl) ∧ p ≤ l.length ∧ Rd l p cs' q ∧ line + (nls cs' : Nat) = lf ∧ cs'.length < cs.length + 1 ∧ J cs' m') →
        ∃ n, n < (c :: cs).length ∧ ∃ h' tk' m' p tp line tl cs, s₃ = { s with heap := h', toks := tk' } ∧ 0 < tk' ∧ Fr h₀ L h' m' ∧ News h₀ L h' (rest ++ k.led w p tp line tl) ∧ p ≤ l.length ∧ Rd l p cs q ∧ line + (nls cs : Nat) = lf ∧ n = cs.length ∧ J cs m' := by
      rintro ⟨h', tk', m', p, tp, line, tl, cs', rfl, b1, b2, b3, b4, b5, b6, b7⟩
      exact ⟨cs'.length, b6, h', tk', m', p, tp, line, tl, cs', rfl, p₃, b1, b2, b3, b4, b5, rfl, b7⟩
    cases f with
    | ret v => exact y
    | brk => exact y
    | next => exact fin y
    | cont => exact fin y
end
end Mine

end
section
open PySem PySem.W PyProof.Rows
set_option maxRecDepth 100000
namespace Mine
local macro_rules | `(tactic| walk_at "execs cons") => `(tactic| (k_here; (refine execs_T (by first | assumption | exact Nat.succ_pos _ | (dsimp only; omega)) ?_); intro tk htk; (try dsimp only)))
local macro_rules | `(tactic| walk_at "exec For") => `(tactic| (k_here; k_dflt (refine wpAny_For ?_)))
local macro_rules | `(tactic| walk_at "exec For Name Name cons nil") => `(tactic| (k_here; k_dflt (refine wpAny_For ?_)))
local macro_rules | `(tactic| walk_at "pyIter ref") => `(tactic| (k_here; fail "mine"))
local macro_rules | `(tactic| k_all) => `(tactic| assumption)
local macro_rules | `(tactic| walk_at "exec If") => `(tactic| (k_here; (with_reducible show wpAny _ _ (exec (Stmt.If _ _ _ ⟨44, _, _, _⟩) _) _ _ _); refine hold ?_))
/-- behind the first sign of a plain token -/
def TokMid (w : World) (k : Lx) (l : List Nat) (h₀ : Heap) (L : Addr) (rest : List (Addr × Obj)) (it : Addr) (tok : List Nat) (e : Bool) (q : Nat) (lf : Int) (s : Shared) (f : Flow) (s' : Shared) : Prop :=
  f = .next ∧ ∃ h' tk' m' c t tt p tp line tl cs, s' = { s with heap := h', toks := tk' } ∧ Fr h₀ L h' m' ∧ News h₀ L h' (rest ++ k.led w p tp line tl) ∧ p ≤ l.length ∧ Rd l p cs q ∧ line + (nls cs : Nat) = lf ∧ TokP [c] cs tok ∧ 1 + cs.length ≤ 2000 ∧ e = false ∧
    ∀ p ∈ [(Str.ofString "self", Value.ref k.xl), (Str.ofString "token", Value.str (S []) tt), (Str.ofString "ch", Value.str (S [c]) t), (Str.ofString "fiter", Value.ref it)], m' p.1 = some p.2
theorem iter_N {prog : Program} {w : World} {A : Around} {s : Shared} {h₀ : Heap} {L : Addr} {m : Str → Option Value} {news : List (Addr × Obj)} {q f x : Addr} {ts : Tok} {Q E : Value → Shared → Prop} (F : Fr h₀ L s.heap m) (N : News h₀ L s.heap news) (hm : (q, methodObj (.ref f) (.ref x)) ∈ news)
    (h : ∀ (it : Addr) (h' : Heap), Fr h₀ L h' m → News h₀ L h' ((it, ciO q ts) :: news) → (∀ p ∈ news, p.1 < it) → Q (.ref it) { s with heap := h' }) :
    wpAny (model prog w) A (call (.builtin "iter") [.ref q, .str (Str.ofString "") ts]) Q E s :=
  iter_call (N _ hm).1 (h _ _ (F.push _) (newsCons F N (fun _ _ e => Heap.get?_push_of_some _ e) (none_of_size (Nat.le_refl _)) (Heap.get?_push_size _ rfl)) fun p hp => Heap.lt_size (N p hp).1)
theorem allLt_all {d : Addr} {l : List (Addr × Obj)} (h : AllLt d l) : ∀ p ∈ l, p.1 < d := by
  induction l with
  | nil => intro p hp; cases hp
  | cons q r ih =>
    intro p hp
    rcases List.mem_cons.mp hp with rfl | hp
    · exact h.1
    · exact ih h.2 p hp
theorem in_ws (c : Nat) : (Builtin.Str.occurrences (Str.ofString "\n\t\x0d ") (S [c]) 0 (Str.ofString "\n\t\x0d ").length 1).isEmpty = !decide (ws c) := by
  have h := StrLaws.found_one (Str.ofString "\n\t\x0d ") c
  rw [show (Str.ofString "\n\t\x0d ").cps.toList = [10, 9, 13, 32] from by decide +kernel] at h
  rw [← Bool.not_not (List.isEmpty _), show (!(Builtin.Str.occurrences (Str.ofString "\n\t\x0d ") (S [c]) 0 (Str.ofString "\n\t\x0d ").length 1).isEmpty) = _ from h]
  refine congrArg (!·) ?_
  rw [decide_eq_decide]
  simp
theorem is_sign (c d : Nat) : (S [c] == S [d]) = decide (c = d) := by
  by_cases e : c = d
  · rw [e, decide_eq_true rfl]; exact beq_self_eq_true _
  · rw [decide_eq_false e, beq_eq_false_iff_ne]
    intro h
    exact e (by simpa using S_inj h)
theorem Tok0.ws' {c : Nat} {cs tok : List Nat} {e : Bool} (h : Tok0 (c :: cs) tok e) (hw : ws c) : Tok0 cs tok e := by
  cases h with
  | skip _ h => exact h
  | quo _ => exact absurd hw (by unfold ws; decide)
  | esc _ => exact absurd hw (by unfold ws; decide)
  | chr h _ _ _ => exact absurd hw h
theorem Tok0.q' {cs tok : List Nat} {e : Bool} (h : Tok0 (34 :: cs) tok e) : e = false ∧ TokQ [] cs tok := by
  cases h with
  | skip h _ => exact absurd h (by unfold ws; decide)
  | quo h => exact ⟨rfl, h⟩
  | chr _ h _ _ => exact absurd rfl h
theorem Tok0.e' {cs tok : List Nat} {e : Bool} (h : Tok0 (92 :: cs) tok e) : e = false ∧ ∃ c cs', cs = c :: cs' ∧ TokP [c] cs' tok := by
  cases h with
  | skip h _ => exact absurd h (by unfold ws; decide)
  | esc h => exact ⟨rfl, _, _, rfl, h⟩
  | chr _ _ h _ => exact absurd rfl h
theorem Tok0.c' {c : Nat} {cs tok : List Nat} {e : Bool} (h : Tok0 (c :: cs) tok e) (h1 : ¬ ws c) (h2 : c ≠ 34) (h3 : c ≠ 92) : e = false ∧ TokP [c] cs tok := by
  cases h with
  | skip h _ => exact absurd h h1
  | quo _ => exact absurd rfl h2
  | esc _ => exact absurd rfl h3
  | chr _ _ _ h => exact ⟨rfl, h⟩
theorem TokQ.s' {acc cs tok : List Nat} (h : TokQ acc (34 :: cs) tok) : cs = [] ∧ acc = tok := by
  cases h with
  | stop _ => exact ⟨rfl, rfl⟩
  | chr h _ _ => exact absurd rfl h
theorem TokQ.e' {acc cs tok : List Nat} (h : TokQ acc (92 :: cs) tok) : ∃ c cs', cs = c :: cs' ∧ TokQ (acc ++ [c]) cs' tok := by
  cases h with
  | esc h => exact ⟨_, _, rfl, h⟩
  | chr _ h _ => exact absurd rfl h
theorem TokQ.c' {acc cs tok : List Nat} {c : Nat} (h : TokQ acc (c :: cs) tok) (h1 : c ≠ 34) (h2 : c ≠ 92) : TokQ (acc ++ [c]) cs tok := by
  cases h with
  | stop _ => exact absurd rfl h1
  | esc _ => exact absurd rfl h2
  | chr _ _ h => exact h
theorem TokP.s' {acc cs tok : List Nat} {c : Nat} (h : TokP acc (c :: cs) tok) (hw : ws c) : cs = [] ∧ acc = tok := by
  cases h with
  | stop _ _ => exact ⟨rfl, rfl⟩
  | esc _ => exact absurd hw (by decide)
  | chr h _ _ => exact absurd hw h
theorem TokP.e' {acc cs tok : List Nat} (h : TokP acc (92 :: cs) tok) : ∃ c cs', cs = c :: cs' ∧ TokP (acc ++ [c]) cs' tok := by
  cases h with
  | stop _ h => exact absurd h (by decide)
  | esc h => exact ⟨_, _, rfl, h⟩
  | chr _ h _ => exact absurd rfl h
theorem TokP.c' {acc cs tok : List Nat} {c : Nat} (h : TokP acc (c :: cs) tok) (h1 : ¬ ws c) (h2 : c ≠ 92) : TokP (acc ++ [c]) cs tok := by
  cases h with
  | stop _ h => exact absurd h h1
  | esc _ => exact absurd rfl h2
  | chr _ _ h => exact h
theorem sg_yes {c d : Nat} {x : Str} (h : (S [c] == x) = true) (e : x = S [d]) : c = d := by
  rw [e, is_sign] at h; exact of_decide_eq_true h
theorem sg_no {c d : Nat} {x : Str} (h : (S [c] == x) = false) (e : x = S [d]) : c ≠ d := by
  rw [e, is_sign] at h; exact of_decide_eq_false h
theorem q34 : Str.ofString "\"" = S [34] := by decide +kernel
theorem q92 : Str.ofString "\\" = S [92] := by decide +kernel
theorem tok_more {acc : List Nat} {c : Nat} {t : Tok} : ∃ t', some (Value.str (S acc ++ S [c]) t) = some (.str (S (acc ++ [c])) t') := ⟨t, by rw [S_app]⟩
theorem line_more {line lf : Int} {c : Nat} {cs : List Nat} (h : line + (nls (c :: cs) : Nat) = lf) : line + (if ([c], 0).1 = [10] then 1 else 0) + (nls cs : Nat) = lf := by
  rw [nls_cons] at h
  by_cases e : c = 10
  · simp [e] at h ⊢; omega
  · simp [e] at h ⊢; omega
set_option maxHeartbeats 2000000 in
theorem tok_spec {w : World} {loose : List Str} {mean : ExcName → Option Value} {mg mb : Str → Option Value} {s : Shared} {h₀ : Heap} {k : Lx} {l : List Nat} {p q p' : Nat} {tp tl : Tok} {line : Int} {cs tok : List Nat} {e : Bool} {Q E : Value → Shared → Prop}
    (b : Base h₀ s.heap) (K : k.Ok w l) (mu : Muts h₀ s.heap (k.led w p tp line tl)) (X : (hd.heap_39 w.params).In h₀) (T : Top topProg loose mean mg mb h₀) (hp : 0 < s.toks) (hpl : p ≤ l.length)
    (tk0 : Tok0 cs tok e) (rd : Rd l p cs q) (hlen : cs.length ≤ 2000) (he : if e = true then giveL l q = ([], p') else p' = q)
    (h : ∀ (t' tp' tl' : Tok) (h' : Heap) (tk : Nat), 0 < tk → (∀ b o, h₀.get? b = some o → h'.get? b = some o) → Muts h₀ h' (k.led w p' tp' (line + (nls cs : Nat)) tl') → Q (.str (S tok) t') { s with heap := h', toks := tk }) :
    wpAny (model PySem.Challenge.rw_ny0028_01.row.prog w) (Ar 400 1200) (call (.ref 90) [.ref k.xl]) Q E s := by
  w_on
  refine wpAny_call ?_
  revert X; k_fill; intro X
  have hadr : ∀ a ∈ k.adr, a < s.heap.objs.size := by
    intro a ha
    rw [← Lx.adr_led (w := w) (p := p) (tp := tp) (line := line) (tl := tl)] at ha
    obtain ⟨z, hz, rfl⟩ := List.mem_map.mp ha
    exact Heap.lt_size (mu z hz).1
  refine enterH (binds := [(Str.ofString "self", .ref k.xl)]) b mu X T (by k_is) (by k_is) (by decide) (BindsTo.of_eq rfl) (locs rfl) ?_ rfl rfl rfl (by decide)
  intro L h₁ hL F N
  dsimp only [Lx.led] at N
  try dsimp only
  k_steps
  rename Fr _ _ _ _ => F1
  rename News _ _ _ _ => N1
  rename _ ∧ _ => l1
  refine iter_N F1 N1 (.head _) ?_
  intro it h2 F2 N2 l2
  clear F1 N1
  k_steps
  rename Fr _ _ _ _ => F3
  rename News _ _ _ _ => N3
  refine pyIter_ci (N3 _ (.head _)).1 ?_
  rename_i tkB htkB tkC htkC hA hpA tkD htkD qm hB hC hpC tkE htkE
  have hne : ∀ z ∈ [(it, ciO qm (tkD + 1)), (qm, methodObj (Value.ref 83) (Value.ref k.xl))], z.1 ∉ k.adr := by
    have g1 : ∀ a ∈ k.adr, a < qm := by
      intro a ha
      have l1' : AllLt qm (k.led w p tp line tl) := l1
      rw [← Lx.adr_led (w := w) (p := p) (tp := tp) (line := line) (tl := tl)] at ha
      obtain ⟨z, hz, rfl⟩ := List.mem_map.mp ha
      exact allLt_all l1' z hz
    have g2 : ∀ a ∈ k.adr, a < it := by
      intro a ha
      rw [← Lx.adr_led (w := w) (p := p) (tp := tp) (line := line) (tl := tl)] at ha
      obtain ⟨z, hz, rfl⟩ := List.mem_map.mp ha
      exact l2 z (.tail _ hz)
    intro z hz ha
    rcases List.mem_cons.mp hz with rfl | hz
    · exact Nat.lt_irrefl _ (g2 _ ha)
    · rw [List.mem_singleton.mp hz] at ha; exact Nat.lt_irrefl _ (g1 _ ha)
  refine for_ci (rest := [(it, ciO qm (tkD + 1)), (qm, methodObj (Value.ref 83) (Value.ref k.xl))]) (lf := line + (nls cs : Nat)) K F3 N3 hne X T (by first | assumption | exact Nat.succ_pos _ | (dsimp only; omega)) hpl (.head _) (.tail _ (.head _)) rfl (Nat.le_of_ble_eq_true rfl) (Nat.le_of_ble_eq_true rfl)
    (fun cs m => Tok0 cs tok e ∧ cs.length ≤ 2000 ∧ m (Str.ofString "self") = some (.ref k.xl) ∧ (∃ t, m (Str.ofString "token") = some (.str (S []) t)) ∧ m (Str.ofString "fiter") = some (.ref it)) rd rfl
    ⟨tk0, hlen, rfl, ⟨_, by rw [show S [] = Str.ofString "" from by decide +kernel]; rfl⟩, rfl⟩ ?_ ?_
  · rintro c cs₁ m₁ h₄ tk₄ p₁ tp₁ line₁ tl₁ t₁ ⟨tok0, hlen₁, hm1, ⟨tt, hm2⟩, hm3⟩ htk₄ F₄ N₄ hpl₁ rd₁ hlf₁
    have F5 := fr_set (fr_set (fr_set F₄ hm1) (by exact hm2 : (fun y => if y = Str.ofString "self" then _ else m₁ y) (Str.ofString "token") = _)) (by exact hm3 : (fun y => if y = Str.ofString "token" then _ else (if y = Str.ofString "self" then _ else m₁ y)) (Str.ofString "fiter") = _)
    clear F₄ F3 N3
    dsimp only [Lx.led, List.cons_append, List.nil_append] at N₄
    have hz0 := S_len ([] : List Nat)
    have hz1 := S_len [c]
    k_steps
    all_goals (rename Fr _ _ _ _ => F6; rename News _ _ _ _ => N6; rename ((Builtin.Str.occurrences _ _ _ _ _).isEmpty = _) => hin; rw [in_ws] at hin)
    · have hw : ¬ ws c := by
        intro hq; rw [decide_eq_true hq] at hin; cases hin
      rename (_ == _) = true => hq
      rw [show Str.ofString "\"" = S [34] from by decide +kernel, is_sign] at hq
      have hq := of_decide_eq_true hq
      subst hq
      obtain ⟨rfl, tq⟩ := tok0.q'
      rw [if_neg (by decide)] at he
      subst he
      refine pyIter_ci (N6 _ (.head _)).1 ?_
      refine for_ci (rest := [(it, ciO qm (tkD + 1)), (qm, methodObj (Value.ref 83) (Value.ref k.xl))]) (p := p₁) (tp := tp₁) (line := line₁) (tl := tl₁) (lf := line + (nls cs : Nat)) K F6 N6 hne X T (by first | assumption | exact Nat.succ_pos _ | (dsimp only; omega)) hpl₁ (.head _) (.tail _ (.head _)) rfl (Nat.le_of_ble_eq_true rfl) (Nat.le_of_ble_eq_true rfl)
        (fun cs m => ∃ acc, TokQ acc cs tok ∧ acc.length + cs.length ≤ 2000 ∧ m (Str.ofString "self") = some (.ref k.xl) ∧ (∃ t, m (Str.ofString "token") = some (.str (S acc) t))) rd₁ hlf₁
        ⟨[], tq, by simp at hlen₁ ⊢; omega, rfl, ⟨_, rfl⟩⟩ ?_ ?_
      · rintro c cs₂ m₂ h₇ tk₇ p₂ tp₂ line₂ tl₂ t₂ ⟨acc, tq, hlen₂, hm4, ⟨tt2, hm5⟩⟩ htk₇ F₇ N₇ hpl₂ rd₂ hlf₂
        have F8 := fr_set (fr_set F₇ hm4) (by exact hm5 : (fun y => if y = Str.ofString "self" then _ else m₂ y) (Str.ofString "token") = _)
        clear F₇ F6 N6
        dsimp only [Lx.led, List.cons_append, List.nil_append] at N₇
        have hz := S_len acc
        have hz1 := S_len [c]
        k_steps
        all_goals (rename Fr _ _ _ _ => F9; rename News _ _ _ _ => N9)
        · rename (_ == Str.ofString "\"") = true => hq
          have hq := sg_yes hq q34
          subst hq
          obtain ⟨rfl, rfl⟩ := tq.s'
          cases rd₂
          rw [nls_nil, Int.natCast_zero, Int.add_zero] at hlf₂
          subst hlf₂
          dsimp only [TurnC]
          intro _ _ _
          exact h _ _ _ _ _ (by assumption) F9.keep (newsPick N9 fun p hp => .tail _ (.tail _ hp))
        · rename (_ == Str.ofString "\\") = true => hq
          have hq := sg_yes hq q92
          subst hq
          obtain ⟨c, cs₃, e3, tq2⟩ := tq.e'
          subst e3
          obtain ⟨r, g, rd₃⟩ := rd₂.inv
          refine wpAny_call (read_N (rest := [(it, ciO qm (tkD + 1)), (qm, methodObj (Value.ref 83) (Value.ref k.xl))]) (p := p₂) (tp := tp₂) (line := line₂) (tl := tl₂) K F9 N9 hne X T (by first | assumption | exact Nat.succ_pos _ | (dsimp only; omega)) hpl₂ rfl (Nat.le_of_ble_eq_true rfl) (Nat.le_of_ble_eq_true rfl) ?_)
          intro t₄ tp₄ tl₄ h₈ tk₈ htk₈ F10 N10
          rw [g] at N10 ⊢
          have hl3 := line_more hlf₂
          clear F9 N9
          dsimp only [Lx.led, List.cons_append, List.nil_append] at N10 ⊢
          have hz1 := S_len [c]
          k_steps
          rename Fr _ _ _ _ => F11
          rename News _ _ _ _ => N11
          exact ⟨_, _, _, r, tp₄, _, tl₄, cs₃, rfl, F11, N11, give_le g, rd₃, hl3, by simp only [List.length_cons]; omega, acc ++ [c], tq2, by simp at hlen₂ ⊢; omega, rfl, tok_more⟩
        · have h1 := sg_no (by assumption) q34
          have h2 := sg_no (by assumption) q92
          exact ⟨_, _, _, p₂, tp₂, line₂, tl₂, cs₂, rfl, F9, N9, hpl₂, rd₂, hlf₂, by simp, acc ++ [c], tq.c' h1 h2, by simp at hlen₂ ⊢; omega, rfl, tok_more⟩
      · rintro m₂ ⟨acc, tq, _⟩
        cases tq
    rotate_right
    · have hw : ws c := by
        by_cases hq : ws c
        · exact hq
        · rw [decide_eq_false hq] at hin; cases hin
      exact ⟨_, _, _, p₁, tp₁, line₁, tl₁, cs₁, rfl, F6, N6, hpl₁, rd₁, hlf₁, by simp, tok0.ws' hw, by simp at hlen₁; omega, rfl, ⟨_, rfl⟩, rfl⟩
    · have hw : ¬ ws c := by
        intro hq; rw [decide_eq_true hq] at hin; cases hin
      have h1 := sg_no (by assumption) q34
      clear hin
      delta Hold
      refine toks_T (by first | assumption | exact Nat.succ_pos _ | (dsimp only; omega)) (wpAny_mono (Q := TokMid w k l h₀ L [(it, ciO qm (tkD + 1)), (qm, methodObj (Value.ref 83) (Value.ref k.xl))] it tok e q (line + (nls cs : Nat)) s) (E := fun _ _ => False) ?wif ?wrest (fun _ _ h => h.elim))
      case wif =>
        refine wpAny_If ?_
        k_steps
        all_goals (rename Fr _ _ _ _ => F6; rename News _ _ _ _ => N6)
        · rename (_ == Str.ofString "\\") = true => hq
          have hq := sg_yes hq q92
          subst hq
          obtain ⟨ee, c, cs₂, e3, tp9⟩ := tok0.e'
          subst e3
          obtain ⟨r₀, g0, rd₀⟩ := rd₁.inv
          refine wpAny_call (read_N (rest := [(it, ciO qm (tkD + 1)), (qm, methodObj (Value.ref 83) (Value.ref k.xl))]) (p := p₁) (tp := tp₁) (line := line₁) (tl := tl₁) K F6 N6 hne X T (by first | assumption | exact Nat.succ_pos _ | (dsimp only; omega)) hpl₁ rfl (Nat.le_of_ble_eq_true rfl) (Nat.le_of_ble_eq_true rfl) ?_)
          intro t₀ tp₀ tl₀ h₈ tk₈ htk₈ F10 N10
          rw [g0] at N10 ⊢
          have hl0 := line_more hlf₁
          clear F6 N6
          dsimp only [Lx.led, List.cons_append, List.nil_append] at N10 ⊢
          have hz0 := S_len ([] : List Nat)
          have hz1 := S_len [c]
          k_steps
          rename Fr _ _ _ _ => F7a
          rename News _ _ _ _ => N7a

          exact ⟨rfl, _, _, _, c, _, _, r₀, tp₀, _, tl₀, cs₂, rfl, F7a, N7a, give_le g0, rd₀, hl0, tp9, by simp at hlen₁ ⊢; omega, ee, by repeat' (first | exact List.forall_mem_nil _ | refine List.forall_mem_cons.mpr ⟨rfl, ?_⟩)⟩
        · have h2 := sg_no (by assumption) q92
          obtain ⟨ee, tp9⟩ := tok0.c' hw h1 h2
          exact ⟨rfl, _, _, _, c, _, _, p₁, tp₁, line₁, tl₁, cs₁, rfl, F6, N6, hpl₁, rd₁, hlf₁, tp9, by simp at hlen₁ ⊢; omega, ee, by repeat' (first | exact List.forall_mem_nil _ | refine List.forall_mem_cons.mpr ⟨rfl, ?_⟩)⟩
      case wrest =>
        rintro _ _ ⟨rfl, h₅, tk₅, m₅, c, t₅, tt₅, p₅, tp₅, line₅, tl₅, cs₅, rfl, F₅, N₅, hpl₅, rd₅, hlf₅, tp9, hlen₅, ee, hm₅⟩ htk₅
        subst ee
        rw [if_neg (by decide)] at he
        subst he
        have F5a := fr_sets _ F₅ hm₅
        dsimp only [setsOf] at F5a
        clear F6 N6 F₅
        dsimp only [Lx.led, List.cons_append, List.nil_append] at N₅
        intro _
        dsimp only
        have hz0 := S_len ([] : List Nat)
        have hz1 := S_len [c]
        k_steps
        rename Fr _ _ _ _ => F6a
        rename News _ _ _ _ => N6a
        refine pyIter_ci (N6a _ (.head _)).1 ?_
        refine for_ci (rest := [(it, ciO qm (tkD + 1)), (qm, methodObj (Value.ref 83) (Value.ref k.xl))]) (p := p₅) (tp := tp₅) (line := line₅) (tl := tl₅) (lf := line + (nls cs : Nat)) K F6a N6a hne X T (by first | assumption | exact Nat.succ_pos _ | (dsimp only; omega)) hpl₅ (.head _) (.tail _ (.head _)) rfl (Nat.le_of_ble_eq_true rfl) (Nat.le_of_ble_eq_true rfl)
          (fun cs m => ∃ acc, TokP acc cs tok ∧ acc.length + cs.length ≤ 2000 ∧ m (Str.ofString "self") = some (.ref k.xl) ∧ (∃ t, m (Str.ofString "token") = some (.str (S acc) t))) rd₅ hlf₅
          ⟨[c], tp9, by simp at hlen₅ ⊢; omega, rfl, tok_more⟩ ?_ ?_
        · rintro c cs₂ m₂ h₇ tk₇ p₂ tp₂ line₂ tl₂ t₂ ⟨acc, tq, hlen₂, hm4, ⟨tt2, hm5⟩⟩ htk₇ F₇ N₇ hpl₂ rd₂ hlf₂
          have F8 := fr_set (fr_set F₇ hm4) (by exact hm5 : (fun y => if y = Str.ofString "self" then _ else m₂ y) (Str.ofString "token") = _)
          clear F₇ F6a N6a
          dsimp only [Lx.led, List.cons_append, List.nil_append] at N₇
          have hz := S_len acc
          have hz1 := S_len [c]
          k_steps
          all_goals (rename Fr _ _ _ _ => F9; rename News _ _ _ _ => N9; rename ((Builtin.Str.occurrences _ _ _ _ _).isEmpty = _) => hin; rw [in_ws] at hin)
          · have hw : ¬ ws c := by
              intro hq; rw [decide_eq_true hq] at hin; cases hin
            rename (_ == Str.ofString "\\") = true => hq
            have hq := sg_yes hq q92
            subst hq
            obtain ⟨c, cs₃, e3, tq2⟩ := tq.e'
            subst e3
            obtain ⟨r, g, rd₃⟩ := rd₂.inv
            refine wpAny_call (read_N (rest := [(it, ciO qm (tkD + 1)), (qm, methodObj (Value.ref 83) (Value.ref k.xl))]) (p := p₂) (tp := tp₂) (line := line₂) (tl := tl₂) K F9 N9 hne X T (by first | assumption | exact Nat.succ_pos _ | (dsimp only; omega)) hpl₂ rfl (Nat.le_of_ble_eq_true rfl) (Nat.le_of_ble_eq_true rfl) ?_)
            intro t₄ tp₄ tl₄ h₈ tk₈ htk₈ F10 N10
            rw [g] at N10 ⊢
            have hl3 := line_more hlf₂
            clear F9 N9
            dsimp only [Lx.led, List.cons_append, List.nil_append] at N10 ⊢
            have hz1 := S_len [c]
            k_steps
            rename Fr _ _ _ _ => F11
            rename News _ _ _ _ => N11
            exact ⟨_, _, _, r, tp₄, _, tl₄, cs₃, rfl, F11, N11, give_le g, rd₃, hl3, by simp only [List.length_cons]; omega, acc ++ [c], tq2, by simp at hlen₂ ⊢; omega, rfl, tok_more⟩
          · have hw : ¬ ws c := by
              intro hq; rw [decide_eq_true hq] at hin; cases hin
            have h2 := sg_no (by assumption) q92
            exact ⟨_, _, _, p₂, tp₂, line₂, tl₂, cs₂, rfl, F9, N9, hpl₂, rd₂, hlf₂, by simp, acc ++ [c], tq.c' hw h2, by simp at hlen₂ ⊢; omega, rfl, tok_more⟩
          · have hw : ws c := by
              by_cases hq : ws c
              · exact hq
              · rw [decide_eq_false hq] at hin; cases hin
            obtain ⟨e3, e4⟩ := tq.s' hw
            subst e3 e4
            cases rd₂
            rw [nls_nil, Int.natCast_zero, Int.add_zero] at hlf₂
            subst hlf₂
            dsimp only [TurnC]
            intro _ _ _
            exact h _ _ _ _ _ (by assumption) F9.keep (newsPick N9 fun p hp => .tail _ (.tail _ hp))
        · rintro m₂ ⟨acc, tq, _⟩
          cases tq
  · rintro m₁ ⟨tok0, hlen₁, hm1, ⟨tt, hm2⟩, hm3⟩
    cases tok0
    rw [if_pos rfl] at he
    refine ⟨p', he, fun h₄ tk₄ tp₄ tl₄ htk₄ F₄ N₄ => ?_⟩
    have F5 := fr_set F₄ hm2
    clear F₄ F3 N3
    intro _
    dsimp only
    k_steps
    exact h _ _ _ _ _ (by assumption) (Fr.keep (by assumption)) (newsPick N₄ fun p hp => hp)
end Mine

end
section
open PySem PySem.W PyProof.Rows
set_option maxRecDepth 100000
namespace Mine
section
variable {w : World} {A : Around} {h₀ : Heap} {L : Addr} {m : Str → Option Value} {news : List (Addr × Obj)} {loose : List Str} {mean : ExcName → Option Value} {mg mb : Str → Option Value} {s : Shared} {Q E : Value → Shared → Prop}
theorem figs_N {a : Addr} {vs : List Value} {ns : List Int} (F : Fr h₀ L s.heap m) (N : News h₀ L s.heap news) (X : (hd.heap_39 w.params).In h₀) (T : Top topProg loose mean mg mb h₀) (hp : 0 < s.toks) (hl : h₀.IsList a vs.toArray) (hi : IntsAre vs ns) (hn : ns.length ≤ 63) (a1 : A.handled = none) (a2 : A.depth ≤ 800) (a3 : A.units ≤ 4000)
    (h : ∀ (a : Addr) vs ns n h' tk, 0 < tk → Fr h₀ L h' m → News h₀ L h' ((a, listOf vs.toArray n) :: news) → IntsAre vs ns → ns.length ≤ 20 → (∀ a ∈ ns, 0 ≤ a ∧ a < 16) → Q (.ref a) { s with heap := h', toks := tk }) :
    wpAny (model PySem.Challenge.rw_ny0028_01.row.prog w) A (call (.ref 111) [.ref a]) Q E s :=
  toks_T hp (weaken (figs_spec (X.keeps F.keep) (T.keeps F.keep) hp (hl.at fun o e => F.keep _ _ e) hi hn fun a vs ns n h' tk e1 e2 e3 e4 e5 e6 htk =>
    h a vs ns n h' tk htk (frExt F e1) (newsCons F N e1 e2 e3) e4 e5 e6) a1 a2 a3)
theorem newsNew {h h' : Heap} {fz : List (Addr × Obj)} (F : Fr h₀ L h m) (e2 : ∀ p ∈ fz, h'.get? p.1 = some p.2 ∧ h.get? p.1 = none) : News h₀ L h' fz := by
  intro p hp
  refine ⟨(e2 p hp).1, fun q => ?_, ?_⟩
  · obtain ⟨oL, _, _, hL, _⟩ := F.ns
    have := (e2 p hp).2
    rw [show p.1 = L from q, hL] at this; cases this
  · cases q : h₀.get? p.1 with
    | none => rfl
    | some o => have := F.keep _ _ q; rw [(e2 p hp).2] at this; cases this
theorem msgs_N {a : Addr} {vs : List Value} {ns : List Int} {n : Nat} (F : Fr h₀ L s.heap m) (N : News h₀ L s.heap ((a, listOf vs.toArray n) :: news)) (X : (hd.heap_39 w.params).In h₀) (T : Top topProg loose mean mg mb h₀) (hp : 0 < s.toks) (hi : IntsAre vs ns) (hn : ns.length ≤ 20) (hr : ∀ a ∈ ns, 0 ≤ a ∧ a < 16) (a1 : A.handled = none) (a2 : A.depth ≤ 800) (a3 : A.units ≤ 4000)
    (h : ∀ (a : Addr) (fz : List (Addr × Obj)) ms h' tk, 0 < tk → Fr h₀ L h' m → News h₀ L h' (news ++ fz) → (∀ p ∈ fz, s.heap.get? p.1 = none) → MsgsIn (fun b o => (b, o) ∈ fz) a ms → OkMsgs ms → msz ms ≤ 42 → ms ≠ [] → Q (.ref a) { s with heap := h', toks := tk }) :
    wpAny (model PySem.Challenge.rw_ny0028_01.row.prog w) A (call (.ref 118) [.ref a]) Q E s :=
  toks_T hp (weaken (msgs_spec (X.keeps F.keep) (T.keeps F.keep) hp (N.isList (.head _)) hi hn hr fun a fz ms h' tk e1 e2 e3 e4 e5 e6 htk =>
    h a fz ms h' tk htk (frExt F e1) (news_app (newsExt (news_sub N fun p hp => .tail _ hp) e1) (newsNew F e2)) (fun p hp => (e2 p hp).2) e3 e4 e5 e6) a1 a2 a3)
theorem writ_N {a : Addr} {ws : List (Nat × List Nat)} (F : Fr h₀ L s.heap m) (N : News h₀ L s.heap news) (X : (hd.heap_39 w.params).In h₀) (T : Top topProg loose mean mg mb h₀) (hp : 0 < s.toks) (hm : MsgIn (fun b o => (b, o) ∈ news) a ws) (hok : ∀ p ∈ ws, OkWord p) (hsz : wsz ws ≤ 50) (a1 : A.handled = none) (a2 : A.depth ≤ 700) (a3 : A.units ≤ 3000)
    (h : ∀ (t : Tok) h' tk, 0 < tk → Fr h₀ L h' m → News h₀ L h' news → (written ws).length ≤ 150 → Q (.str (S (written ws)) t) { s with heap := h', toks := tk }) :
    wpAny (model PySem.Challenge.rw_ny0028_01.row.prog w) A (call (.ref 132) [.ref a]) Q E s :=
  toks_T hp (weaken (writ_spec (X.keeps F.keep) (T.keeps F.keep) hp (hm.mono fun _ _ e => (N _ e).1) hok hsz fun t h' tk e1 e2 htk =>
    h t h' tk htk (frExt F e1) (newsExt N e1) e2) a1 a2 a3)
theorem wire_N {a : Addr} {an : Nat} {l : List (Str × Tok)} {xs : List (List Nat)} (F : Fr h₀ L s.heap m) (N : News h₀ L s.heap news) (X : (hd.heap_39 w.params).In h₀) (T : Top topProg loose mean mg mb h₀) (hp : 0 < s.toks) (ha : (a, listOf (strValues l).toArray an) ∈ news) (hl : l.map (·.1) = xs.map S)
    (hb : ∀ x ∈ xs, (∀ c ∈ x, c < 128) ∧ x.length ≤ 150) (hn : xs.length ≤ 1000) (a1 : A.handled = none) (a2 : A.depth ≤ 700) (a3 : A.units ≤ 3000)
    (h : ∀ (t : Tok) h' tk, 0 < tk → Fr h₀ L h' m → News h₀ L h' news → Q (.bytes (B (wireL xs)) t) { s with heap := h', toks := tk }) :
    wpAny (model PySem.Challenge.rw_ny0028_01.row.prog w) A (call (.ref 137) [.ref a]) Q E s :=
  toks_T hp (weaken (wire_spec (X.keeps F.keep) (T.keeps F.keep) hp (N _ ha).1 hl hb hn fun t h' tk e1 htk =>
    h t h' tk htk (frExt F e1) (newsExt N e1)) a1 a2 a3)
theorem GiveOk.more {f at_ : Addr} {objs fz : List (Addr × Obj)} {l : List Nat} (G : GiveOk w f objs l at_) (hne : ∀ q ∈ fz, q.1 ≠ at_ ∧ ∀ p ∈ objs, p.1 ≠ q.1) : GiveOk w f (objs ++ fz) l at_ := by
  intro loose mean mg mb s h₀ p n tp t1 Q E b mu X T hp hpl h
  have mu1 : Muts h₀ s.heap ((at_, listOf #[.int (p : Int) tp] n) :: objs) := fun q hq => mu q (by
    rcases List.mem_cons.mp hq with rfl | hq
    · exact .head _
    · exact .tail _ (List.mem_append_left _ hq))
  have e : ∀ b o, h₀.get? b = some o → (Aside s.heap ((at_, listOf #[.int (p : Int) tp] n) :: objs)).get? b = some o := fun c o e => hideAll_get _ (b.keep c o e) fun hm => by
    obtain ⟨q, hq, rfl⟩ := List.mem_map.mp hm
    rw [(mu1 q hq).2] at e; cases e
  refine G loose mean mg mb s (Aside s.heap ((at_, listOf #[.int (p : Int) tp] n) :: objs)) p n tp t1 Q E aside_base (fun q hq => ⟨(mu1 q hq).1, hideAll_none _ (List.mem_map_of_mem hq)⟩) (X.keeps e) (T.keeps e) hp hpl fun t' tp' h' tk htk kk mu' => ?_
  refine h t' tp' h' tk htk (fun c o q => kk c o (e c o q)) fun q hq => ?_
  rcases List.mem_cons.mp hq with rfl | hq
  · exact ⟨(mu' _ (.head _)).1, (mu1 (at_, listOf #[.int (p : Int) tp] n) (.head _)).2⟩
  rcases List.mem_append.mp hq with hq | hq
  · exact ⟨(mu' _ (.tail _ hq)).1, (mu1 q (.tail _ hq)).2⟩
  · have z := mu q (.tail _ (List.mem_append_right _ hq))
    refine ⟨kk _ _ (hideAll_get _ z.1 fun hm => ?_), z.2⟩
    obtain ⟨r, hr, e⟩ := List.mem_map.mp hm
    rcases List.mem_cons.mp hr with rfl | hr
    · exact (hne q hq).1 e.symm
    · exact (hne q hq).2 r hr e
theorem recv_N {l : List Nat} {tb : Tok} {at_ : Addr} (F : Fr h₀ L s.heap m) (N : News h₀ L s.heap ((139, tabObj #[]) :: news)) (h139 : ∀ p ∈ news, p.1 ≠ 139) (hat : ∃ o, (at_, o) ∈ news) (X : (hd.heap_39 w.params).In h₀) (T : Top topProg loose mean mg mb h₀) (C : CodeHd h₀ 143 139) (hp : 0 < s.toks) (hroom : A.depth + 20 < recursionLimit) (hl : l.length ≤ 100000) (hb : ∀ c ∈ l, c < 256)
    (h : ∀ (t1 t2 t3 t4 t5 tl tw : Tok) (x dx pb f : Addr) (objs : List (Addr × Obj)) (ps : Array Value) (h' : Heap) (tk : Nat), 0 < tk → Fr h₀ L h' m → News h₀ L h' ((139, tabObj ps) :: news) →
      News h₀ L h' ((x, instObj 100 dx) :: (dx, lexD w t1 t2 t3 t4 tl tw 1 .none pb [ent w "read" t5 (.ref f)] 5) :: objs) → GiveOk w f objs l at_ → (∃ oc od fd sl, (f, (⟨oc, od, .func fd, sl⟩ : Obj)) ∈ objs) →
      (@LT.lt Nat _ at_ dx ∧ @LT.lt Nat _ dx x ∧ ∀ p ∈ objs, @Ne Nat p.1 at_ ∧ @Ne Nat p.1 x ∧ @Ne Nat p.1 dx) → (∀ q ∈ (139, tabObj ps) :: news, q.1 ≠ x ∧ q.1 ≠ dx ∧ ∀ p ∈ objs, p.1 ≠ q.1) → Q (.ref x) { s with heap := h', toks := tk }) :
    wpAny (model PySem.Challenge.rw_ny0028_01.row.prog w) A (call (.ref 144) [.bytes (B l) tb, .ref at_]) Q E s := by
  have Nm : News h₀ L s.heap [(139, tabObj #[])] := news_sub N fun q hq => by rw [List.mem_singleton.mp hq]; exact .head _
  have Nr : News h₀ L s.heap news := news_sub N fun q hq => .tail _ hq
  have e := aside_ext F Nm
  obtain ⟨oa, hoa⟩ := hat
  refine recv_spec (h₀ := Aside s.heap [(139, tabObj #[])]) aside_base (aside_muts Nm) (X.keeps e) (T.keeps e) (C.keeps e) hp hroom (Heap.lt_size (Nr _ hoa).1) hl hb fun t1 t2 t3 t4 t5 tl tw x dx pb f objs ps h' tk htk kk mu G fn ord => ?_
  have N2 := aside_rest Nr (mt := [(139, tabObj #[])]) (by
    intro q hq z hz e
    rw [List.mem_singleton.mp hz] at e
    exact h139 q hq e.symm) kk
  have alive : ∀ q ∈ news, (Aside s.heap [(139, tabObj #[])]).get? q.1 = some q.2 := fun q hq => hideAll_get _ (Nr q hq).1 fun hm => by
    obtain ⟨z, hz, e⟩ := List.mem_map.mp hm
    rw [List.mem_singleton.mp hz] at e
    exact h139 q hq e.symm
  have apart : ∀ q ∈ news, ∀ z ∈ ((x, instObj 100 dx) :: (dx, lexD w t1 t2 t3 t4 tl tw 1 .none pb [ent w "read" t5 (.ref f)] 5) :: (139, tabObj ps) :: objs), z.1 ≠ q.1 := fun q hq z hz e => by
    have := alive q hq
    rw [← e, (mu z hz).2] at this; cases this
  have nn : ∀ z ∈ ((x, instObj 100 dx) :: (dx, lexD w t1 t2 t3 t4 tl tw 1 .none pb [ent w "read" t5 (.ref f)] 5) :: (139, tabObj ps) :: objs), h'.get? z.1 = some z.2 ∧ z.1 ≠ L ∧ h₀.get? z.1 = none := by
    intro z hz
    refine ⟨(mu z hz).1, fun q => ?_, ?_⟩
    · obtain ⟨oL, _, _, hL, _⟩ := F.ns
      have h1 : (Aside s.heap [(139, tabObj #[])]).get? L = some oL := hideAll_get _ hL fun hm => by
        obtain ⟨y, hy, e⟩ := List.mem_map.mp hm
        exact (Nm y hy).2.1 e
      have := (mu z hz).2
      rw [show z.1 = L from q, h1] at this; cases this
    · cases q : h₀.get? z.1 with
      | none => rfl
      | some o => have := e _ _ q; rw [(mu z hz).2] at this; cases this
  refine h t1 t2 t3 t4 t5 tl tw x dx pb f objs ps h' tk htk (aside_fr F Nm kk) ?_ ?_ G fn ⟨ord.1.1, ord.2.1, fun p hp => ⟨(ord.2.2 p hp).1, (ord.2.2 p hp).2.1, (ord.2.2 p hp).2.2.1⟩⟩ (fun q hq => ?_)
  · intro z hz
    rcases List.mem_cons.mp hz with rfl | hz
    · exact nn _ (.tail _ (.tail _ (.head _)))
    · exact N2 z hz
  · intro z hz
    rcases List.mem_cons.mp hz with rfl | hz
    · exact nn _ (.head _)
    rcases List.mem_cons.mp hz with rfl | hz
    · exact nn _ (.tail _ (.head _))
    · exact nn _ (.tail _ (.tail _ (.tail _ hz)))
  · rcases List.mem_cons.mp hq with rfl | hq
    · have o1 := ord.1.2
      have o2 := ord.2.1
      exact ⟨Nat.ne_of_lt (Nat.lt_trans o1 o2), Nat.ne_of_lt o1, fun p hp => (ord.2.2 p hp).2.2.2⟩
    · exact ⟨Ne.symm (apart q hq _ (.head _)), Ne.symm (apart q hq _ (.tail _ (.head _))), fun p hp => apart q hq p (.tail _ (.tail _ (.tail _ hp)))⟩
theorem tok_N {k : Lx} {rest : List (Addr × Obj)} {l : List Nat} {p q p' : Nat} {tp tl : Tok} {line : Int} {cs tok : List Nat} {e : Bool} (K : k.Ok w l) (F : Fr h₀ L s.heap m) (N : News h₀ L s.heap news) (hsub : ∀ z ∈ rest ++ k.led w p tp line tl, z ∈ news) (hne : ∀ q ∈ rest, q.1 ∉ k.adr) (X : (hd.heap_39 w.params).In h₀) (T : Top topProg loose mean mg mb h₀) (hp : 0 < s.toks) (hpl : p ≤ l.length)
    (tk0 : Tok0 cs tok e) (rd : Rd l p cs q) (hlen : cs.length ≤ 2000) (he : if e = true then giveL l q = ([], p') else p' = q)
    (a1 : A.handled = none) (a2 : A.depth ≤ 400) (a3 : A.units ≤ 1200)
    (h : ∀ (t' tp' tl' : Tok) (h' : Heap) (tk : Nat), 0 < tk → Fr h₀ L h' m → News h₀ L h' (rest ++ k.led w p' tp' (line + (nls cs : Nat)) tl') → Q (.str (S tok) t') { s with heap := h', toks := tk }) :
    wpAny (model PySem.Challenge.rw_ny0028_01.row.prog w) A (call (.ref 90) [.ref k.xl]) Q E s := by
  have Nm : News h₀ L s.heap (k.led w p tp line tl) := news_sub N fun q hq => hsub _ (List.mem_append_right _ hq)
  have Nr : News h₀ L s.heap rest := news_sub N fun q hq => hsub _ (List.mem_append_left _ hq)
  have e := aside_ext F Nm
  refine weaken (tok_spec aside_base K (aside_muts Nm) (X.keeps e) (T.keeps e) hp hpl tk0 rd hlen he fun t' tp' tl' h' tk htk kk mu => ?_) a1 a2 a3
  have N1 := aside_new (mt := k.led w p tp line tl) Nm mu (by
    intro q hq
    rw [Lx.adr_led]
    exact Lx.mem_led hq)
  have N2 := aside_rest Nr (mt := k.led w p tp line tl) (by
    intro q hq z hz e
    exact hne q hq (e ▸ Lx.mem_led hz)) kk
  exact h t' tp' tl' h' tk htk (aside_fr F Nm kk) (news_app N2 N1)
end
end Mine

end
section
open PySem
namespace Mine
theorem lf2_two (r : List Nat) : lf2 (13 :: 10 :: r) = 10 :: lf2 r := by rw [lf2]
/-- lf2 and then CR to LF: the line ends as LF -/
def lf1 (l : List Nat) : List Nat := (lf2 l).flatMap fun k => if k = 13 then [10] else [k]
theorem lf1_nil : lf1 [] = [] := rfl
theorem lf1_two (r : List Nat) : lf1 (13 :: 10 :: r) = 10 :: lf1 r := by
  unfold lf1; rw [lf2_two]; rfl
theorem lf1_cons {c : Nat} {r : List Nat} (h : ¬ (c = 13 ∧ ∃ r', r = 10 :: r')) : lf1 (c :: r) = (if c = 13 ∨ c = 10 then 10 else c) :: lf1 r := by
  unfold lf1
  rw [lf2_cons (fun ⟨r', e⟩ => h ⟨(List.cons.inj e).1, r', (List.cons.inj e).2⟩), List.flatMap_cons]
  by_cases h1 : c = 13
  · simp [h1]
  · by_cases h2 : c = 10
    · simp [h2]
    · simp [h1, h2]
theorem rowsL_eq (l : List Nat) : rowsL l = cut 10 (lf1 l) := rfl
/-- induction by line ends -/
theorem crlf_ind {P : List Nat → Prop} (h0 : P []) (h2 : ∀ r, P r → P (13 :: 10 :: r)) (h1 : ∀ c r, ¬ (c = 13 ∧ ∃ r', r = 10 :: r') → P r → P (c :: r)) : ∀ l, P l := by
  have : ∀ n l, l.length ≤ n → P l := by
    intro n
    induction n with
    | zero => intro l h; cases l with
      | nil => exact h0
      | cons _ _ => simp at h
    | succ n ih =>
      intro l h
      cases l with
      | nil => exact h0
      | cons c r =>
        by_cases hx : c = 13 ∧ ∃ r', r = 10 :: r'
        · obtain ⟨rfl, r', rfl⟩ := hx
          exact h2 r' (ih r' (by simp at h; omega))
        · exact h1 c r hx (ih r (by simp at h; omega))
  intro l
  exact this l.length l (Nat.le_refl _)
theorem crlf_nil : crlf [] = [] := by rw [crlf]
theorem crlf_lf1 : ∀ l, crlf l = (lf1 l).flatMap fun c => if c = 10 then [13, 10] else [c] := by
  refine crlf_ind ?_ ?_ ?_
  · rw [crlf_nil]; rfl
  · intro r ih
    rw [crlf_two, lf1_two, ih]; rfl
  · intro c r h ih
    rw [crlf_cons h, lf1_cons h, List.flatMap_cons, ← ih]
    by_cases hc : c = 13 ∨ c = 10
    · simp [hc]
    · rw [if_neg hc, if_neg hc, if_neg (fun e => hc (.inr e))]; rfl
theorem lf1_no13 : ∀ l, 13 ∉ lf1 l := by
  refine crlf_ind ?_ ?_ ?_
  · simp [lf1_nil]
  · intro r ih; rw [lf1_two]; simp [ih]
  · intro c r h ih
    rw [lf1_cons h]
    simp only [List.mem_cons, not_or]
    refine ⟨?_, ih⟩
    split <;> omega
/-- the rows, joined -/
theorem join_rows (l : List Nat) : (PySem.Str.join (S [13, 10]) ((rowsL l).map S)) = S (crlf l) := by
  refine str_eq ?_
  rw [rowsL_eq, join_cut, crlf_lf1, S_list]
theorem cut_row {c : Nat} : ∀ (l : List Nat), ∀ r ∈ cut c l, c ∉ r := by
  intro l
  induction l with
  | nil => intro r hr; simp [cut] at hr; simp [hr]
  | cons k t ih =>
    intro r hr
    obtain ⟨h, u, e⟩ := cut_cons c t
    by_cases hk : k = c
    · simp only [cut, hk, if_true, List.mem_cons] at hr
      rcases hr with rfl | hr
      · simp
      · exact ih r hr
    · simp only [cut, hk, if_false, e, List.mem_cons] at hr
      rcases hr with rfl | hr
      · have := ih h (by simp [e])
        simp only [List.mem_cons, not_or]
        exact ⟨fun q => hk q.symm, this⟩
      · exact ih r (by simp [e, hr])
theorem cut_mem {c : Nat} : ∀ (l : List Nat), ∀ r ∈ cut c l, ∀ x ∈ r, x ∈ l := by
  intro l
  induction l with
  | nil => intro r hr; simp [cut] at hr; simp [hr]
  | cons k t ih =>
    intro r hr x hx
    obtain ⟨h, u, e⟩ := cut_cons c t
    by_cases hk : k = c
    · simp only [cut, hk, if_true, List.mem_cons] at hr
      rcases hr with rfl | hr
      · cases hx
      · exact .tail _ (ih r hr x hx)
    · simp only [cut, hk, if_false, e, List.mem_cons] at hr
      rcases hr with rfl | hr
      · rcases List.mem_cons.mp hx with rfl | hx
        · exact .head _
        · exact .tail _ (ih h (by simp [e]) x hx)
      · exact .tail _ (ih r (by simp [e, hr]) x hx)
/-- rows, each with its end -/
def ended (rows : List (List Nat)) : List Nat := rows.flatMap fun r => r ++ [13, 10]
def stuff (r : List Nat) : List Nat := if r.take 1 = [46] then 46 :: r else r
def stuffed (rows : List (List Nat)) : List Nat := rows.flatMap fun r => stuff r ++ [13, 10]
/-- the rows without an empty last one -/
def rowsE (l : List Nat) : List (List Nat) := if (rowsL l).getLast? = some [] then (rowsL l).dropLast else rowsL l
/-- a text without ends at CR, LF as rows -/
theorem cut_ended : ∀ (l : List Nat), (l.flatMap fun c => if c = 10 then [13, 10] else [c]) ++ [13, 10] = ended (cut 10 l) := by
  intro l
  induction l with
  | nil => rfl
  | cons k t ih =>
    obtain ⟨h, u, e⟩ := cut_cons 10 t
    rw [e] at ih
    by_cases hk : k = 10
    · simp only [cut, hk, if_true, e, List.flatMap_cons, List.append_assoc, ih]
      rfl
    · simp only [cut, hk, if_false, e, List.flatMap_cons, List.append_assoc, ih]
      rfl
/-- what the lexer reads of a message -/
def textL (x : List Nat) : List Nat := ended (rowsE x)
theorem rows_last (l : List Nat) : ∃ a b, rowsL l = a ++ [b] := by
  have : rowsL l ≠ [] := cut_ne _ _
  exact ⟨_, _, (List.dropLast_concat_getLast this).symm⟩
theorem text_cases (x : List Nat) : (crlf x = textL x ∧ ∃ a, rowsL x = a ++ [[]] ∧ rowsE x = a) ∨ (crlf x ++ [13, 10] = textL x ∧ rowsE x = rowsL x ∧ ∃ a b, rowsL x = a ++ [b] ∧ b ≠ []) := by
  have h := cut_ended (lf1 x)
  rw [← crlf_lf1, ← rowsL_eq] at h
  obtain ⟨a, b, e⟩ := rows_last x
  unfold textL rowsE
  by_cases hb : b = []
  · left
    subst hb
    rw [e] at h ⊢
    have h1 : (a ++ [[]]).getLast? = some ([] : List Nat) := by simp
    rw [if_pos h1, List.dropLast_concat]
    refine ⟨?_, a, rfl, rfl⟩
    unfold ended at h ⊢
    rw [List.flatMap_append] at h
    have h2 : crlf x ++ [13, 10] = (a.flatMap fun r => r ++ [13, 10]) ++ [13, 10] := h
    exact List.append_cancel_right h2
  · right
    have h1 : ¬ (rowsL x).getLast? = some ([] : List Nat) := by rw [e]; simp [hb]
    rw [if_neg h1]
    exact ⟨h, rfl, a, b, e, hb⟩

theorem dots_mid : ∀ (r rest : List Nat), 10 ∉ r → dots false (r ++ 13 :: 10 :: rest) = r ++ 13 :: 10 :: dots true rest
  | [], rest, _ => by
    show dots false (13 :: 10 :: rest) = _
    rw [dots_cons (by simp), dots_cons (by simp)]; rfl
  | c :: r, rest, h => by
    have hc : c ≠ 10 := fun e => h (by simp [e])
    have ih := dots_mid r rest (fun e => h (by simp [e]))
    rw [List.cons_append, dots_cons (by simp), beq_eq_false_iff_ne.mpr hc, ih]; rfl
theorem dots_row (r rest : List Nat) (h : 10 ∉ r) : dots true (r ++ 13 :: 10 :: rest) = stuff r ++ 13 :: 10 :: dots true rest := by
  cases r with
  | nil =>
    show dots true (13 :: 10 :: rest) = _
    rw [dots_cons (by simp), show ((13 : Nat) == 10) = false from rfl]
    have := dots_mid [] rest (by simp)
    rw [List.nil_append] at this
    rw [dots_cons (by simp)]; rfl
  | cons c r =>
    have hc : c ≠ 10 := fun e => h (by simp [e])
    have hm := dots_mid r rest (fun e => h (by simp [e]))
    by_cases h46 : c = 46
    · subst h46
      rw [List.cons_append, dots, hm]; rfl
    · rw [List.cons_append, dots_cons (fun x => h46 x.2), beq_eq_false_iff_ne.mpr hc, hm]
      have : stuff (c :: r) = c :: r := by unfold stuff; rw [if_neg]; simpa using h46
      rw [this]; rfl
theorem dots_ended : ∀ (rows : List (List Nat)) (rest : List Nat), (∀ r ∈ rows, 10 ∉ r) → dots true (ended rows ++ rest) = stuffed rows ++ dots true rest
  | [], _, _ => rfl
  | r :: rows, rest, h => by
    have ih := dots_ended rows rest (fun q hq => h q (.tail _ hq))
    have e : ended (r :: rows) ++ rest = r ++ 13 :: 10 :: (ended rows ++ rest) := by simp [ended]
    rw [e, dots_row _ _ (h r (.head _)), ih]
    simp [stuffed]
theorem dots_free_row : ∀ (r : List Nat), 10 ∉ r → dots false r = r
  | [], _ => rfl
  | c :: r, h => by
    have hc : c ≠ 10 := fun e => h (by simp [e])
    rw [dots_cons (by simp), beq_eq_false_iff_ne.mpr hc, dots_free_row r (fun e => h (by simp [e]))]
theorem dots_last (r : List Nat) (h : 10 ∉ r) : dots true r = stuff r := by
  cases r with
  | nil => rfl
  | cons c r =>
    have hc : c ≠ 10 := fun e => h (by simp [e])
    have hm := dots_free_row r (fun e => h (by simp [e]))
    by_cases h46 : c = 46
    · subst h46
      rw [dots, hm]; rfl
    · rw [dots_cons (fun x => h46 x.2), beq_eq_false_iff_ne.mpr hc, hm]
      have : stuff (c :: r) = c :: r := by unfold stuff; rw [if_neg]; simpa using h46
      rw [this]
theorem stuff_ne {b : List Nat} (h : b ≠ []) : ∃ a c, stuff b = a ++ [c] ∧ c ∈ b := by
  have e := (List.dropLast_concat_getLast h).symm
  unfold stuff
  split
  · exact ⟨46 :: b.dropLast, b.getLast h, by rw [List.cons_append, ← e], List.getLast_mem h⟩
  · exact ⟨b.dropLast, b.getLast h, e, List.getLast_mem h⟩
theorem rows_no10 (x : List Nat) : ∀ r ∈ rowsL x, 10 ∉ r := cut_row _
theorem rows_no13 (x : List Nat) : ∀ r ∈ rowsL x, 13 ∉ r := fun r hr h => lf1_no13 x (cut_mem _ r hr 13 h)
theorem lf1_ne {x : List Nat} (h : x ≠ []) : lf1 x ≠ [] := by
  revert h
  refine crlf_ind (P := fun x => x ≠ [] → lf1 x ≠ []) ?_ ?_ ?_ x
  · intro h; exact absurd rfl h
  · intro r _ _; rw [lf1_two]; simp
  · intro c r hc _ _; rw [lf1_cons hc]; simp
theorem drop2 (a : List Nat) (u v : Nat) : (a ++ [u, v]).drop ((a ++ [u, v]).length - 2) = [u, v] := by
  simp
theorem drop_last {a : List Nat} {c : Nat} (hc : c ≠ 10) : ¬ (a ++ [c]).drop ((a ++ [c]).length - 2) = [13, 10] := by
  intro h
  have h1 := congrArg List.getLast? h
  have hne : (a ++ [c]).drop ((a ++ [c]).length - 2) ≠ [] := by rw [h]; simp
  have h2 : ((a ++ [c]).drop ((a ++ [c]).length - 2)).getLast? = some c := by
    rw [List.getLast?_drop]
    rw [if_neg (by simp only [List.length_append, List.length_singleton]; omega)]; simp
  rw [h2] at h1
  exact hc (by simpa using h1)
theorem sent_is {x : List Nat} (hx : x ≠ []) : sentL x = stuffed (rowsE x) := by
  have h10 := rows_no10 x
  rcases text_cases x with ⟨e1, a, ea, eE⟩ | ⟨e1, eE, a, b, ea, hb⟩
  · have hne : a ≠ [] := by
      rintro rfl
      have := lf1_ne hx
      rw [rowsL_eq] at ea
      cases hl : lf1 x with
      | nil => exact this hl
      | cons c r =>
        rw [hl] at ea
        obtain ⟨h, t, e⟩ := cut_cons 10 r
        by_cases hc : c = 10
        · simp [cut, hc, e] at ea
        · simp [cut, hc, e] at ea
    have ha : ∀ r ∈ a, 10 ∉ r := fun r hr => h10 r (by rw [ea]; simp [hr])
    have ed : dots true (crlf x) = stuffed a := by
      rw [e1]; unfold textL; rw [eE]
      have := dots_ended a [] ha
      simpa [dots] using this
    unfold sentL
    dsimp only
    rw [ed, eE]
    obtain ⟨a', r, rfl⟩ : ∃ a' r, a = a' ++ [r] := ⟨_, _, (List.dropLast_concat_getLast hne).symm⟩
    have e3 : stuffed (a' ++ [r]) = (stuffed a' ++ stuff r) ++ [13, 10] := by simp [stuffed]
    rw [e3, if_pos (drop2 _ _ _)]
  · have ha : ∀ r ∈ a, 10 ∉ r := fun r hr => h10 r (by rw [ea]; simp [hr])
    have hb10 : 10 ∉ b := h10 b (by rw [ea]; simp)
    have ec : crlf x = ended a ++ b := by
      unfold textL at e1
      rw [eE, ea] at e1
      have : ended (a ++ [b]) = (ended a ++ b) ++ [13, 10] := by simp [ended]
      rw [this] at e1
      exact List.append_cancel_right e1
    have ed : dots true (crlf x) = stuffed a ++ stuff b := by
      rw [ec, dots_ended a b ha, dots_last b hb10]
    unfold sentL
    dsimp only
    rw [ed, eE, ea]
    obtain ⟨u, c, eu, hc⟩ := stuff_ne hb
    have hc10 : c ≠ 10 := fun q => hb10 (q ▸ hc)
    have e4 : stuffed a ++ stuff b = (stuffed a ++ u) ++ [c] := by rw [eu, List.append_assoc]
    rw [if_neg (by rw [e4]; exact drop_last hc10)]
    simp [stuffed]
theorem rowsE_no10 (x : List Nat) : ∀ r ∈ rowsE x, 10 ∉ r := by
  intro r hr
  unfold rowsE at hr
  split at hr
  · exact rows_no10 x r (List.dropLast_subset _ hr)
  · exact rows_no10 x r hr
theorem rowsE_no13 (x : List Nat) : ∀ r ∈ rowsE x, 13 ∉ r := by
  intro r hr
  unfold rowsE at hr
  split at hr
  · exact rows_no13 x r (List.dropLast_subset _ hr)
  · exact rows_no13 x r hr
/-- heads -/
theorem head_crlf (A B : List Nat) : headL (A ++ 13 :: 10 :: B) (A.length + 2) = true := by
  unfold headL
  have e : (A ++ 13 :: 10 :: B).take (A.length + 2) = A ++ [13, 10] := by
    rw [show A ++ 13 :: 10 :: B = (A ++ [13, 10]) ++ B from by simp]
    exact List.take_left' (by simp)
  rw [e]
  simp
theorem head_not {A B : List Nat} {d : Nat} (hd : d ≠ 10) : headL (A ++ d :: B) (A.length + 1) = false := by
  unfold headL
  have e : (A ++ d :: B).take (A.length + 1) = A ++ [d] := by
    rw [show A ++ d :: B = (A ++ [d]) ++ B from by simp]
    exact List.take_left' (by simp)
  rw [e]
  dsimp only
  rw [Bool.or_eq_false_iff, beq_eq_false_iff_ne, beq_eq_false_iff_ne]
  have h := drop_last (a := A) hd
  rw [List.length_append, List.length_singleton] at h
  refine ⟨fun q => ?_, h⟩
  have := congrArg List.length q
  simp at this
  omega
theorem give_in {A B : List Nat} {d c : Nat} (hd : d ≠ 10) : giveL (A ++ d :: c :: B) (A.length + 1) = ([c], A.length + 2) := by
  rw [give_mid (head_not hd)]
  have e : (A ++ d :: c :: B).drop (A.length + 1) = c :: B := by
    rw [show A ++ d :: c :: B = (A ++ [d]) ++ c :: B from by simp]
    exact List.drop_left' (by simp)
  rw [e]; rfl
theorem read_mid : ∀ (cs A B : List Nat) (d c : Nat), d ≠ 10 → 10 ∉ cs → Rd (A ++ d :: (cs ++ c :: B)) (A.length + 1) (cs ++ [c]) (A.length + 1 + cs.length + 1)
  | [], A, B, d, c, hd, _ => .cons (give_in hd) (.nil _)
  | e :: cs, A, B, d, c, hd, h => by
    have he : e ≠ 10 := fun q => h (by simp [q])
    have ih := read_mid cs (A ++ [d]) B e c he (fun q => h (by simp [q]))
    have e1 : A ++ [d] ++ e :: (cs ++ c :: B) = A ++ d :: (e :: cs ++ c :: B) := by simp
    rw [e1] at ih
    have e2 : (A ++ [d]).length = A.length + 1 := by simp
    rw [e2] at ih
    refine .cons (q := A.length + 2) (give_in hd) ?_
    have e3 : A.length + 1 + (e :: cs).length + 1 = A.length + 1 + 1 + cs.length + 1 := by simp only [List.length_cons]; omega
    rw [e3]; exact ih
theorem take_drop (A B : List Nat) (k : Nat) : ((A ++ B).drop A.length).take k = B.take k := by
  rw [List.drop_left]
theorem read_row {A B r : List Nat} (hA : headL (A ++ (stuff r ++ 13 :: 10 :: B)) A.length = true) (h10 : 10 ∉ r) :
    Rd (A ++ (stuff r ++ 13 :: 10 :: B)) A.length (r ++ [13, 10]) (A.length + (stuff r).length + 2) := by
  cases r with
  | nil =>
    have e : stuff [] = [] := rfl
    rw [e] at hA ⊢
    refine .cons (q := A.length + 1) ?_ (read_mid [] A B 13 10 (by decide) (by simp))
    rw [List.nil_append] at hA ⊢
    rw [give_nodot hA (by rw [take_drop]; rfl) (by rw [take_drop]; rfl), take_drop]; rfl
  | cons c r =>
    have hc : c ≠ 10 := fun e => h10 (by simp [e])
    have hr : 10 ∉ r ++ [13] := fun e => by
      rcases List.mem_append.mp e with e | e
      · exact h10 (by simp [e])
      · simp at e
    by_cases h46 : c = 46
    · subst h46
      have e : stuff (46 :: r) = 46 :: 46 :: r := rfl
      rw [e] at hA ⊢
      have h1 := read_mid (r ++ [13]) (A ++ [46]) B 46 10 (by decide) hr
      have e1 : A ++ [46] ++ 46 :: (r ++ [13] ++ 10 :: B) = A ++ (46 :: 46 :: r ++ 13 :: 10 :: B) := by simp
      have e2 : (A ++ [46]).length = A.length + 1 := by simp
      rw [e1, e2] at h1
      have e3 : r ++ [13] ++ [10] = r ++ [13, 10] := by simp
      rw [e3] at h1
      have e4 : A.length + (46 :: 46 :: r).length + 2 = A.length + 1 + 1 + (r ++ [13]).length + 1 := by simp; omega
      rw [e4]
      refine .cons (q := A.length + 2) ?_ h1
      have e5 : (A ++ (46 :: 46 :: r ++ 13 :: 10 :: B)).drop (A.length + 1) = 46 :: (r ++ 13 :: 10 :: B) := by
        rw [← e1, ← e2]
        rw [List.append_assoc]
        rw [show A ++ ([46] ++ 46 :: (r ++ [13] ++ 10 :: B)) = (A ++ [46]) ++ 46 :: (r ++ [13] ++ 10 :: B) from by simp]
        rw [List.drop_left]; simp
      rw [give_dot hA (by rw [take_drop]; rfl) (by rw [take_drop]; rfl), e5]; rfl
    · have e : stuff (c :: r) = c :: r := by unfold stuff; rw [if_neg]; simpa using h46
      rw [e] at hA ⊢
      have h1 := read_mid (r ++ [13]) A B c 10 hc hr
      have e1 : A ++ c :: (r ++ [13] ++ 10 :: B) = A ++ (c :: r ++ 13 :: 10 :: B) := by simp
      rw [e1] at h1
      have e3 : r ++ [13] ++ [10] = r ++ [13, 10] := by simp
      rw [e3] at h1
      have e4 : A.length + (c :: r).length + 2 = A.length + 1 + (r ++ [13]).length + 1 := by simp; omega
      rw [e4]
      refine .cons (q := A.length + 1) ?_ h1
      have n3 : (((A ++ (c :: r ++ 13 :: 10 :: B)).drop A.length).take 3 == [46, 13, 10]) = false := by
        rw [take_drop, beq_eq_false_iff_ne]
        intro q
        exact h46 (by simpa using (List.cons.inj q).1)
      have n1 : (((A ++ (c :: r ++ 13 :: 10 :: B)).drop A.length).take 1 == [46]) = false := by
        rw [take_drop, beq_eq_false_iff_ne]
        intro q
        exact h46 (by simpa using (List.cons.inj q).1)
      rw [give_nodot hA n3 n1, take_drop]; rfl
theorem stuffed_len_cons (r : List Nat) (rows : List (List Nat)) : (stuffed (r :: rows)).length = (stuff r).length + 2 + (stuffed rows).length := by
  simp [stuffed]; omega
theorem read_rows : ∀ (rows : List (List Nat)) (A B : List Nat), headL (A ++ (stuffed rows ++ B)) A.length = true → (∀ r ∈ rows, 10 ∉ r) →
    Rd (A ++ (stuffed rows ++ B)) A.length (ended rows) (A.length + (stuffed rows).length) ∧ headL (A ++ (stuffed rows ++ B)) (A.length + (stuffed rows).length) = true
  | [], A, B, hA, _ => ⟨.nil _, hA⟩
  | r :: rows, A, B, hA, h => by
    have e : A ++ (stuffed (r :: rows) ++ B) = A ++ (stuff r ++ 13 :: 10 :: (stuffed rows ++ B)) := by simp [stuffed]
    have e2 : A ++ (stuffed (r :: rows) ++ B) = (A ++ stuff r ++ [13, 10]) ++ (stuffed rows ++ B) := by simp [stuffed]
    have el : (A ++ stuff r ++ [13, 10]).length = A.length + (stuff r).length + 2 := by simp only [List.length_append, List.length_cons, List.length_nil]
    have r1 := read_row (A := A) (r := r) (B := stuffed rows ++ B) (by rw [← e]; exact hA) (h r (.head _))
    have h2 : headL ((A ++ stuff r ++ [13, 10]) ++ (stuffed rows ++ B)) (A ++ stuff r ++ [13, 10]).length = true := by
      have := head_crlf (A ++ stuff r) (stuffed rows ++ B)
      rw [el]
      have e3 : A ++ stuff r ++ [13, 10] ++ (stuffed rows ++ B) = A ++ stuff r ++ 13 :: 10 :: (stuffed rows ++ B) := by simp
      rw [e3]
      rw [List.length_append] at this
      exact this
    obtain ⟨r2, h3⟩ := read_rows rows (A ++ stuff r ++ [13, 10]) B h2 (fun q hq => h q (.tail _ hq))
    rw [← e2, el] at r2 h3
    rw [← e] at r1
    have eq : A.length + (stuffed (r :: rows)).length = A.length + (stuff r).length + 2 + (stuffed rows).length := by rw [stuffed_len_cons]; omega
    rw [eq]
    refine ⟨?_, h3⟩
    have e4 : ended (r :: rows) = (r ++ [13, 10]) ++ ended rows := by simp [ended]
    rw [e4]
    exact r1.app r2
theorem give_dotrow {A B : List Nat} (hA : headL (A ++ 46 :: 13 :: 10 :: B) A.length = true) : giveL (A ++ 46 :: 13 :: 10 :: B) A.length = ([], A.length + 3) :=
  give_end hA (by rw [take_drop]; rfl)
theorem nls_row {r : List Nat} (h : 10 ∉ r) : nls r = 0 := by
  unfold nls
  rw [List.filter_eq_nil_iff.mpr]; rfl
  intro c hc
  simp
  rintro rfl
  exact h hc
theorem nls_ended : ∀ (rows : List (List Nat)), (∀ r ∈ rows, 10 ∉ r) → nls (ended rows) = rows.length
  | [], _ => rfl
  | r :: rows, h => by
    have ih := nls_ended rows (fun q hq => h q (.tail _ hq))
    have e4 : ended (r :: rows) = r ++ ([13, 10] ++ ended rows) := by simp [ended]
    rw [e4, nls_app, nls_app, nls_row (h r (.head _)), ih]
    show 0 + (1 + rows.length) = rows.length + 1
    omega
/-- the wire at a message -/
theorem wire_split {xs : List (List Nat)} {i : Nat} {x : List Nat} (h : xs[i]? = some x) (hne : ∀ x ∈ xs, x ≠ []) : wireL xs = wireL (xs.take i) ++ (stuffed (rowsE x) ++ 46 :: 13 :: 10 :: wireL (xs.drop (i + 1))) := by
  have e : xs = xs.take i ++ x :: xs.drop (i + 1) := by
    have hlt := (List.getElem?_eq_some_iff.mp h).1
    have hx := (List.getElem?_eq_some_iff.mp h).2
    rw [← hx, ← List.drop_eq_getElem_cons hlt, List.take_append_drop]
  have e1 : wireL xs = wireL (xs.take i ++ x :: xs.drop (i + 1)) := by rw [← e]
  rw [e1]
  unfold wireL
  rw [List.flatMap_append, List.flatMap_cons, sent_is (hne x (List.mem_of_getElem? h))]
  simp
theorem wire_take {xs : List (List Nat)} {i : Nat} {x : List Nat} (h : xs[i]? = some x) (hne : ∀ x ∈ xs, x ≠ []) : (wireL (xs.take (i + 1))).length = (wireL (xs.take i)).length + (stuffed (rowsE x)).length + 3 := by
  rw [List.take_add_one, h]
  unfold wireL
  rw [List.flatMap_append]
  simp only [Option.toList_some, List.flatMap_singleton, List.length_append, sent_is (hne x (List.mem_of_getElem? h)), List.length_cons, List.length_nil]
  omega
theorem wire_end : ∀ (xs : List (List Nat)), wireL xs = [] ∨ ∃ a, wireL xs = a ++ [13, 10]
  | [] => .inl rfl
  | x :: r => by
    right
    have e : wireL (x :: r) = sentL x ++ [46, 13, 10] ++ wireL r := rfl
    rcases wire_end r with h | ⟨a, h⟩
    · exact ⟨sentL x ++ [46], by rw [e, h]; simp⟩
    · exact ⟨sentL x ++ [46, 13, 10] ++ a, by rw [e, h]; simp⟩
theorem head_wire (xs : List (List Nat)) (B : List Nat) : headL (wireL xs ++ B) (wireL xs).length = true := by
  rcases wire_end xs with h | ⟨a, h⟩
  · rw [h]; rfl
  · rw [h]
    have := head_crlf a B
    have e1 : a ++ [13, 10] ++ B = a ++ 13 :: 10 :: B := by simp
    have e2 : (a ++ [13, 10]).length = a.length + 2 := by simp
    rw [e1, e2]
    exact this
/-- one message is read -/
theorem msg_read {xs : List (List Nat)} {i : Nat} {x : List Nat} (h : xs[i]? = some x) (hne : ∀ x ∈ xs, x ≠ []) :
    ∃ q, Rd (wireL xs) (wireL (xs.take i)).length (textL x) q ∧ giveL (wireL xs) q = ([], (wireL (xs.take (i + 1))).length) := by
  have e := wire_split h hne
  have hh := head_wire (xs.take i) (stuffed (rowsE x) ++ 46 :: 13 :: 10 :: wireL (xs.drop (i + 1)))
  obtain ⟨r1, h2⟩ := read_rows (rowsE x) (wireL (xs.take i)) (46 :: 13 :: 10 :: wireL (xs.drop (i + 1))) hh (rowsE_no10 x)
  rw [← e] at r1 h2
  refine ⟨_, r1, ?_⟩
  have e2 : wireL xs = (wireL (xs.take i) ++ stuffed (rowsE x)) ++ 46 :: 13 :: 10 :: wireL (xs.drop (i + 1)) := by rw [e]; simp
  have el : (wireL (xs.take i) ++ stuffed (rowsE x)).length = (wireL (xs.take i)).length + (stuffed (rowsE x)).length := by simp
  have g := give_dotrow (A := wireL (xs.take i) ++ stuffed (rowsE x)) (B := wireL (xs.drop (i + 1))) (by rw [← e2, el]; exact h2)
  rw [← e2, el] at g
  rw [g, wire_take h hne]
theorem end_read (xs : List (List Nat)) : giveL (wireL xs) (wireL xs).length = ([], (wireL xs).length) := by
  have hh := head_wire xs []
  rw [List.append_nil] at hh
  rw [give_nodot hh (by rw [List.drop_length]; rfl) (by rw [List.drop_length]; rfl), List.drop_length]; rfl
end Mine

end
section
open PySem
namespace Mine
theorem crlf_app : ∀ (a b : List Nat), (∀ r, b ≠ 10 :: r) → crlf (a ++ b) = crlf a ++ crlf b := by
  intro a b hb
  refine crlf_ind (P := fun a => crlf (a ++ b) = crlf a ++ crlf b) ?_ ?_ ?_ a
  · rw [crlf_nil]; rfl
  · intro r ih
    rw [List.cons_append, List.cons_append, crlf_two, ih, crlf_two]; rfl
  · intro c r h ih
    have h' : ¬ (c = 13 ∧ ∃ r', r ++ b = 10 :: r') := by
      rintro ⟨hc, r', e⟩
      cases r with
      | nil => exact hb r' e
      | cons d r => exact h ⟨hc, r, by rw [(List.cons.inj e).1]⟩
    rw [List.cons_append, crlf_cons h', crlf_cons h, ih]
    split <;> rfl
theorem crlf_one {c : Nat} (h : c ≠ 13 ∧ c ≠ 10) : crlf [c] = [c] := by
  rw [crlf_cons (by simp), if_neg (by omega), crlf_nil]
theorem crlf_pass : ∀ (a : List Nat), (∀ c ∈ a, c ≠ 13 ∧ c ≠ 10) → crlf a = a := by
  intro a h
  have := crlf_free a [] h
  rw [List.append_nil, crlf_nil, List.append_nil] at this
  exact this
theorem escQ_cons (c : Nat) (r : List Nat) : escQ (c :: r) = (if c = 92 ∨ c = 34 then [92, c] else [c]) ++ escQ r := rfl
theorem escP_cons (c : Nat) (r : List Nat) : escP (c :: r) = (if c = 34 ∨ c = 92 ∨ c = 32 ∨ c = 9 then [92, c] else [c]) ++ escP r := rfl
theorem escQ_no10 {r : List Nat} (h : ¬ ∃ r', r = 10 :: r') : ∀ r', escQ r ≠ 10 :: r' := by
  intro r' e
  cases r with
  | nil => cases e
  | cons c r =>
    rw [escQ_cons] at e
    split at e
    · have := (List.cons.inj e).1; simp at this
    · exact h ⟨r, by rw [(List.cons.inj e).1]⟩
theorem crlf_escQ : ∀ x, crlf (escQ x) = escQ (crlf x) := by
  refine crlf_ind ?_ ?_ ?_
  · rw [crlf_nil]; show crlf [] = []; rw [crlf_nil]
  · intro r ih
    have e : escQ (13 :: 10 :: r) = 13 :: 10 :: escQ r := rfl
    rw [e, crlf_two, crlf_two, ih]; rfl
  · intro c r h ih
    by_cases hc : c = 92 ∨ c = 34
    · have hn : c ≠ 13 ∧ c ≠ 10 := by omega
      rw [escQ_cons, if_pos hc, crlf_free _ _ (by intro d hd; simp at hd; omega), ih, crlf_cons h, if_neg (by omega), escQ_cons, if_pos hc]
    · rw [escQ_cons, if_neg hc, List.singleton_append]
      have h' : ¬ (c = 13 ∧ ∃ r', escQ r = 10 :: r') := by
        rintro ⟨hc13, r', e⟩
        exact escQ_no10 (fun hr => h ⟨hc13, hr⟩) r' e
      rw [crlf_cons h', crlf_cons h, ih]
      split
      · rfl
      · rw [escQ_cons, if_neg hc]; rfl
theorem tokQ_esc : ∀ (x acc : List Nat), TokQ acc (escQ x ++ [34]) (acc ++ x)
  | [], acc => by rw [List.append_nil]; exact .stop acc
  | c :: r, acc => by
    have ih := tokQ_esc r (acc ++ [c])
    rw [List.append_assoc] at ih
    rw [escQ_cons]
    by_cases hc : c = 92 ∨ c = 34
    · rw [if_pos hc]; exact .esc ih
    · rw [if_neg hc]; exact .chr (fun e => hc (.inr e)) (fun e => hc (.inl e)) ih
theorem tokP_esc {d : Nat} (hd : ws d) : ∀ (x acc : List Nat), (∀ c ∈ x, c ≠ 13 ∧ c ≠ 10) → TokP acc (escP x ++ [d]) (acc ++ x)
  | [], acc, _ => by rw [List.append_nil]; exact .stop acc hd
  | c :: r, acc, h => by
    have ih := tokP_esc hd r (acc ++ [c]) (fun e he => h e (.tail _ he))
    rw [List.append_assoc] at ih
    have hn := h c (.head _)
    rw [escP_cons]
    by_cases hc : c = 34 ∨ c = 92 ∨ c = 32 ∨ c = 9
    · rw [if_pos hc]; exact .esc ih
    · rw [if_neg hc]; exact .chr (by unfold ws; omega) (fun e => hc (.inr (.inl e))) ih
theorem tok0_skip {cs tok : List Nat} {e : Bool} (h : Tok0 cs tok e) : ∀ (lead : List Nat), (∀ c ∈ lead, ws c) → Tok0 (lead ++ cs) tok e
  | [], _ => h
  | c :: r, hl => .skip (hl c (.head _)) (tok0_skip h r fun d hd => hl d (.tail _ hd))
theorem tok0_quo (x : List Nat) : Tok0 (34 :: (escQ x ++ [34])) x false := .quo (tokQ_esc x [])
theorem tok0_plain {d : Nat} (hd : ws d) {x : List Nat} (hx : x ≠ []) (h : ∀ c ∈ x, c ≠ 13 ∧ c ≠ 10) : Tok0 (escP x ++ [d]) x false := by
  cases x with
  | nil => exact absurd rfl hx
  | cons c r =>
    have hp := tokP_esc hd r [c] (fun e he => h e (.tail _ he))
    have hn := h c (.head _)
    rw [escP_cons]
    by_cases hc : c = 34 ∨ c = 92 ∨ c = 32 ∨ c = 9
    · rw [if_pos hc]; exact .esc hp
    · rw [if_neg hc]; exact .chr (by unfold ws; omega) (fun e => hc (.inl e)) (fun e => hc (.inr (.inl e))) hp
theorem rows_plain {x : List Nat} (h : ¬ 1 < (rowsL x).length) : ∀ c ∈ x, c ≠ 13 ∧ c ≠ 10 := by
  rw [rowsL_eq] at h
  have hno : 10 ∉ lf1 x := by
    intro hm
    have key : ∀ l : List Nat, 10 ∈ l → 1 < (cut 10 l).length := by
      intro l
      induction l with
      | nil => intro h; cases h
      | cons k t ih =>
        intro hm
        obtain ⟨a, u, e⟩ := cut_cons 10 t
        by_cases hk : k = 10
        · simp [cut, hk, e]
        · have hm' : 10 ∈ t := by
            rcases List.mem_cons.mp hm with q | q
            · exact absurd q.symm hk
            · exact q
          have := ih hm'
          rw [e] at this
          simp only [cut, hk, if_false, e]
          simpa using this
    exact h (key _ hm)
  revert hno
  clear h
  refine crlf_ind (P := fun x => 10 ∉ lf1 x → ∀ c ∈ x, c ≠ 13 ∧ c ≠ 10) ?_ ?_ ?_ x
  · intro _ c hc; cases hc
  · intro r _ h; rw [lf1_two] at h; exact absurd (.head _) h
  · intro c r hc ih h d hd
    rw [lf1_cons hc] at h
    have h1 : ¬ (c = 13 ∨ c = 10) := fun q => h (by rw [if_pos q]; exact .head _)
    rcases List.mem_cons.mp hd with rfl | hd
    · omega
    · exact ih (fun q => h (.tail _ q)) d hd
/-- a word: what is read for its token, and what stays behind -/
theorem word_lex {p : Nat × List Nat} (hk : p.1 ≤ 2) : ∃ cs tail, crlf (writeW p) = cs ++ tail ∧ Tok0 cs (crlf p.2) false ∧ (∀ c ∈ tail, ws c) := by
  obtain ⟨k, x⟩ := p
  dsimp only at hk ⊢
  have ht : ∃ tail, crlf (tailOf k) = tail ∧ (∀ c ∈ tail, ws c) ∧ (∀ r, tailOf k ≠ 10 :: r) := by
    have : k = 0 ∨ k = 1 ∨ k = 2 := by omega
    rcases this with rfl | rfl | rfl
    · exact ⟨[32], by decide, by decide, by intro r h; cases h⟩
    · exact ⟨[], by decide, by decide, by intro r h; cases h⟩
    · exact ⟨[13, 10], by decide, by decide, by intro r h; cases h⟩
  unfold writeW
  by_cases hq : quoted (k, x) = true
  · rw [if_pos hq]
    obtain ⟨tail, e1, e2, e3⟩ := ht
    dsimp only
    refine ⟨34 :: (escQ (crlf x) ++ [34]), tail, ?_, tok0_quo _, e2⟩
    rw [crlf_app _ _ e3, e1]
    refine congrArg (· ++ tail) ?_
    rw [List.append_assoc, crlf_free [34] _ (by decide), crlf_app _ _ (by intro r h; cases h), crlf_escQ, crlf_one (by decide)]; rfl
  · rw [if_neg hq]
    have hq' : quoted (k, x) = false := by simpa using hq
    unfold quoted at hq'
    simp only [Bool.or_eq_false_iff, beq_eq_false_iff_ne, decide_eq_false_iff_not] at hq'
    obtain ⟨⟨h1, h2⟩, h3⟩ := hq'
    have hp := rows_plain h3
    have hpe : ∀ c ∈ escP x, c ≠ 13 ∧ c ≠ 10 := by
      intro c hc
      unfold escP at hc
      obtain ⟨d, hd, hc⟩ := List.mem_flatMap.mp hc
      have := hp d hd
      split at hc
      · simp at hc; omega
      · simp at hc; omega
    rw [crlf_pass x hp]
    dsimp only at h1 h2 ⊢
    have : k = 0 ∨ k = 2 := by omega
    rcases this with rfl | rfl
    · refine ⟨escP x ++ [32], [], ?_, tok0_plain (by decide) h2 hp, by simp⟩
      rw [List.append_nil, crlf_pass]; rfl
      intro c hc
      rcases List.mem_append.mp hc with hc | hc
      · exact hpe c hc
      · have : c = 32 := by simpa [tailOf] using hc
        omega
    · refine ⟨escP x ++ [13], [10], ?_, tok0_plain (by decide) h2 hp, by decide⟩
      rw [crlf_free _ _ hpe, List.append_assoc]
      refine congrArg (escP x ++ ·) ?_
      decide
theorem escP_head {x : List Nat} (hx : x ≠ []) (h : ∀ c ∈ x, c ≠ 13 ∧ c ≠ 10) : ∃ c r, escP x = c :: r ∧ c ≠ 10 := by
  cases x with
  | nil => exact absurd rfl hx
  | cons c r =>
    rw [escP_cons]
    have hn := h c (.head _)
    split
    · exact ⟨92, _, rfl, by decide⟩
    · exact ⟨c, _, rfl, hn.2⟩
theorem writeW_head (p : Nat × List Nat) : ∃ c r, writeW p = c :: r ∧ c ≠ 10 := by
  unfold writeW
  by_cases hq : quoted p = true
  · rw [if_pos hq]; exact ⟨34, _, rfl, by decide⟩
  · rw [if_neg hq]
    have hq' : quoted p = false := by simpa using hq
    unfold quoted at hq'
    simp only [Bool.or_eq_false_iff, beq_eq_false_iff_ne, decide_eq_false_iff_not] at hq'
    obtain ⟨⟨h1, h2⟩, h3⟩ := hq'
    obtain ⟨c, r, e, hc⟩ := escP_head h2 (rows_plain h3)
    rw [e]; exact ⟨c, _, rfl, hc⟩
theorem written_head (ws : List (Nat × List Nat)) : ∀ r, written ws ≠ 10 :: r := by
  intro r h
  cases ws with
  | nil => cases h
  | cons p ws =>
    obtain ⟨c, r', e, hc⟩ := writeW_head p
    unfold written at h
    rw [List.flatMap_cons, e] at h
    exact hc (List.cons.inj h).1
theorem written_ne {ws : List (Nat × List Nat)} (h : ws ≠ []) : written ws ≠ [] := by
  cases ws with
  | nil => exact absurd rfl h
  | cons p ws =>
    obtain ⟨c, r', e, hc⟩ := writeW_head p
    unfold written
    rw [List.flatMap_cons, e]
    intro q; cases q
theorem crlf_written : ∀ (ws : List (Nat × List Nat)), crlf (written ws) = ws.flatMap fun p => crlf (writeW p)
  | [] => by show crlf [] = []; rw [crlf_nil]
  | p :: ws => by
    have ih := crlf_written ws
    have e : written (p :: ws) = writeW p ++ written ws := rfl
    rw [e, crlf_app _ _ (written_head ws), ih]; rfl
/-- the lexer gets the words of a message one by one -/
inductive LexTo (l : List Nat) : List (Nat × List Nat) → Nat → Nat → Nat → Nat → Prop
  | nil {p q n : Nat} {cs : List Nat} : Tok0 cs [] true → Rd l p cs q → cs.length ≤ 2000 → LexTo l [] p n q (n + nls cs)
  | cons {p r q n k : Nat} {cs : List Nat} {a : Nat × List Nat} {ws : List (Nat × List Nat)} : Tok0 cs (crlf a.2) false → Rd l p cs r → cs.length ≤ 2000 → LexTo l ws r (n + nls cs) q k → LexTo l (a :: ws) p n q k
theorem lex_words {l : List Nat} (fin : List Nat) (hf : ∀ c ∈ fin, ws c) : ∀ (wl : List (Nat × List Nat)) (lead : List Nat) (p q n : Nat), (∀ c ∈ lead, ws c) → (∀ a ∈ wl, a.1 ≤ 2) →
    Rd l p (lead ++ ((wl.flatMap fun a => crlf (writeW a)) ++ fin)) q → (lead ++ ((wl.flatMap fun a => crlf (writeW a)) ++ fin)).length ≤ 2000 →
    LexTo l wl p n q (n + nls (lead ++ ((wl.flatMap fun a => crlf (writeW a)) ++ fin)))
  | [], lead, p, q, n, hl, _, rd, hlen => by
    refine .nil ?_ rd hlen
    have := tok0_skip (tok0_skip .fin fin hf) lead hl
    simpa using this
  | a :: wl, lead, p, q, n, hl, ha, rd, hlen => by
    obtain ⟨cs, tail, e, tk, ht⟩ := word_lex (p := a) (ha a (.head _))
    have e2 : lead ++ (((a :: wl).flatMap fun a => crlf (writeW a)) ++ fin) = (lead ++ cs) ++ (tail ++ ((wl.flatMap fun a => crlf (writeW a)) ++ fin)) := by
      rw [List.flatMap_cons, e]; simp
    rw [e2] at rd hlen ⊢
    obtain ⟨r, rd1, rd2⟩ := rd.split
    rw [List.length_append] at hlen
    have ih := lex_words fin hf wl tail r q (n + nls (lead ++ cs)) ht (fun b hb => ha b (.tail _ hb)) rd2 (by omega)
    rw [nls_app (lead ++ cs)]
    rw [← Nat.add_assoc]
    exact .cons (tok0_skip tk lead hl) rd1 (by omega) ih
theorem msg_lex {xs : List (List Nat)} {i : Nat} {wl : List (Nat × List Nat)} (h : xs[i]? = some (written wl)) (hne : ∀ x ∈ xs, x ≠ []) (hk : ∀ a ∈ wl, a.1 ≤ 2) (hlen : (written wl).length ≤ 150) (n : Nat) :
    ∃ q, LexTo (wireL xs) wl (wireL (xs.take i)).length n q (n + (rowsE (written wl)).length) ∧ giveL (wireL xs) q = ([], (wireL (xs.take (i + 1))).length) := by
  obtain ⟨q, rd, g⟩ := msg_read h hne
  refine ⟨q, ?_, g⟩
  have hc := crlf_len (written wl)
  have hn := nls_ended (rowsE (written wl)) (rowsE_no10 _)
  have key : ∃ fin, textL (written wl) = crlf (written wl) ++ fin ∧ (∀ c ∈ fin, ws c) ∧ fin.length ≤ 2 := by
    rcases text_cases (written wl) with ⟨e1, _⟩ | ⟨e1, _⟩
    · exact ⟨[], by rw [List.append_nil, e1], by simp, by simp⟩
    · exact ⟨[13, 10], e1.symm, by decide, by simp⟩
  obtain ⟨fin, e, hf, hf2⟩ := key
  have e3 : textL (written wl) = [] ++ ((wl.flatMap fun a => crlf (writeW a)) ++ fin) := by rw [e, crlf_written]; rfl
  have := lex_words (l := wireL xs) fin hf wl [] (wireL (xs.take i)).length q n (by simp) hk (by rw [← e3]; exact rd) (by rw [← e3, e, List.length_append]; omega)
  rw [← e3] at this
  unfold textL at this
  rw [hn] at this
  exact this
end Mine

end
section
open PySem PySem.W PyProof.Rows
set_option maxRecDepth 100000
namespace Mine
theorem range_size (n : Nat) : Builtin.Range.rangeSize 0 (n : Int) 1 = (n : Int) := by
  unfold Builtin.Range.rangeSize
  simp
  try omega
theorem range_small {n : Nat} (h : n ≤ 1000) : Builtin.Range.small 0 (n : Int) 1 = true := by
  exact small_one (by omega) (by omega) (by omega) (by omega)
section
variable {prog : Program} {w : World} {A : Around} {s : Shared} {env : Env} {h₀ : Heap} {L : Addr}
theorem for_range {E : Value → Shared → Prop} {R : Result → Shared → Prop} {y : Str} {px : Pos} {body : List Stmt} {m₀ : Str → Option Value} {news₀ : List (Addr × Obj)} {r : Addr} {n : Nat} {t u v : Tok}
    (J : Nat → (Str → Option Value) → List (Addr × Obj) → Prop) (hr : IsRange s.heap r 0 (n : Int) 1 t u v) (hn : n ≤ 1000) (hh : A.handled = none) (hp : 0 < s.toks) (F : Fr h₀ L s.heap m₀) (N : News h₀ L s.heap news₀) (h0 : J 0 m₀ news₀)
    (turn : ∀ i u m₁ news₁ h tk it itO, i < n → J i m₁ news₁ → 0 < tk → it = s.heap.objs.size → Fr h₀ L h m₁ → News h₀ L h ((it, itO) :: news₁) → (∀ p ∈ news₁, p.1 ≠ it) →
      wpAny (model prog w) A (assign (.Name y px) env (.int (i : Int) u)) (fun _ s₂ => 0 < s₂.toks → wpAny (model prog w) A (execs body env) (TurnEndI h₀ L it itO (J (i + 1)) R s) (fun _ _ => False) s₂) (fun _ _ => False) { s with heap := h, toks := tk })
    (done : ∀ m₁ news₁ h tk, 0 < tk → J n m₁ news₁ → Fr h₀ L h m₁ → News h₀ L h news₁ → R (.ok .next) { s with heap := h, toks := tk }) :
    wpAny (model prog w) A (pyIter (.ref r)) (fun it s₂ => codeAny (model prog w) A (.forLoop (.Name y px) it body [] env) R s₂) E s := by
  refine wpAny_pyIter_range hr (range_small hn) ?_
  have hne : ∀ p ∈ news₀, p.1 ≠ s.heap.objs.size := fun p hp => Nat.ne_of_lt (Heap.lt_size (N p hp).1)
  refine for_it (Walks.range hh s.heap.objs.size 0 1 n) ?_ (fun _ _ h => ⟨_, h⟩) J hp (F.push _) (newsCons F N (fun _ _ e => Heap.get?_push_of_some _ e) (none_of_size (Nat.le_refl _)) (Heap.get?_push_size _ rfl)) hne h0 ?_ done
  · have e := range_size n
    show IsRangeIter _ _ _ _ _
    rw [e]
    have := Heap.get?_push_size s.heap (o := { cls := .type "range_iterator", data := .fields #[rawInt 0, rawInt (n : Int), rawInt 1] }) rfl
    simpa [IsRangeIter] using this
  · rintro i v m₁ news₁ h tk itO hi ⟨t, rfl⟩ hJ htk hsz F₁ N₁ hn₁
    have := turn i t m₁ news₁ h tk s.heap.objs.size itO hi hJ htk rfl F₁ N₁ hn₁
    rw [show (0 : Int) + (i : Int) * 1 = (i : Int) from by omega]
    exact this
end
end Mine

end
section
open PySem PySem.W PyProof.Rows
set_option maxRecDepth 100000
namespace Mine
theorem newsDup {h₀ h : Heap} {L : Addr} {p : Addr × Obj} {news : List (Addr × Obj)} (N : News h₀ L h news) (hp : p ∈ news) : News h₀ L h (p :: news) := fun q hq => by
  rcases List.mem_cons.mp hq with rfl | hq
  · exact N _ hp
  · exact N q hq
section
variable {prog : Program} {w : World} {A : Around} {E : Value → Shared → Prop} {s : Shared} {h₀ : Heap} {L : Addr} {m : Str → Option Value} {news : List (Addr × Obj)}
theorem item_N {D : Addr} {vs : List Value} {v : Value} {n : Nat} {k : Int} {u : Tok} {value slice : Expr} {Q : Value → Shared → Prop} (N : News h₀ L s.heap news) (hm : (D, listOf vs.toArray n) ∈ news) (h0 : 0 ≤ k) (hfit : k < 2 ^ 63) (hx : vs[k.toNat]? = some v) (h : Q v s)
    (hs : subscripted slice false (.ref D) (.int k u) = operate [.ref D, .int k u] (getItem (.ref D) (.int k u)) := by with_unfolding_all rfl) :
    wpAny (model prog w) A (subscriptTail value slice (.ref D) (.int k u)) Q E s :=
  tail_any (N.isList hm).typeIs slot_list_getitem.lookup (wpAny_getItem_list (N.isList hm) h0 hfit (by simpa using hx) h) hs
theorem range_T {Q : Value → Shared → Prop} {n : Int} {t : Tok} (F : Fr h₀ L s.heap m) (N : News h₀ L s.heap news) (hp : 0 < s.toks)
    (h : ∀ h' tk t₁ u₁ v₁, 0 < tk → IsRange h' s.heap.objs.size 0 n 1 t₁ u₁ v₁ → Fr h₀ L h' m → News h₀ L h' news → Q (.ref s.heap.objs.size) { s with heap := h', toks := tk }) :
    wpAny (model prog w) A (call (.type "range") [.int n t]) Q E s :=
  toks_T hp (range1_rows F N fun h' tk t₁ u₁ v₁ a b c _ htk => h h' tk t₁ u₁ v₁ htk a b c)
theorem row_le (c : Nat) : ∀ (l : List Nat), ∀ r ∈ cut c l, r.length ≤ l.length := by
  intro l
  induction l with
  | nil => intro r hr; simp [cut] at hr; simp [hr]
  | cons k t ih =>
    intro r hr
    obtain ⟨h, u, e⟩ := cut_cons c t
    by_cases hk : k = c
    · simp only [cut, hk, if_true, List.mem_cons] at hr
      rcases hr with rfl | hr
      · simp
      · have := ih r hr; simp; omega
    · simp only [cut, hk, if_false, e, List.mem_cons] at hr
      rcases hr with rfl | hr
      · have := ih h (by simp [e]); simp; omega
      · have := ih r (by simp [e, hr]); simp; omega
theorem rows_le (l : List Nat) : ∀ r ∈ rowsL l, r.length ≤ l.length := by
  intro r hr
  have h1 := row_le 10 _ r hr
  have h2 := lf2_len l.length l (Nat.le_refl _)
  rw [one_len] at h1
  omega
theorem join_N {x : List Nat} {a : Addr} {ls : List (Str × Tok)} {t : Tok} {Q : Value → Shared → Prop} (hp : 0 < s.toks) (hD : s.heap.IsList a (strValues ls).toArray) (hl : ls.map (·.1) = (rowsL x).map S) (hx : x.length ≤ 1000) (h : ∀ t' k, 0 < k → Q (.str (S (crlf x)) t') { s with toks := k }) : wpAny (model prog w) A (call (.builtin "str.join") ([.str (Str.ofString "\x0d\n") t] ++ [.ref a])) Q E s := by
  have hlen : ls.length = (rowsL x).length := by simpa using congrArg List.length hl
  have hrl := rows_len x
  refine toks_T hp (SC.join (l := ls) hD rfl ?_ fun t' k => ?_)
  · unfold JoinOk
    rw [StrLaws.joinTotal]
    have h1 := StrLaws.sumLen_le (B := 1000) (ls.map (·.1)) (by
      rw [hl]; intro q hq
      obtain ⟨c, hc, rfl⟩ := List.mem_map.mp hq
      have := rows_le x c hc
      rw [S_len]; omega)
    have h2 : (Str.ofString "\x0d\n").length = 2 := by decide +kernel
    rw [h2]
    rw [List.length_map] at h1 ⊢
    unfold Builtin.Str.tooLong
    rw [sizeLine_eq]
    have : ¬ (List.map (fun x => x.length) (ls.map (·.1))).sum + ls.length * 2 > 16777216 := by
      have h3 : ls.length ≤ 1001 := by omega
      have h4 : ls.length * 1000 ≤ 1001 * 1000 := Nat.mul_le_mul_right _ h3
      omega
    rw [decide_eq_false this]; rfl
  · intro hk
    have e : Txt.join (Str.ofString "\x0d\n") (ls.map (·.1)) = S (crlf x) := by
      rw [show Str.ofString "\x0d\n" = S [13, 10] from by decide +kernel, hl]
      exact (eq_of_beq (join_closes rfl)).trans (join_rows x)
    rw [e]
    exact h _ _ hk
end
theorem LexTo.inv {l : List Nat} {a : Nat × List Nat} {wl : List (Nat × List Nat)} {p n q k : Nat} (h : LexTo l (a :: wl) p n q k) : ∃ cs r, Tok0 cs (crlf a.2) false ∧ Rd l p cs r ∧ cs.length ≤ 2000 ∧ LexTo l wl r (n + nls cs) q k := by
  cases h with
  | cons h1 h2 h3 h4 => exact ⟨_, _, h1, h2, h3, h4⟩
theorem LexTo.fin {l : List Nat} {p n q k : Nat} (h : LexTo l [] p n q k) : ∃ cs, Tok0 cs [] true ∧ Rd l p cs q ∧ cs.length ≤ 2000 ∧ k = n + nls cs := by
  cases h with
  | nil h1 h2 h3 => exact ⟨_, h1, h2, h3, rfl⟩
theorem nameNews {h₀ h : Heap} {L : Addr} {news : List (Addr × Obj)} (N : News h₀ L h news) : ∃ NW, NW = news ∧ News h₀ L h NW := ⟨_, rfl, N⟩
theorem S_emp : Str.ofString "" = S [] := by decide +kernel
theorem rowsE_emp {x : List Nat} {a : List (List Nat)} {b : List Nat} (h : rowsL x = a ++ [b]) (hb : b = []) : rowsE x = a := by
  unfold rowsE
  rw [h, hb, if_pos (by simp), List.dropLast_concat]
theorem rowsE_full {x : List Nat} {a : List (List Nat)} {b : List Nat} (h : rowsL x = a ++ [b]) (hb : b ≠ []) : rowsE x = rowsL x := by
  unfold rowsE
  rw [if_neg (by rw [h]; simp [hb])]
theorem rowsE_le (x : List Nat) : ∀ r ∈ rowsE x, r.length ≤ x.length := by
  intro r hr
  unfold rowsE at hr
  split at hr
  · exact rows_le x r (List.dropLast_subset _ hr)
  · exact rows_le x r hr
theorem str_at {rl : List (Str × Tok)} {rows : List (List Nat)} {i : Nat} {v : Value} (hE : rl.map (·.1) = rows.map S) (hv : (strValues rl).toArray[i]? = some v) : ∃ r t, rows[i]? = some r ∧ v = .str (S r) t := by
  have hv' : (strValues rl)[i]? = some v := by simpa using hv
  unfold strValues at hv'
  rw [List.getElem?_map] at hv'
  obtain ⟨⟨x0, xt⟩, e1, e2⟩ := Option.map_eq_some_iff.mp hv'
  have h1 : (rl.map (·.1))[i]? = some x0 := by rw [List.getElem?_map, e1]; rfl
  rw [hE, List.getElem?_map] at h1
  obtain ⟨r, h2, h3⟩ := Option.map_eq_some_iff.mp h1
  refine ⟨r, xt, h2, ?_⟩
  rw [← e2, h3]
/-- the lines of the first i messages -/
def lineSum (xs : List (List Nat)) (i : Nat) : Nat := ((xs.take i).map fun x => (rowsE x).length).sum
theorem lineSum_succ {xs : List (List Nat)} {i : Nat} {x : List Nat} (h : xs[i]? = some x) : lineSum xs (i + 1) = lineSum xs i + (rowsE x).length := by
  unfold lineSum
  rw [List.take_add_one, h]
  simp
theorem idx1 (n : Nat) : Builtin.Str.strSliceIndices none (some 1) 1 (n + 1) = [0] := by
  unfold Builtin.Str.strSliceIndices sliceRange
  dsimp only
  have e : max (0 : Int) (min 1 ((n + 1 : Nat) : Int)) = 1 := by omega
  simp only [show ((1 : Int) < 0) = False from by simp, if_false, show ((1 : Int) > 0) = True from by simp, if_true, e]
  rfl
theorem slice1 (r : List Nat) : Txt.slice (S r) none (some 1) = S (r.take 1) := by
  cases r with
  | nil => decide +kernel
  | cons c r =>
    unfold Txt.slice
    have e : (S (c :: r)).length = r.length + 1 := by rw [S_len]; rfl
    rw [e, idx1]
    by_cases h : r.length = 0
    · have : r = [] := List.eq_nil_of_length_eq_zero h
      subst this
      rfl
    · rw [if_neg (by intro hh; rw [Bool.and_eq_true] at hh; have := eq_of_beq hh.2; simp only [List.length_cons, List.length_nil] at this; omega)]
      simp
theorem dot_is (r : List Nat) : (Txt.slice (S r) none (some 1) == Str.ofString ".") = decide (r.take 1 = [46]) := by
  rw [slice1, show Str.ofString "." = S [46] from by decide +kernel]
  by_cases e : r.take 1 = [46]
  · rw [e, decide_eq_true rfl]; exact beq_self_eq_true _
  · rw [decide_eq_false e, beq_eq_false_iff_ne]
    exact fun h => e (S_inj h)
theorem len_dot {r : List Nat} (h : r.take 1 = [46]) : ((Str.ofString "." ++ S r).length : Int) + 2 = (((stuff r).length + 2 : Nat) : Int) := by
  unfold stuff
  rw [if_pos h, show Str.ofString "." = S [46] from by decide +kernel, S_app, S_len]
  simp
theorem len_nodot {r : List Nat} (h : ¬ r.take 1 = [46]) : ((S r).length : Int) + 2 = (((stuff r).length + 2 : Nat) : Int) := by
  unfold stuff
  rw [if_neg h, S_len]
  simp
theorem ints_snoc {ys : List Value} {rows : List (List Nat)} {i : Nat} {r : List Nat} {a : Int} {t : Tok} (h : IntsAre ys ((rows.take i).map fun r => (((stuff r).length + 2 : Nat) : Int))) (hr : rows[i]? = some r) (ha : a = (((stuff r).length + 2 : Nat) : Int)) :
    IntsAre (ys ++ [.int a t]) ((rows.take (i + 1)).map fun r => (((stuff r).length + 2 : Nat) : Int)) := by
  rw [List.take_add_one, hr, List.map_append, ha]
  exact IntsAre.append h (.cons _ _ .nil)
theorem sum_stuff : ∀ (rows : List (List Nat)), (rows.map fun r => (((stuff r).length + 2 : Nat) : Int)).sum = ((stuffed rows).length : Nat)
  | [] => rfl
  | r :: rows => by
    rw [List.map_cons, List.sum_cons, sum_stuff rows, stuffed_len_cons]
    omega
theorem place_next {xs : List (List Nat)} {i : Nat} {x : List Nat} (h : xs[i]? = some x) (hne : ∀ x ∈ xs, x ≠ []) :
    ((wireL (xs.take i)).length : Int) + (3 + ((rowsE x).map fun r => (((stuff r).length + 2 : Nat) : Int)).sum) = ((wireL (xs.take (i + 1))).length : Nat) := by
  rw [sum_stuff, wire_take h hne]
  omega
theorem len_rows {rl : List (Str × Tok)} {x : List Nat} (h : rl.map (·.1) = (rowsE x).map S) : rl.length = (rowsE x).length := by
  simpa using congrArg List.length h
theorem lines_next {xs : List (List Nat)} {i : Nat} {x : List Nat} {rl : List (Str × Tok)} (h : xs[i]? = some x) (hE : rl.map (·.1) = (rowsE x).map S) :
    ((1 + lineSum xs i : Nat) : Int) + ((strValues rl).toArray.size : Nat) = ((1 + lineSum xs (i + 1) : Nat) : Int) := by
  have e : (strValues rl).toArray.size = (rowsE x).length := by simp [strValues, len_rows hE]
  rw [e, lineSum_succ h]
  omega
end Mine

end
section
open PySem PySem.W PyProof.Rows
set_option maxRecDepth 100000
namespace Mine
local macro_rules | `(tactic| walk_at "execs cons") => `(tactic| (k_here; (refine execs_T (by first | assumption | exact Nat.succ_pos _ | (dsimp only; omega) | (simp only [List.length_cons, List.length_nil]; omega)) ?_); intro tk htk; (try dsimp only)))
local macro_rules | `(tactic| walk_at "exec For") => `(tactic| (k_here; k_dflt (refine wpAny_For ?_)))
local macro_rules | `(tactic| walk_at "exec For Name Name cons nil") => `(tactic| (k_here; k_dflt (refine wpAny_For ?_)))
local macro_rules | `(tactic| walk_at "exec For Name Call cons nil") => `(tactic| (k_here; k_dflt (refine wpAny_For ?_)))
local macro_rules | `(tactic| walk_at "exec For Tuple Subscript cons nil") => `(tactic| (k_here; k_dflt (refine wpAny_For ?_)))
local macro_rules | `(tactic| walk_at "subscriptTail") => `(tactic| (k_here; (with_reducible show wpAny _ _ (subscriptTail _ _ (Value.ref _) (Value.int _ _)) _ _ _); k_dflt (refine' item_N ?k1 ?k2 ?k3 ?k4 ?k5 ?_ ?k7; (case k1 => k_asm); (case k2 => k_mem); (case k3 => omega); (case k4 => omega); (case k5 => assumption); (case k7 => with_unfolding_all rfl); k_whole)))
local macro_rules | `(tactic| walk_at "subscriptTail Name Name ref int") => `(tactic| (k_here; (with_reducible show wpAny _ _ (subscriptTail _ _ (Value.ref _) (Value.int _ _)) _ _ _); k_dflt (refine' item_N ?k1 ?k2 ?k3 ?k4 ?k5 ?_ ?k7; (case k1 => k_asm); (case k2 => k_mem); (case k3 => omega); (case k4 => omega); (case k5 => assumption); (case k7 => with_unfolding_all rfl); k_whole)))
local macro_rules | `(tactic| walk_at "subscriptTail") => `(tactic| (k_here; (with_reducible show wpAny _ _ (subscriptTail _ _ (Value.ref _) (Value.int (-1) _)) _ _ _); k_dflt (refine' last_N ?k1 ?k2 ?_ ?k7; (case k1 => k_asm); (case k2 => k_mem); (case k7 => with_unfolding_all rfl); k_whole)))
local macro_rules | `(tactic| walk_at "call builtin:list.pop") => `(tactic| (k_here; refine hold ?_))
local macro_rules | `(tactic| walk_at "call builtin:sum") => `(tactic| (k_here; refine hold ?_))
local macro_rules | `(tactic| walk_at "eval ListComp") => `(tactic| (k_here; refine hold ?_))
local macro_rules | `(tactic| walk_at "subscriptTail Name Constant ref int") => `(tactic| (k_here; k_dflt (refine at0 (by k_asm) (by k_mem) ?_)))
local macro_rules | `(tactic| walk_at "exec If") => `(tactic| (k_here; (with_reducible show wpAny _ _ (exec (Stmt.If (Expr.Compare (Expr.Subscript _ (Expr.UnaryOp _ _ _) _) _ _ _) _ _ _) _) _ _ _); refine hold ?_))
local macro_rules | `(tactic| walk_at "call type:range") => `(tactic| (k_here; k_dflt (refine range_T (by k_asm) (by k_asm) (by first | assumption | exact Nat.succ_pos _ | (dsimp only; omega)) ?_); intro _ _ _ _ _ _ _ _ _))
local macro_rules | `(tactic| walk_at "call builtin:str.join") => `(tactic| (k_here; refine hold ?_))
local macro_rules | `(tactic| walk_at "pyIter ref") => `(tactic| (k_here; refine hold ?_))
local macro_rules | `(tactic| walk_at "call ref") => `(tactic| (k_here; refine hold ?_))
local macro_rules | `(tactic| walk_at "exec Assign cons ListComp") => `(tactic| (k_here; refine hold ?_))
local macro_rules | `(tactic| walk_at "call builtin:len") => `(tactic| (k_here; (with_reducible show wpAny _ _ (call (Value.builtin "len") [Value.ref _]) _ _ _); k_dflt (refine' len_list (News.isList ?N ?m) ?fit ?_; (case N => k_asm); (case m => k_mem); (case fit => (simp only [List.size_toArray, strValues, List.length_map]; omega)); k_whole)))
local macro_rules | `(tactic| walk_at "call builtin:len") => `(tactic| (k_here; (with_reducible show wpAny _ _ (call (Value.builtin "len") [Value.bytes (B _) _]) _ _ _); k_dflt (refine len_B (by omega) ?_); intro _ _ _))
local macro_rules | `(tactic| k_all) => `(tactic| assumption)
theorem msz_mem {ms : List (List (Nat × List Nat))} {x : List (Nat × List Nat)} (h : x ∈ ms) : wsz x ≤ msz ms := by
  induction ms with
  | nil => cases h
  | cons q r ih =>
    simp only [msz, List.map_cons, List.sum_cons] at *
    rcases List.mem_cons.mp h with rfl | h
    · omega
    · have := ih h; omega
theorem off1_mem {D : Addr} : ∀ {l : List (Addr × Obj)}, LCg.Off1 D l → ∀ p ∈ l, p.1 ≠ D
  | [], _, _, h => nomatch h
  | _ :: _, h, _, .head _ => h.1
  | _ :: _, h, p, .tail _ hp => off1_mem h.2 p hp
theorem writeW_mem {p : Nat × List Nat} : ∀ c ∈ writeW p, c ∈ p.2 ∨ c < 128 := by
  intro c hc
  unfold writeW at hc
  have hT : ∀ c ∈ tailOf p.1, c < 128 := by
    intro c hc
    unfold tailOf at hc
    split at hc
    · simp at hc; omega
    · split at hc
      · cases hc
      · simp at hc; omega
  have hq : ∀ c ∈ escQ p.2, c ∈ p.2 ∨ c < 128 := by
    intro c hc
    unfold escQ at hc
    obtain ⟨d, hd, hc⟩ := List.mem_flatMap.mp hc
    split at hc
    · simp at hc
      rcases hc with rfl | rfl
      · exact .inr (by decide)
      · exact .inl hd
    · simp at hc; subst hc; exact .inl hd
  have hp : ∀ c ∈ escP p.2, c ∈ p.2 ∨ c < 128 := by
    intro c hc
    unfold escP at hc
    obtain ⟨d, hd, hc⟩ := List.mem_flatMap.mp hc
    split at hc
    · simp at hc
      rcases hc with rfl | rfl
      · exact .inr (by decide)
      · exact .inl hd
    · simp at hc; subst hc; exact .inl hd
  rcases List.mem_append.mp hc with hc | hc
  · split at hc
    · rcases List.mem_append.mp hc with hc | hc
      · rcases List.mem_append.mp hc with hc | hc
        · simp at hc; exact .inr (by omega)
        · exact hq c hc
      · simp at hc; exact .inr (by omega)
    · exact hp c hc
  · exact .inr (hT c hc)
theorem written_ascii {wl : List (Nat × List Nat)} (h : ∀ p ∈ wl, OkWord p) : ∀ c ∈ written wl, c < 128 := by
  intro c hc
  unfold written at hc
  obtain ⟨p, hp, hc⟩ := List.mem_flatMap.mp hc
  rcases writeW_mem c hc with h1 | h1
  · have := (h p hp).2 c h1
    simp [signsL] at this
    omega
  · exact h1
theorem sent_mem {x : List Nat} (h : ∀ c ∈ x, c < 128) : ∀ c ∈ sentL x, c < 256 := by
  have hc : ∀ c ∈ dots true (crlf x), c < 256 := by
    intro c hc
    rcases dots_mem _ _ c hc with h1 | h1
    · rcases crlf_mem _ x (Nat.le_refl _) c h1 with h2 | h2 | h2
      · have := h c h2; omega
      · omega
      · omega
    · omega
  intro c hm
  unfold sentL at hm
  dsimp only at hm
  split at hm
  · exact hc c hm
  · rcases List.mem_append.mp hm with hm | hm
    · exact hc c hm
    · simp at hm; omega
theorem wire_256 {xs : List (List Nat)} (h : ∀ x ∈ xs, (∀ c ∈ x, c < 128) ∧ x.length ≤ 150) : ∀ c ∈ wireL xs, c < 256 := by
  intro c hc
  unfold wireL at hc
  obtain ⟨x, hx, hc⟩ := List.mem_flatMap.mp hc
  rcases List.mem_append.mp hc with hc | hc
  · exact sent_mem (h x hx).1 c hc
  · simp at hc; omega
theorem wire_take_le (xs : List (List Nat)) (i : Nat) : (wireL (xs.take i)).length ≤ (wireL xs).length := by
  have e : wireL xs = wireL (xs.take i) ++ wireL (xs.drop i) := by
    unfold wireL
    rw [← List.flatMap_append, List.take_append_drop]
  rw [e, List.length_append]; omega
/-- behind «if rows[-1] == ''»: the rows without an empty last one -/
def RowsMid (h₀ : Heap) (L : Addr) (s₁ : Shared) (mm : Str → Option Value) (ra : Addr) (NT : List (Addr × Obj)) (rows : List (List Nat)) (f : Flow) (s' : Shared) : Prop :=
  f = .next ∧ ∃ h' tk' rlE nE, s' = { s₁ with heap := h', toks := tk' } ∧ Fr h₀ L h' mm ∧ News h₀ L h' ((ra, listOf (strValues rlE).toArray nE) :: NT) ∧ rlE.map (·.1) = rows.map S ∧ rlE.length ≤ 200
theorem nameFr {h₀ h : Heap} {L : Addr} {m : Str → Option Value} (F : Fr h₀ L h m) : ∃ mm, mm = m ∧ Fr h₀ L h mm := ⟨_, rfl, F⟩
theorem nameTail {h₀ h : Heap} {L : Addr} {p : Addr × Obj} {news : List (Addr × Obj)} (N : News h₀ L h (p :: news)) : ∃ NT, NT = news ∧ News h₀ L h (p :: NT) := ⟨_, rfl, N⟩
/-- the law's end: True, the base kept, the code's table there -/
def LawEnd (h₀ : Heap) (L : Addr) (s₁ : Shared) (f : Flow) (s' : Shared) : Prop := ∃ h' tk m' ps, f = .ret (.bool true) ∧ s' = { s₁ with heap := h', toks := tk } ∧ Fr h₀ L h' m' ∧ h'.get? 139 = some (tabObj ps)
set_option maxHeartbeats 2000000 in
theorem law_holds : PySem.Challenge.rw_ny0028_01.Holds := hd (by
  w_on
  k_go0
  rename_i w s₀ s₁ mg mb G Y fa o pm cd doc kV ho hcd hg MX V Tv B TE TW ns hs hlay0 hL0 hr0 hl20 w1 w2 sa vs w3 hLs ra wl r0 hI hrd hcond1 hcond2 hD h₁ X T K F N l0
  refine wpAny_mono (Q := LawEnd (ghostOf s₁.heap [(143, 139)]) s₁.heap.objs.size s₁) (E := fun _ _ => False) ?walk ?fin (fun _ _ h => h.elim)
  case fin =>
    rintro _ _ ⟨h', tk, m', ps, rfl, rfl, F', g⟩
    refine ⟨goodW_bool F' hg ?_ ?_, ⟨⟨ps, g⟩, True.intro⟩⟩
    · intro _; rfl
    · wrow_post
  clear G Y ho hcd hg MX V Tv B TE TW hs hlay0 hL0 hr0 hl20 hLs ra wl r0 hrd hcond2 hD K hT8 hT9 w1 w2 w3
  k_steps
  delta Hold
  refine figs_N (by k_asm) (by k_asm) X T (by first | assumption | exact Nat.succ_pos _ | (dsimp only; omega)) lifted hI (by omega) rfl (Nat.le_of_ble_eq_true rfl) (Nat.le_of_ble_eq_true rfl) ?_
  intro ga fvs fns fn h1 tk1 htk1 F1 N1 hfi hfl hfr
  clear F N
  k_steps
  delta Hold
  refine msgs_N F1 N1 X T (by first | assumption | exact Nat.succ_pos _ | (dsimp only; omega)) hfi hfl hfr rfl (Nat.le_of_ble_eq_true rfl) (Nat.le_of_ble_eq_true rfl) ?_
  intro ma fz ms h2 tk2 htk2 F2 N2 hfz hms hok hmsz hmne
  have fz139 : ∀ p ∈ fz, p.1 ≠ 139 := fun p hp e => by
    have := hfz p hp
    rw [e, (N1 (139, tabObj #[]) (.tail _ (.head _))).1] at this; cases this
  clear F1 N1 hfz
  dsimp only [List.cons_append, List.nil_append] at N2
  k_steps
  delta Hold
  refine comp_openA (by with_unfolding_all rfl) (by with_unfolding_all rfl) (by rfl) (by decide) ?_
  k_steps
  delta Hold
  rename Fr _ _ _ _ => F3
  rename News _ _ _ _ => N3
  obtain ⟨bs, bn, hbm, hA⟩ := hms
  have hbl : bs.length = ms.length := hA.length
  have hml := msz_ge ms
  refine comp_list (fun i ys nw => nw = (139, tabObj #[]) :: fz ∧ ∃ ls : List (Str × Tok), ys = strValues ls ∧ ls.map (·.1) = ((ms.take i).map written).map S) (its := (bs.map Value.ref).toArray)
    (.inr ⟨_, .tail _ hbm, rfl, _, rfl⟩) (fun i ys nw h => .inr ⟨refsO bs bn, h.1 ▸ List.mem_cons_of_mem _ hbm, rfl, bn, rfl⟩) (by simp [sizeLine_eq]; omega) rfl (by first | assumption | exact Nat.succ_pos _ | (dsimp only; omega)) F3 N3 ⟨rfl, [], rfl, rfl⟩ (by decide) (by rfl) (by rfl) ?_ ?_
  · rintro i v I oI C oC D m₂ ys nw h4 tk4 hv ⟨rfl, ls, rfl, hls⟩ htk4 nso hm2 F4 N4 off ne
    clear F3 N3
    have hv' : (bs.map Value.ref)[i]? = some v := by simpa using hv
    rw [List.getElem?_map] at hv'
    obtain ⟨ba, hba, rfl⟩ := Option.map_eq_some_iff.mp hv'
    obtain ⟨wl, hwl, hmi⟩ := hA.at hba
    have hwm := List.mem_of_getElem? hwl
    k_steps
    delta Hold
    refine writ_N (news := (I, oI) :: (C, oC) :: (D, LCg.lst (strValues ls)) :: (139, tabObj #[]) :: fz) F4 N4 X T (by first | assumption | exact Nat.succ_pos _ | (dsimp only; omega)) (hmi.mono fun _ _ e => .tail _ (.tail _ (.tail _ (.tail _ e)))) (hok wl hwm).2 (Nat.le_trans (msz_mem hwm) (by omega)) rfl (Nat.le_of_ble_eq_true rfl) (Nat.le_of_ble_eq_true rfl) ?_
    intro t5 h5 tk5 htk5 F5 N5 hw5
    clear F4 N4
    k_steps
    refine ⟨_, _, _, rfl, F5, N5, off, rfl, ls ++ [(S (written wl), t5)], by simp [strValues], ?_⟩
    rw [List.take_add_one, hwl]
    simp [hls]
  · refine comp_doneA rfl (by rfl) (by rfl) ?_
    rintro D ys nw h4 tk4 htk4 F4 N4 off ⟨rfl, ls, rfl, hls⟩
    clear F3 N3
    rw [show (bs.map Value.ref).toArray.size = ms.length from by simp [hbl], List.take_length] at hls
    intro _
    dsimp only
    have hoffm : ∀ p ∈ fz, p.1 ≠ D := off1_mem off.2
    have hoff139 : @Ne Nat 139 D := off.1
    k_steps
    delta Hold
    have hxb : ∀ x ∈ ms.map written, (∀ c ∈ x, c < 128) ∧ x.length ≤ 150 := by
      intro x hx
      obtain ⟨wl, hwl, rfl⟩ := List.mem_map.mp hx
      refine ⟨written_ascii (hok wl hwl).2, ?_⟩
      have z1 := written_le wl
      have z2 := msz_mem hwl
      omega
    refine wire_N (xs := ms.map written) (news := (D, LCg.lst (strValues ls)) :: (139, tabObj #[]) :: fz) F4 N4 X T (by first | assumption | exact Nat.succ_pos _ | (dsimp only; omega)) (.head _) hls hxb (by rw [List.length_map]; omega) rfl (Nat.le_of_ble_eq_true rfl) (Nat.le_of_ble_eq_true rfl) ?_
    intro t5 h5 tk5 htk5 F5 N5
    clear F4 N4
    k_steps
    delta Hold
    rename Fr _ _ _ _ => F6
    rename News _ _ _ _ => N6
    rename_i tkA htkA hA1 hA2 tkB htkB at_ hA3 l1 hA4 hA5 tkC htkC
    have htl : (ms.map written).length ≤ 42 := by rw [List.length_map]; omega
    have hwz := wire_len (ms.map written) (fun x hx => (hxb x hx).2)
    have hat : ∀ p ∈ fz, p.1 ≠ at_ := fun p hp => Nat.ne_of_lt (allLt_all l1.2.2 p hp)
    refine recv_N (news := (at_, listOf #[.int 0 tkB] 0) :: (D, LCg.lst (strValues ls)) :: fz) F6 (news_sub N6 ?_) ?_ ⟨_, .head _⟩ X T codeHd (by first | assumption | exact Nat.succ_pos _ | (dsimp only; omega)) (Nat.le_of_ble_eq_true rfl) (by omega) ?_ ?_
    · intro p hp
      simp only [List.mem_cons] at hp ⊢
      rcases hp with h | h | h | h <;> simp [h]
    · intro p hp
      rcases List.mem_cons.mp hp with rfl | hp
      · exact Nat.ne_of_gt l1.2.1
      rcases List.mem_cons.mp hp with rfl | hp
      · exact Ne.symm hoff139
      · exact fz139 p hp
    · intro c hc
      exact wire_256 hxb c hc
    intro u1 u2 u3 u4 u5 ul uw xs ds pbs f objs ps h7 tk7 htk7 F7 N7 N7' G fnx ord apart
    clear F6 N6
    have N8 : News (ghostOf s₁.heap [(143, 139)]) s₁.heap.objs.size h7 ((at_, listOf #[.int 0 tkB] 0) :: (xs, instObj 100 ds) :: (ds, lexD w u1 u2 u3 u4 ul uw 1 .none pbs [ent w "read" u5 (.ref f)] 5) :: (objs ++ (139, tabObj ps) :: (D, LCg.lst (strValues ls)) :: fz)) := by
      refine news_sub (news_app N7' N7) ?_
      intro p hp
      simp only [List.mem_cons, List.mem_append] at hp ⊢
      rcases hp with h | h | h | h | h | h | h <;> simp [h]
    clear N7 N7'
    k_steps
    delta Hold
    rename Fr _ _ _ _ => F9
    rename News _ _ _ _ => N9
    refine lexNew_N F9 N9 X T (by first | assumption | exact Nat.succ_pos _ | (dsimp only; omega)) (Nat.le_of_ble_eq_true rfl) ?_
    intro t1 t2 t3 t4 tl tw xl dl pbl h10 tk10 htk10 F10 N10 low ord2
    clear F9 N9
    have K : Lx.Ok w ⟨at_, 0, dl, xl, pbl, ds, xs, pbs, f, t1, t2, t3, t4, tw, u1, u2, u3, u4, u5, ul, uw, objs ++ (139, tabObj ps) :: (D, LCg.lst (strValues ls)) :: fz⟩ (wireL (ms.map written)) := by
      have lowO : ∀ p ∈ objs ++ (139, tabObj ps) :: (D, LCg.lst (strValues ls)) :: fz, p.1 < dl := fun p hp => low p (.tail _ (.tail _ (.tail _ hp)))
      have part : ∀ p ∈ (139, tabObj ps) :: (D, LCg.lst (strValues ls)) :: fz, p.1 ≠ at_ ∧ p.1 ≠ xs ∧ p.1 ≠ ds ∧ ∀ q ∈ objs, q.1 ≠ p.1 := by
        intro p hp
        rcases List.mem_cons.mp hp with rfl | hp
        · have z := apart (139, tabObj ps) (.head _)
          exact ⟨Nat.ne_of_lt l1.2.1, z.1, z.2.1, z.2.2⟩
        have z := apart p (.tail _ (.tail _ hp))
        refine ⟨?_, z.1, z.2.1, z.2.2⟩
        rcases List.mem_cons.mp hp with rfl | hp
        · exact Nat.ne_of_lt l1.1
        · exact hat p hp
      constructor
      · exact G.more fun q hq => ⟨(part q hq).1, (part q hq).2.2.2⟩
      · obtain ⟨oc, od, fd, sl, hm⟩ := fnx
        exact ⟨oc, od, fd, sl, List.mem_append_left _ hm⟩
      · exact ord.1
      · exact ord.2.1
      · exact low _ (.tail _ (.head _))
      · exact ord2.1
      · exact ord2.2
      · intro p hp; exact Nat.ne_of_lt (lowO p hp)
      · intro p hp
        rcases List.mem_append.mp hp with hp | hp
        · exact (ord.2.2 p hp).1
        · exact (part p hp).1
      · intro p hp
        have z := lowO p hp
        refine ⟨Nat.ne_of_lt (Nat.lt_trans z ord2.1), Nat.ne_of_lt (Nat.lt_trans z (Nat.lt_trans ord2.1 ord2.2)), ?_⟩
        rcases List.mem_append.mp hp with hp | hp
        · exact (ord.2.2 p hp).2
        · exact ⟨(part p hp).2.1, (part p hp).2.2.1⟩
    generalize hkd : (⟨at_, 0, dl, xl, pbl, ds, xs, pbs, f, t1, t2, t3, t4, tw, u1, u2, u3, u4, u5, ul, uw, objs ++ (139, tabObj ps) :: (D, LCg.lst (strValues ls)) :: fz⟩ : Lx) = k at K
    have hk139 : (139, tabObj ps) ∈ k.objs := by rw [← hkd]; exact List.mem_append_right _ (.head _)
    have hkD : (D, LCg.lst (strValues ls)) ∈ k.objs := by rw [← hkd]; exact List.mem_append_right _ (.tail _ (.head _))
    have hkz : ∀ p ∈ fz, p ∈ k.objs := fun p hp => by rw [← hkd]; exact List.mem_append_right _ (.tail _ (.tail _ hp))
    have N11 : News (ghostOf s₁.heap [(143, 139)]) s₁.heap.objs.size h10 (k.led w 0 tkB 1 tl) := by
      refine news_sub N10 ?_
      intro p hp
      rw [← hkd] at hp
      simp only [Lx.led, List.mem_cons] at hp ⊢
      rcases hp with h | h | h | h | h | h | h
      · exact .inr (.inr (.inr (.inl h)))
      · exact .inr (.inr (.inl h))
      · exact .inr (.inl h)
      · exact .inl h
      · exact .inr (.inr (.inr (.inr (.inl h))))
      · exact .inr (.inr (.inr (.inr (.inr (.inl h)))))
      · exact .inr (.inr (.inr (.inr (.inr (.inr h)))))
    have eat : at_ = k.at_ := by rw [← hkd]
    have exl : xl = k.xl := by rw [← hkd]
    subst eat exl
    clear N10 low apart ord ord2 fnx G l1 hat hkd
    have N12 := newsDup N11 (p := (ma, refsO bs bn)) (List.mem_append_right [_, _, _, _, _, _] (hkz _ hbm))
    clear N11
    dsimp only [Lx.led] at N12
    k_steps
    delta Hold
    rename Fr _ _ _ _ => F13
    rename News _ _ _ _ => N13
    rename IsRange _ _ _ _ _ _ _ _ => hrg
    have hlnm : (ms.map written).length = ms.length := List.length_map ..
    have hxne : ∀ x ∈ ms.map written, x ≠ [] := by
      intro x hx
      obtain ⟨wl, hwl, rfl⟩ := List.mem_map.mp hx
      exact written_ne (hok wl hwl).1
    have hlsl : ls.length = ms.length := by
      have := congrArg List.length hls
      simpa using this
    rw [show ((bs.map Value.ref).toArray.size : Nat) = ms.length from by simp [hbl]] at hrg
    apply for_range (n := ms.length) (news₀ := k.led w 0 tkB 1 tl) (fun i m news => ∃ tp tl t9 t10, news = k.led w (wireL ((ms.map written).take i)).length tp ((1 + lineSum (ms.map written) i : Nat) : Int) tl ∧
      ∀ p ∈ [(Str.ofString "messages", Value.ref ma), (Str.ofString "texts", Value.ref D), (Str.ofString "wire", Value.bytes (B (wireL (ms.map written))) t5), (Str.ofString "at", Value.ref k.at_), (Str.ofString "lex", Value.ref k.xl), (Str.ofString "place", Value.int ((wireL ((ms.map written).take i)).length : Nat) t9), (Str.ofString "lines", Value.int ((1 + lineSum (ms.map written) i : Nat) : Int) t10)], m p.1 = some p.2)
    case hr => exact hrg
    case hn => omega
    case hh => rfl
    case hp => first | assumption | (show (0 : Nat) < _ + 1; omega) | (show (0 : Nat) < _ + 1 + 1; omega) | (dsimp only; omega)
    case F => exact F13
    case N => exact news_sub N13 fun p hp => .tail _ hp
    case h0 => exact ⟨_, _, _, _, rfl, by repeat' (first | exact List.forall_mem_nil _ | refine List.forall_mem_cons.mpr ⟨rfl, ?_⟩)⟩
    case turn =>
      rintro i u m₁ news₁ h14 tk14 it itO hi ⟨tp, tl9, t9, t10, rfl, hm⟩ htk14 hit F14 N14 hne
      clear F13 N13 hrg
      obtain ⟨b, hb⟩ : ∃ b, bs[i]? = some b := ⟨bs[i]'(by omega), List.getElem?_eq_getElem (by omega)⟩
      obtain ⟨wl, hwl, as, an, has, hA2⟩ := hA.at hb
      have hxi : (ms.map written)[i]? = some (written wl) := by rw [List.getElem?_map, hwl]; rfl
      have hwm := List.mem_of_getElem? hwl
      have hbi : (bs.map Value.ref)[(i : Int).toNat]? = some (Value.ref b) := by
        rw [Int.toNat_natCast, List.getElem?_map, hb]; rfl
      obtain ⟨tx, htx⟩ : ∃ tx, (strValues ls)[(i : Int).toNat]? = some (Value.str (S (written wl)) tx) := by
        rw [Int.toNat_natCast]
        have h1 : (ls.map (·.1))[i]? = some (S (written wl)) := by rw [hls, List.getElem?_map, hxi]; rfl
        rw [List.getElem?_map] at h1
        obtain ⟨⟨q1, q2⟩, e1, e2⟩ := Option.map_eq_some_iff.mp h1
        refine ⟨q2, ?_⟩
        unfold strValues
        rw [List.getElem?_map, e1]
        dsimp only at e2 ⊢
        rw [← e2]; rfl
      have hw150 := (hxb _ (List.mem_of_getElem? hxi)).2
      obtain ⟨q, hlex, hgq⟩ := msg_lex hxi hxne (fun a ha => ((hok wl hwm).2 a ha).1) hw150 (1 + lineSum (ms.map written) i)
      rw [Nat.add_assoc, ← lineSum_succ hxi] at hlex
      have hitk : it ∉ k.adr := by
        intro hm
        rw [← Lx.adr_led (w := w) (p := (wireL ((ms.map written).take i)).length) (tp := tp) (line := ((1 + lineSum (ms.map written) i : Nat) : Int)) (tl := tl9)] at hm
        obtain ⟨z, hz, e⟩ := List.mem_map.mp hm
        exact hne z hz e
      have F15 := fr_sets _ F14 hm
      dsimp only [setsOf] at F15
      have N15 := newsDup N14 (p := (ma, refsO bs bn)) (.tail _ (List.mem_append_right [_, _, _, _, _, _] (hkz _ hbm)))
      clear F14 N14
      dsimp only [Lx.led] at N15
      k_steps
      delta Hold
      rename Fr _ _ _ _ => F16
      rename News _ _ _ _ => N16
      have hbl16 := N16.isList (.tail _ (.tail _ (List.mem_append_right [_, _, _, _, _, _] (hkz _ has))))
      apply for_list (items := (as.map Value.ref).toArray) (news₀ := (it, itO) :: k.led w (wireL ((ms.map written).take i)).length tp ((1 + lineSum (ms.map written) i : Nat) : Int) tl9) (fun j m news => ∃ p n tp tl, news = (it, itO) :: k.led w p tp ((n : Nat) : Int) tl ∧ p ≤ (wireL (ms.map written)).length ∧ LexTo (wireL (ms.map written)) (wl.drop j) p n q (1 + lineSum (ms.map written) (i + 1)) ∧
        ∀ p ∈ [(Str.ofString "messages", Value.ref ma), (Str.ofString "texts", Value.ref D), (Str.ofString "wire", Value.bytes (B (wireL (ms.map written))) t5), (Str.ofString "at", Value.ref k.at_), (Str.ofString "lex", Value.ref k.xl), (Str.ofString "place", Value.int ((wireL ((ms.map written).take i)).length : Nat) t9), (Str.ofString "lines", Value.int ((1 + lineSum (ms.map written) i : Nat) : Int) t10), (Str.ofString "k", Value.int (i : Int) u)], m p.1 = some p.2)
      case hh => rfl
      case hp => first | assumption | exact Nat.succ_pos _ | (dsimp only; omega)
      case hl => exact hbl16
      case F => exact F16
      case N => exact news_sub N16 fun p hp => .tail _ hp
      case h0 => exact ⟨_, _, _, _, rfl, wire_take_le _ i, hlex, by repeat' (first | exact List.forall_mem_nil _ | refine List.forall_mem_cons.mpr ⟨rfl, ?_⟩)⟩
      case go => exact go_tup (fun v hv => by simp at hv; obtain ⟨T, _, e⟩ := hv; exact ⟨T, e.symm⟩)
      case turn =>
        rintro j v m₂ news₂ h17 tk17 it₂ itO₂ hv ⟨p, n, tp2, tl2, rfl, hpl, hlx, hm2⟩ htk17 hsz17 hit₂ F17 N17 hne₂ hl17
        clear F16 N16 hbl16
        have hv' : (as.map Value.ref)[j]? = some v := by simpa using hv
        rw [List.getElem?_map] at hv'
        obtain ⟨pa, hpa, rfl⟩ := Option.map_eq_some_iff.mp hv'
        obtain ⟨⟨kk, x⟩, hw, t, u', n', ho⟩ := hA2.at hpa
        have hL2 : h17.IsList pa #[.int (kk : Nat) t, .str (S x) u'] := N17.isList (.tail _ (.tail _ (List.mem_append_right [_, _, _, _, _, _] (hkz _ ho))))
        have F18 := fr_sets _ F17 hm2
        dsimp only [setsOf] at F18
        clear F17
        dsimp only [Lx.led] at N17
        have hwd : wl.drop j = (kk, x) :: wl.drop (j + 1) := by
          have hlt := (List.getElem?_eq_some_iff.mp hw).1
          have hx := (List.getElem?_eq_some_iff.mp hw).2
          rw [List.drop_eq_getElem_cons hlt, hx]
        rw [hwd] at hlx
        obtain ⟨cs, r, tok, rd, hcl, hlx'⟩ := hlx.inv
        dsimp only at tok
        have hit₂k : it₂ ∉ k.adr := by
          intro hm
          rw [← Lx.adr_led (w := w) (p := p) (tp := tp2) (line := ((n : Nat) : Int)) (tl := tl2)] at hm
          obtain ⟨z, hz, e⟩ := List.mem_map.mp hm
          exact hne₂ z (.tail _ hz) e
        have hxl : x.length ≤ 50 := by
          have z1 := wsz_mem (List.mem_of_getElem? hw)
          have z2 := msz_mem hwm
          dsimp only at z1
          omega
        k_steps
        delta Hold
        rename Fr _ _ _ _ => F19
        rename News _ _ _ _ => N19
        refine tok_N (k := k) (rest := [(it₂, itO₂), (it, itO)]) (p := p) (tp := tp2) (line := ((n : Nat) : Int)) (tl := tl2) (p' := r) K F19 N19 (fun z hz => hz) ?_ X T (by first | assumption | exact Nat.succ_pos _ | (dsimp only; omega)) hpl tok rd hcl ?_ rfl (Nat.le_of_ble_eq_true rfl) (Nat.le_of_ble_eq_true rfl) ?_
        · intro z hz
          rcases List.mem_cons.mp hz with rfl | hz
          · exact hit₂k
          · rw [List.mem_singleton.mp hz]; exact hitk
        · rw [if_neg (by decide)]
        intro t20 tp20 tl20 h20 tk20 htk20 F20 N20
        clear F19 N19
        rw [← Int.natCast_add] at N20
        dsimp only [Lx.led, List.cons_append, List.nil_append] at N20
        k_steps
        delta Hold
        rename Fr _ _ _ _ => F21
        rename News _ _ _ _ => N21
        refine rows_N F21 N21 X T (by first | assumption | exact Nat.succ_pos _ | (dsimp only; omega)) (by omega) rfl (Nat.le_of_ble_eq_true rfl) (Nat.le_of_ble_eq_true rfl) ?_
        intro ra rl h22 tk22 htk22 F22 N22 hlo22 hrl hrll
        clear F21 N21
        k_steps
        delta Hold
        refine join_N (x := x) (by first | assumption | exact Nat.succ_pos _ | (dsimp only; omega)) (N22.isList (.head _)) hrl (by omega) ?_
        intro t23 k23 hk23
        k_steps
        · rename (_ != _) = true => hbad
          simp at hbad
        · refine ⟨_, _, _, (it, itO) :: k.led w r tp20 ((n + nls cs : Nat) : Int) tl20, rfl, F22, news_sub N22 fun z hz => .tail _ hz, ?_, ⟨r, n + nls cs, tp20, tl20, rfl, rd.le hpl, hlx', by repeat' (first | exact List.forall_mem_nil _ | refine List.forall_mem_cons.mpr ⟨rfl, ?_⟩)⟩, N22.isList (.tail _ (.tail _ (.tail _ (List.mem_append_right [_, _, _, _, _, _] (hkz _ has)))))⟩
          intro z hz
          rcases List.mem_cons.mp hz with rfl | hz
          · exact hne₂ (it, itO) (.head _)
          · exact fun e => hit₂k (e ▸ Lx.mem_led hz)
      case done =>
        rintro m₂ news₂ h24 tk24 htk24 ⟨p, n, tp2, tl2, rfl, hpl, hlx, hm2⟩ F24 N24
        clear F16 N16 hbl16
        have hwl0 : wl.drop (as.map Value.ref).toArray.size = [] := by
          rw [List.drop_eq_nil_of_le]
          simp [hA2.length]
        rw [hwl0] at hlx
        obtain ⟨cs, tok, rd, hcl, hnf⟩ := hlx.fin
        have F25 := fr_sets _ F24 hm2
        dsimp only [setsOf] at F25
        have N25 := newsDup N24 (p := (D, listOf (strValues ls).toArray (strValues ls).length)) (.tail _ (List.mem_append_right [_, _, _, _, _, _] hkD))
        clear F24 N24
        dsimp only [Lx.led] at N25
        intro _
        dsimp only
        k_steps
        delta Hold
        rename Fr _ _ _ _ => F26
        rename News _ _ _ _ => N26
        refine rows_N F26 N26 X T (by first | assumption | exact Nat.succ_pos _ | (dsimp only; omega)) (by omega) rfl (Nat.le_of_ble_eq_true rfl) (Nat.le_of_ble_eq_true rfl) ?_
        intro ra rl h27 tk27 htk27 F27 N27 hlo27 hrl hrll
        clear F26 N26
        k_lt hlo27
        have hrln := rows_len (written wl)
        obtain ⟨ra0, rb, hrows⟩ := rows_last (written wl)
        obtain ⟨rl0, tb, rfl, hrl0⟩ : ∃ rl0 tb, rl = rl0 ++ [(S rb, tb)] ∧ rl0.map (·.1) = ra0.map S := by
          rw [hrows, List.map_append] at hrl
          have hne : rl ≠ [] := by rintro rfl; simp at hrl
          have e := (List.dropLast_concat_getLast hne).symm
          rw [e, List.map_append] at hrl
          have h1 := List.append_inj_right' hrl rfl
          have h2 := List.append_inj_left' hrl rfl
          refine ⟨rl.dropLast, (rl.getLast hne).2, ?_, h2⟩
          have h3 : (rl.getLast hne).1 = S rb := by simpa using h1
          rw [← h3]; exact e
        rw [show strValues (rl0 ++ [(S rb, tb)]) = strValues rl0 ++ [Value.str (S rb) tb] from by simp [strValues]] at N27
        k_steps
        delta Hold
        rename Fr _ _ _ _ => F28
        rename News _ _ _ _ => N28
        obtain ⟨mm, hmm, F28'⟩ := nameFr F28
        obtain ⟨NT, hNT, N28'⟩ := nameTail N28
        clear F28 N28
        refine toks_T (by first | assumption | exact Nat.succ_pos _ | (dsimp only; omega)) (wpAny_mono (Q := RowsMid (ghostOf s₁.heap [(143, 139)]) s₁.heap.objs.size s₁ mm ra NT (rowsE (written wl))) (E := fun _ _ => False) ?wif ?wrest (fun _ _ h => h.elim))
        case wif =>
          subst hmm hNT
          refine wpAny_If ?_
          k_steps
          · rename (_ == _) = true => hemp
            delta Hold
            refine' kl_pop (p := strValues rl0) (y := Value.str (S rb) tb) ?pF ?pN ?pE ?pU ?pZ ?_
            (case pF => k_asm)
            (case pN => k_asm)
            (case pU => k_upd)
            (case pE => simpa using kpa_last _ _)
            (case pZ => (simp [strValues, sizeLine_eq]; simp at hrll; omega))
            intro h29 F29 N29
            have hE : rl0.map (·.1) = (rowsE (written wl)).map S := by
              rw [hrl0, rowsE_emp hrows (S_inj (by rw [← S_emp]; exact eq_of_beq hemp))]
            have hlE : rl0.length ≤ 200 := by simp at hrll; omega
            k_steps
            exact ⟨rfl, _, _, rl0, _, rfl, F29, N29, hE, hlE⟩
          · rename (_ == _) = false => hemp
            have hE : (rl0 ++ [(S rb, tb)]).map (·.1) = (rowsE (written wl)).map S := by
              rw [rowsE_full hrows (fun e => by rw [e, S_emp] at hemp; simp at hemp), hrl]
            have hlE : (rl0 ++ [(S rb, tb)]).length ≤ 200 := by omega
            rename Fr _ _ _ _ => F29
            rename News _ _ _ _ => N29
            rw [← show strValues (rl0 ++ [(S rb, tb)]) = strValues rl0 ++ [Value.str (S rb) tb] from by simp [strValues]] at N29
            exact ⟨rfl, _, _, rl0 ++ [(S rb, tb)], _, rfl, F29, N29, hE, hlE⟩
        case wrest =>
          rintro _ _ ⟨rfl, h29, tk29, rlE, nE, rfl, F29, N29, hE, hlE⟩ htk29
          subst hmm hNT
          clear F28' N28'
          intro _
          dsimp only
          k_steps
          delta Hold
          refine comp_open (by with_unfolding_all rfl) (by rfl) (by decide) ?_
          k_steps
          delta Hold
          rename Fr _ _ _ _ => F30
          rename News _ _ _ _ => N30
          obtain ⟨NW, hNW, N31⟩ := nameNews N30
          have hsrc : LCg.SrcAt (ghostOf s₁.heap [(143, 139)]) ra (strValues rlE).toArray NW := by rw [hNW]; exact .inr ⟨_, .head _, rfl, _, rfl⟩
          refine comp_list (its := (strValues rlE).toArray) (fun i ys nw => nw = NW ∧ IntsAre ys (((rowsE (written wl)).take i).map fun r => (((stuff r).length + 2 : Nat) : Int)))
            hsrc (fun i ys nw h => by rw [h.1]; exact hsrc) (by simp [sizeLine_eq, strValues]; omega) rfl (by first | assumption | exact Nat.succ_pos _ | (dsimp only; omega)) F30 N31 ⟨rfl, .nil⟩ (by decide) (by rfl) (by rfl) ?_ (comp_done ?_)
          · rintro i2 v I oI C oC D2 m₃ ys nw h32 tk32 hv ⟨rfl, hIs⟩ htk32 nso hm3 F32 N32 off ne
            clear F30 N30 N31
            obtain ⟨r, tr, hr, rfl⟩ := str_at hE hv
            subst hNW
            have hrlen := rowsE_le _ r (List.mem_of_getElem? hr)
            have hz1 := S_len r
            have hz2 : (Str.ofString ".").length = 1 := by decide
            k_steps
            all_goals (rename (Txt.slice _ _ _ == _) = _ => hdt; rw [dot_is] at hdt; rename Fr _ _ _ _ => F33; rename News _ _ _ _ => N33)
            · exact ⟨_, _, _, rfl, F33, N33, off, rfl, ints_snoc hIs hr (len_dot (of_decide_eq_true hdt))⟩
            · exact ⟨_, _, _, rfl, F33, N33, off, rfl, ints_snoc hIs hr (len_nodot (of_decide_eq_false hdt))⟩
          · rintro D2 ys nw h32 tk32 htk32 F32 N32 off ⟨rfl, hIs⟩
            clear F30 N30 N31
            rw [show (strValues rlE).toArray.size = (rowsE (written wl)).length from by simp [strValues, len_rows hE], List.take_length] at hIs
            subst hNW
            k_steps
            delta Hold
            rename Fr _ _ _ _ => F33
            rename News _ _ _ _ => N33
            refine toks_T (by first | assumption | exact Nat.succ_pos _ | (dsimp only; omega)) (sumK rfl F33 N33 (N33.isList (.head _)) hIs ?_)
            intro h34 tk34 t34 F34 N34 htk34
            clear F33 N33
            k_steps
            delta Hold
            rename Fr _ _ _ _ => F35
            rename News _ _ _ _ => N35
            rw [place_next hxi hxne, lines_next hxi hE] at F35
            refine tok_N (k := k) (rest := [(it, itO)]) (p := p) (tp := tp2) (line := ((n : Nat) : Int)) (tl := tl2) (p' := (wireL ((ms.map written).take (i + 1))).length) K F35 N35 (fun z hz => .tail _ (.tail _ (.tail _ hz))) ?_ X T (by first | assumption | exact Nat.succ_pos _ | (dsimp only; omega)) hpl tok rd hcl ?_ rfl (Nat.le_of_ble_eq_true rfl) (Nat.le_of_ble_eq_true rfl) ?_
            · intro z hz
              rw [List.mem_singleton.mp hz]; exact hitk
            · rw [if_pos rfl]; exact hgq
            intro t36 tp36 tl36 h36 tk36 htk36 F36 N36
            clear F35 N35
            rw [← Int.natCast_add, ← hnf] at N36
            dsimp only [Lx.led, List.cons_append, List.nil_append] at N36
            k_steps
            rename Fr _ _ _ _ => F37
            rename News _ _ _ _ => N37
            exact ⟨_, _, _, k.led w (wireL ((ms.map written).take (i + 1))).length tp36 ((1 + lineSum (ms.map written) (i + 1) : Nat) : Int) tl36, rfl, F37, news_sub N37 (fun z hz => .tail _ (.tail _ hz)), (fun z hz e => hitk (e ▸ Lx.mem_led hz)), ⟨tp36, tl36, _, _, rfl, by repeat' (first | exact List.forall_mem_nil _ | refine List.forall_mem_cons.mpr ⟨rfl, ?_⟩)⟩⟩
    case done =>
      rintro m₁ news₁ h40 tk40 htk40 ⟨tp, tl9, t9, t10, rfl, hm⟩ F40 N40
      clear F13 N13 hrg
      rw [show (ms.map written).take ms.length = ms.map written from List.take_of_length_le (by simp)] at N40 hm
      have F41 := fr_sets _ F40 hm
      dsimp only [setsOf] at F41
      clear F40
      dsimp only [Lx.led] at N40
      intro _
      dsimp only
      k_steps
      delta Hold
      rename Fr _ _ _ _ => F42
      rename News _ _ _ _ => N42
      refine tok_N (k := k) (rest := []) (p := (wireL (ms.map written)).length) (q := (wireL (ms.map written)).length) (tp := tp) (line := ((1 + lineSum (ms.map written) ms.length : Nat) : Int)) (tl := tl9) (p' := (wireL (ms.map written)).length) K F42 N42 (fun z hz => hz) (fun z hz => nomatch hz) X T (by first | assumption | exact Nat.succ_pos _ | (dsimp only; omega)) (Nat.le_refl _) .fin (.nil _) (by simp) ?_ rfl (Nat.le_of_ble_eq_true rfl) (Nat.le_of_ble_eq_true rfl) ?_
      · rw [if_pos rfl]; exact end_read _
      intro t43 tp43 tl43 h43 tk43 htk43 F43 N43
      clear F42 N42
      dsimp only [Lx.led, List.cons_append, List.nil_append] at N43
      k_steps
      rename Fr _ _ _ _ => F44
      rename News _ _ _ _ => N44
      exact ⟨_, _, _, ps, rfl, rfl, F44, (N44 _ (List.mem_append_right [_, _, _, _, _, _, _, _] hk139)).1⟩)
end Mine

end
theorem PySem.Challenge.cw_ny0028_01_holds : PySem.Challenge.rw_ny0028_01.Holds :=
  Mine.law_holds
