import PyProof.Rows.All
import Wide.All
import OpenK.AllK
import Wide.FinOn
import PySem.Challenge.RW_mq0146_01
open PySem PySem.W PyProof.Rows
set_option Elab.async false

section
set_option maxRecDepth 100000
set_option maxHeartbeats 8000000
namespace Mine
open_top hd for PySem.Challenge.rw_mq0146_01
end Mine
end

section
set_option maxRecDepth 100000
set_option maxHeartbeats 4000000
namespace Mine

noncomputable abbrev KK (w : World) : Frag := hd.heap_39 w.params
noncomputable abbrev LL : List Str := looseW hd.view_39 [Str.ofString "_twin_re_1", Str.ofString "_find_unsafe"]
noncomputable abbrev PP : Program := Challenge.rw_mq0146_01.row.prog

/-- what every heap of the law's run bears -/
structure Gd (w : World) (mg mb : Str → Option Value) (h : Heap) : Prop where
  X : (KK w).In h
  T : TopRead hd.view_39 LL mg mb h

/-- everything stays -/
abbrev Ext (h h' : Heap) : Prop := ∀ b o, h.get? b = some o → h'.get? b = some o
/-- everything stays but one object -/
abbrev ExtB (H : Addr) (h h' : Heap) : Prop := ∀ b o, b ≠ H → h.get? b = some o → h'.get? b = some o

theorem Ext.refl (h : Heap) : Ext h h := fun _ _ e => e
theorem Ext.trans {a b c : Heap} (x : Ext a b) (y : Ext b c) : Ext a c := fun p o e => y p o (x p o e)
theorem ExtB.refl (H : Addr) (h : Heap) : ExtB H h h := fun _ _ _ e => e
theorem ExtB.trans {H : Addr} {a b c : Heap} (x : ExtB H a b) (y : ExtB H b c) : ExtB H a c := fun p o n e => y p o n (x p o n e)
theorem Ext.toB {H : Addr} {a b : Heap} (x : Ext a b) : ExtB H a b := fun p o _ e => x p o e

theorem Gd.keeps {w : World} {mg mb : Str → Option Value} {h h' : Heap} (G : Gd w mg mb h) (hk : Ext h h') : Gd w mg mb h' :=
  ⟨G.X.keeps hk, G.T.keeps hk⟩

/-- room for k calls, one within the other -/
structure Room (k : Nat) (A : Around) : Prop where
  d : A.depth + 10 * k ≤ 600
  u : A.units + 10 * k ≤ 9000
  h : A.handled = none
theorem Room.deeper {k : Nat} {A : Around} {env : Env} (R : Room (k + 1) A) : Room k (A.deeper env) := by
  refine ⟨?_, ?_, R.h⟩
  · have := R.d
    simp only [depth_deeper]
    omega
  · have := R.u
    simp only [units_deeper]
    omega
theorem Room.less {k j : Nat} {A : Around} (R : Room k A) (h : j ≤ k) : Room j A :=
  ⟨by have := R.d; omega, by have := R.u; omega, R.h⟩

theorem enter {w : World} {mg mb : Str → Option Value} {A : Around} {E : Value → Shared → Prop} {s : Shared} {name qual : Str} {params : Arguments} {body : List Stmt} {scope : Scope} {dV kV doc pm cdv ct oc : Value} {an od : Option Addr} {osl : Array (Option Value)} {f : Addr} {args : List Value} {binds : List (Str × Value)} {Q : Value → Shared → Prop}
    (G : Gd w mg mb s.heap) (hroom : A.depth < recursionLimit)
    (ho : (KK w).lookup f = some ⟨oc, od, .func (fnOf name qual params body scope dV kV doc pm an cdv ct), osl⟩) (hcd : codeIn (KK w) cdv qual = true)
    (hbind : BindsTo s (fnOf name qual params body scope dV kV doc pm an cdv ct) ⟨args, []⟩ binds) (hloc : ∀ y ∈ binds, scope.names.lookup y.1 = some .local)
    (h : ∀ L' h₁, L' = s.heap.objs.size → Fr s.heap L' h₁ (fun y => binds.reverse.lookup y) →
      wpAny (model PP w) (A.deeper (envOf qual scope L' f cdv)) (execs body (envOf qual scope L' f cdv))
        (fun fl s' => Q (match fl with | .ret v => v | _ => .none) s')
        (fun e s' => wpAny (model PP w) (A.deeper (envOf qual scope L' f cdv)) (leaving (envOf qual scope L' f cdv) e) (fun _ s'' => E e s'') (fun e' s'' => E e' s'') s')
        { s with heap := h₁, toks := s.toks + binds.length })
    (hcell : ∀ x ∈ scope.names, x.2 ≠ .cell) (hco : scope.isCoroutine = false) (hgen : scope.isGenerator = false) (hk : scope.kind = .function) :
    wpAny (model PP w) A (call (.ref f) args) Q E s := by
  refine wpAny_call (codeAny_call_def (fd := fnOf name qual params body scope dV kV doc pm an cdv ct) (body := body) (binds := binds) hroom (G.X _ _ ho) rfl G.T.nolimit (codeRec_of G.X hcd) rfl hbind hcell hloc (fun h₁ hns hk₁ => ?_) hco hgen hk)
  exact h _ h₁ rfl ⟨hns, hk₁, Nat.le_refl _⟩

/-- a call that never raises and changes nothing that stood -/
theorem enterP {w : World} {mg mb : Str → Option Value} {A : Around} {E : Value → Shared → Prop} {s : Shared} {name qual : Str} {params : Arguments} {body : List Stmt} {scope : Scope} {dV kV doc pm cdv ct oc : Value} {an od : Option Addr} {osl : Array (Option Value)} {f : Addr} {args : List Value} {binds : List (Str × Value)} {Q : Value → Shared → Prop}
    (G : Gd w mg mb s.heap) {k : Nat} (R : Room k A)
    (ho : (KK w).lookup f = some ⟨oc, od, .func (fnOf name qual params body scope dV kV doc pm an cdv ct), osl⟩) (hcd : codeIn (KK w) cdv qual = true)
    (hbind : BindsTo s (fnOf name qual params body scope dV kV doc pm an cdv ct) ⟨args, []⟩ binds) (hloc : ∀ y ∈ binds, scope.names.lookup y.1 = some .local)
    (h : ∀ L' h₁, Fr s.heap L' h₁ (fun y => binds.reverse.lookup y) → L' = s.heap.objs.size →
      wpAny (model PP w) (A.deeper (envOf qual scope L' f cdv)) (execs body (envOf qual scope L' f cdv))
        (fun fl s' => Q (match fl with | .ret v => v | _ => .none) s') (fun _ _ => False)
        { s with heap := h₁, toks := s.toks + binds.length })
    (hcell : ∀ x ∈ scope.names, x.2 ≠ .cell) (hco : scope.isCoroutine = false) (hgen : scope.isGenerator = false) (hk : scope.kind = .function) :
    wpAny (model PP w) A (call (.ref f) args) Q E s :=
  enter G (by have := R.d; simp only [recursionLimit]; omega) ho hcd hbind hloc (fun L' h₁ eL F => wpAny_mono (h L' h₁ F eL) (fun _ _ q => q) fun _ _ q => q.elim) hcell hco hgen hk

/-- the walk stops here -/
def StopW (p : Prop) : Prop := p
theorem stopw {p : Prop} (h : StopW p) : p := h

theorem stays_hide {b h : Heap} {H : Addr} (hb : Ext b h) (hH : b.get? H = none) : Ext b (h.hide H) := fun p o e => by
  by_cases q : p = H
  · subst q; rw [hH] at e; cases e
  · rw [Heap.hide_ne h q]; exact hb p o e
theorem of_hide' {h : Heap} {H : Addr} : Ext (h.hide H) h := fun p o e => by
  by_cases q : p = H
  · subst q; rw [Heap.hide_self] at e; cases e
  · rwa [Heap.hide_ne h q] at e

/-- a call that never raises and changes the one object H -/
theorem enterH {w : World} {mg mb : Str → Option Value} {A : Around} {E : Value → Shared → Prop} {s : Shared} {name qual : Str} {params : Arguments} {body : List Stmt} {scope : Scope} {dV kV doc pm cdv ct oc : Value} {an od : Option Addr} {osl : Array (Option Value)} {f : Addr} {args : List Value} {binds : List (Str × Value)} {Q : Value → Shared → Prop}
    {b : Heap} {H : Addr} {oH : Obj}
    (G : Gd w mg mb b) (hb : Ext b s.heap) (hH : b.get? H = none) (hoH : s.heap.get? H = some oH) {k : Nat} (R : Room k A)
    (ho : (KK w).lookup f = some ⟨oc, od, .func (fnOf name qual params body scope dV kV doc pm an cdv ct), osl⟩) (hcd : codeIn (KK w) cdv qual = true)
    (hbind : BindsTo s (fnOf name qual params body scope dV kV doc pm an cdv ct) ⟨args, []⟩ binds) (hloc : ∀ y ∈ binds, scope.names.lookup y.1 = some .local)
    (h : ∀ g L' h₁, Gd w mg mb g → ExtB H s.heap g → g.get? H = none → Fr g L' h₁ (fun y => binds.reverse.lookup y) → News g L' h₁ [(H, oH)] →
      wpAny (model PP w) (A.deeper (envOf qual scope L' f cdv)) (execs body (envOf qual scope L' f cdv))
        (fun fl s' => Q (match fl with | .ret v => v | _ => .none) s') (fun _ _ => False)
        { s with heap := h₁, toks := s.toks + binds.length })
    (hcell : ∀ x ∈ scope.names, x.2 ≠ .cell) (hco : scope.isCoroutine = false) (hgen : scope.isGenerator = false) (hk : scope.kind = .function) :
    wpAny (model PP w) A (call (.ref f) args) Q E s := by
  refine enterP (G.keeps hb) R ho hcd hbind hloc (fun L' h₁ F eL => ?_) hcell hco hgen hk
  have hg := stays_hide hb hH
  refine h (s.heap.hide H) L' h₁ (G.keeps hg) (fun p o n e => by rw [Heap.hide_ne _ n]; exact e) (Heap.hide_self _ _) ⟨F.ns, fun p o e => F.keep p o (of_hide' p o e), by rw [Heap.hide_size]; exact F.above⟩ ?_
  intro p hp
  rw [List.mem_singleton.mp hp]
  refine ⟨F.keep _ _ hoH, ?_, Heap.hide_self _ _⟩
  have : H < s.heap.objs.size := Heap.lt_size hoH
  rw [eL]
  exact Nat.ne_of_lt this

/-- the frame behind a call that changed H alone -/
theorem fr_mut {g h h' : Heap} {L H : Addr} {m : Str → Option Value} (F : Fr g L h m) (hk : ExtB H h h') (hH : g.get? H = none) (hL : H ≠ L) : Fr g L h' m := by
  obtain ⟨oL, a1, a2, hoL, a3⟩ := F.ns
  refine ⟨⟨oL, a1, a2, hk _ _ (fun q => hL q.symm) hoL, a3⟩, fun p o e => hk p o (fun q => ?_) (F.keep p o e), F.above⟩
  subst q; rw [hH] at e; cases e


theorem fr_size {g h : Heap} {L : Addr} {m : Str → Option Value} (F : Fr g L h m) : ∃ z, h.objs.size = z ∧ L < z := ⟨_, rfl, F.ns.lt⟩
theorem news_one {g h : Heap} {L H : Addr} {o : Obj} (h1 : h.get? H = some o) (h2 : H ≠ L) (h3 : g.get? H = none) : News g L h [(H, o)] := by
  intro p hp
  rw [List.mem_singleton.mp hp]
  exact ⟨h1, h2, h3⟩

end Mine
end

section
namespace Mine

def apo : Str := Str.ofString "'"
def E1 : Str := Str.ofString "'\"'\"'"
theorem apo_eq : apo = ⟨#[39]⟩ := by decide
theorem E1_eq : E1 = ⟨#[39, 34, 39, 34, 39]⟩ := by decide

/-- one sign, its apostrophe replaced -/
def e1 (c : Nat) : List Nat := if c = 39 then [39, 34, 39, 34, 39] else [c]
abbrev rep (l : List Nat) : List Nat := l.flatMap e1

theorem rep_cons (c : Nat) (r : List Nat) : rep (c :: r) = e1 c ++ rep r := List.flatMap_cons
theorem rep_append (a b : List Nat) : rep (a ++ b) = rep a ++ rep b := List.flatMap_append
theorem cps_append (a b : Str) : (a ++ b).cps.toList = a.cps.toList ++ b.cps.toList := by
  show (a.cps ++ b.cps).toList = _
  simp

theorem rep_id (l : List Nat) (h : 39 ∉ l) : rep l = l := by
  induction l with
  | nil => rfl
  | cons c r ih =>
    rw [rep_cons, ih (fun q => h (.tail _ q))]
    have : c ≠ 39 := fun q => h (by rw [q]; exact .head _)
    simp [e1, this]

theorem join_rep : ∀ parts : List Str, (∀ p ∈ parts, 39 ∉ p.cps.toList) → (Str.join E1 parts).cps.toList = rep (Str.join apo parts).cps.toList
  | [], _ => rfl
  | [x], h => by
    show x.cps.toList = rep x.cps.toList
    rw [rep_id _ (h x (.head _))]
  | x :: y :: r, h => by
    have ih := join_rep (y :: r) (fun p hp => h p (.tail _ hp))
    show (x ++ E1 ++ Str.join E1 (y :: r)).cps.toList = rep (x ++ apo ++ Str.join apo (y :: r)).cps.toList
    rw [cps_append, cps_append, cps_append, cps_append, ih, E1_eq, apo_eq]
    rw [rep_append, rep_append, rep_id _ (h x (.head _))]
    rfl

theorem replace_cps (x : Str) : (Txt.replace x apo E1).cps.toList = rep x.cps.toList := by
  have h1 := StrLaws.replace_one x E1 39
  rw [← apo_eq] at h1
  rw [h1, join_rep _ (fun p hp => StrLaws.split_free x 39 p (by rw [← apo_eq]; exact hp)), StrLaws.join_split]
theorem split_join (x : Str) : Str.join E1 (Txt.split x apo) = Txt.replace x apo E1 := by
  have h1 := StrLaws.replace_one x E1 39
  rw [← apo_eq] at h1
  exact h1.symm

theorem rep_len (l : List Nat) : (rep l).length ≤ 5 * l.length := by
  induction l with
  | nil => simp
  | cons c r ih =>
    rw [rep_cons, List.length_append, List.length_cons]
    have : (e1 c).length ≤ 5 := by unfold e1; split <;> simp
    omega
theorem len_cps (x : Str) : x.length = x.cps.toList.length := by simp [Str.length]
theorem replace_len (x : Str) : (Txt.replace x apo E1).length ≤ 5 * x.length := by
  rw [len_cps, len_cps x, replace_cps]
  exact rep_len _

theorem join_sum (sep : Str) : ∀ l : List Str, (l.map (·.length)).sum + l.length * sep.length ≤ (Str.join sep l).length + sep.length
  | [] => by simp
  | [x] => by simp [Str.join]
  | x :: y :: r => by
    have ih := join_sum sep (y :: r)
    have e : (Str.join sep (x :: y :: r)).length = x.length + sep.length + (Str.join sep (y :: r)).length := by
      show (x ++ sep ++ Str.join sep (y :: r)).length = _
      rw [Str.length_append, Str.length_append]
    rw [e]
    simp only [List.map_cons, List.sum_cons, List.length_cons] at ih ⊢
    rw [Nat.add_mul (_ + 1) 1 sep.length]
    omega
theorem split_sum (x : Str) : ((Txt.split x apo).map (·.length)).sum + (Txt.split x apo).length * 5 ≤ 5 * x.length + 5 := by
  have h := join_sum apo (Txt.split x apo)
  rw [StrLaws.join_split, show apo.length = 1 from by decide] at h
  omega
theorem join_eq (x : Str) : Txt.join E1 (Txt.split x apo) = Txt.replace x apo E1 := by
  rw [← split_join]
  exact StrLaws.glued_eq_join _ _

/-- a word in quotes -/
def wrapS (x : Str) : Str := apo ++ Txt.replace x apo E1 ++ apo
theorem wrapS_cps (x : Str) : (wrapS x).cps.toList = [39] ++ rep x.cps.toList ++ [39] := by
  unfold wrapS
  rw [cps_append, cps_append, replace_cps, apo_eq]
theorem wrapS_len (x : Str) : (wrapS x).length ≤ 5 * x.length + 2 := by
  rw [len_cps, len_cps x, wrapS_cps]
  have := rep_len x.cps.toList
  simp only [List.length_append, List.length_cons, List.length_nil]
  omega
theorem str_ext {a b : Str} (h : a.cps.toList = b.cps.toList) : a = b := by
  obtain ⟨a⟩ := a
  obtain ⟨b⟩ := b
  exact congrArg Str.mk (Array.toList_inj.mp h)
theorem wrapS_nil (x : Str) (h : x.length = 0) : wrapS x = Str.ofString "''" := by
  have e : x.cps.toList = [] := by
    rw [len_cps] at h
    exact List.length_eq_zero_iff.mp h
  apply str_ext
  rw [wrapS_cps, e]
  decide
end Mine
end

section
set_option maxRecDepth 100000
set_option maxHeartbeats 4000000
namespace Mine

/-- a turn's end: the invariant, and the source is as it was -/
structure Nxt (a b : Prop) : Prop where
  j : a
  k : b

/-- a for over any source, by an invariant over the whole state -/
theorem for_any {w : World} {A : Around} {s : Shared} {R : Result → Shared → Prop} {x : Str} {px : Pos} {body : List Stmt} {env : Env} {I : Addr} {fp wr : List Addr} {n : Nat} {P : Nat → Value → Prop} {St : Nat → Heap → Prop}
    (W : Walks PP w A I fp wr n P St) (hst : St 0 s.heap) (J : Nat → Shared → Prop) (h0 : J 0 s)
    (hJ : ∀ i s₁ h' tk, J i s₁ → (∀ b o, b ∉ wr → s₁.heap.get? b = some o → h'.get? b = some o) → J i { s₁ with heap := h', toks := tk })
    (turn : ∀ i v s₁, i < n → P i v → St (i + 1) s₁.heap → J i s₁ → wpAny (model PP w) A (storeName env x v) (fun _ s₂ => wpAny (model PP w) A (execs body env) (fun f s₃ => match f with
        | .next | .cont => Nxt (J (i + 1) s₃) (∀ b ∈ fp, ∀ o, s₁.heap.get? b = some o → s₃.heap.get? b = some o)
        | .brk => R (.ok .next) s₃
        | .ret v => R (.ok (.ret v)) s₃) (fun _ _ => False) s₂) (fun _ _ => False) s₁)
    (done : ∀ s₁, J n s₁ → R (.ok .next) s₁) :
    codeAny (model PP w) A (.forLoop (.Name x px) (.ref I) body [] env) R s := by
  refine codeAny_forLoop (fun k s' => ∃ i, St i s'.heap ∧ J i s' ∧ i ≤ n ∧ k = n + 1 - i) ?_ (n + 1) ⟨0, hst, h0, Nat.zero_le _, rfl⟩
  rintro k s' ⟨i, hst', hj, hi, rfl⟩
  by_cases hlt : i < n
  · refine W.item i _ _ _ hlt hst' fun v h₁ tk₁ hP hst₁ hk₁ => ?_
    refine wpAny_mono (wpAny_assign_Name (turn i v _ hlt hP hst₁ (hJ i s' h₁ tk₁ hj hk₁))) (fun _ s₂ h₂ => ?_) fun _ _ e => e.elim
    refine wpAny_mono h₂ (fun f s₃ h₃ => ?_) fun _ _ e => e.elim
    cases f with
    | next => exact ⟨n + 1 - (i + 1), by omega, i + 1, W.frame _ _ _ hst₁ h₃.k, h₃.j, hlt, rfl⟩
    | cont => exact ⟨n + 1 - (i + 1), by omega, i + 1, W.frame _ _ _ hst₁ h₃.k, h₃.j, hlt, rfl⟩
    | brk => exact h₃
    | ret v => exact h₃
  · have hin : i = n := by omega
    subst hin
    exact W.done _ _ _ hst' fun h₁ tk₁ hk₁ => wpAny_execs_nil (done _ (hJ _ s' h₁ tk₁ hj hk₁))

/-- a for over a list -/
theorem for_list {w : World} {A : Around} {E : Value → Shared → Prop} {s : Shared} {R : Result → Shared → Prop} {x : Str} {px : Pos} {body : List Stmt} {env : Env} {l z : Addr} {items : Array Value}
    (hh : A.handled = none) (hl : s.heap.IsList l items) (hz : s.heap.objs.size = z) (J : Nat → Shared → Prop)
    (h0 : ∀ I h', I = z → Ext s.heap h' → J 0 { s with heap := h' })
    (hJ : ∀ I i s₁ h' tk, I = z → J i s₁ → (∀ b o, b ≠ I → s₁.heap.get? b = some o → h'.get? b = some o) → J i { s₁ with heap := h', toks := tk })
    (turn : ∀ I i v s₁ oI, I = z → items[i]? = some v → s₁.heap.get? I = some oI → J i s₁ → wpAny (model PP w) A (storeName env x v) (fun _ s₂ => wpAny (model PP w) A (execs body env) (fun f s₃ => match f with
        | .next | .cont => Nxt (J (i + 1) s₃) (s₃.heap.get? I = some oI ∧ ∀ o, s₁.heap.get? l = some o → s₃.heap.get? l = some o)
        | .brk => R (.ok .next) s₃
        | .ret v => R (.ok (.ret v)) s₃) (fun _ _ => False) s₂) (fun _ _ => False) s₁)
    (done : ∀ s₁, J items.size s₁ → R (.ok .next) s₁) :
    wpAny (model PP w) A (pyIter (.ref l)) (fun it s₂ => codeAny (model PP w) A (.forLoop (.Name x px) it body [] env) R s₂) E s := by
  obtain ⟨ol, hol, _⟩ := id hl
  have hne : l ≠ z := hz ▸ Nat.ne_of_lt (Heap.lt_size hol)
  refine wpAny_pyIter_list hl ?_
  rw [hz]
  refine for_any (W := Walks.list (prog := PP) (w := w) hh z l hne items)
    (hst := ⟨⟨_, hz ▸ Heap.get?_push_size _ rfl, rfl, rfl⟩, hl.at fun o e => Heap.get?_push_of_some _ e⟩) J (h0 z _ rfl (fun b o e => Heap.get?_push_of_some _ e))
    (fun i s₁ h' tk hj hk => hJ z i s₁ h' tk rfl hj fun b o hb e => hk b o (by simpa using hb) e) (fun i v s₁ hi hP hst' hj => ?_) done
  obtain ⟨⟨oI, hoI, _⟩, _⟩ := hst'
  refine wpAny_mono (turn z i v s₁ oI rfl hP hoI hj) (fun _ s₂ h₂ => wpAny_mono h₂ (fun f s₃ h₃ => ?_) fun _ _ e => e) fun _ _ e => e
  have fin : ∀ {b : Addr} {o : Obj}, b ∈ [z, l] → (s₃.heap.get? z = some oI ∧ ∀ o, s₁.heap.get? l = some o → s₃.heap.get? l = some o) → s₁.heap.get? b = some o → s₃.heap.get? b = some o := fun hb k e => by
    rcases List.mem_cons.mp hb with rfl | hb
    · rw [hoI] at e; cases e; exact k.1
    · obtain rfl := List.mem_singleton.mp hb
      exact k.2 _ e
  cases f with
  | next => exact ⟨h₃.j, fun b hb o e => fin hb h₃.k e⟩
  | cont => exact ⟨h₃.j, fun b hb o e => fin hb h₃.k e⟩
  | brk => exact h₃
  | ret v => exact h₃

theorem rsize (n : Nat) : Builtin.Range.rangeSize 0 n 1 = n := by
  unfold Builtin.Range.rangeSize
  by_cases h : (0 : Int) < n
  · simp only [if_pos h]
    simp
  · have : n = 0 := by omega
    subst this
    simp
theorem fitsL (i : Int) (h0 : 0 ≤ i) (h1 : i ≤ 2000) : Builtin.Range.rangeFitsLong i = true := by
  unfold Builtin.Range.rangeFitsLong
  rw [Bool.and_eq_true]
  exact ⟨decide_eq_true (by omega), decide_eq_true (by omega)⟩
theorem rsmall (n : Nat) (h : n ≤ 1000) : Builtin.Range.small 0 n 1 = true := by
  unfold Builtin.Range.small
  rw [rsize, fitsL 0 (by omega) (by omega), fitsL n (by omega) (by omega), fitsL 1 (by omega) (by omega), if_pos (by decide), fitsL _ (by omega) (by omega)]
  simp

/-- a for over range(n) -/
theorem for_range {w : World} {A : Around} {E : Value → Shared → Prop} {s : Shared} {R : Result → Shared → Prop} {x : Str} {px : Pos} {body : List Stmt} {env : Env} {r z : Addr} {n : Nat} {t u v : Tok}
    (hh : A.handled = none) (hr : IsRange s.heap r 0 n 1 t u v) (hn : n ≤ 1000) (hz : s.heap.objs.size = z) (J : Nat → Shared → Prop)
    (h0 : ∀ I h', I = z → Ext s.heap h' → J 0 { s with heap := h' })
    (hJ : ∀ I i s₁ h' tk, I = z → J i s₁ → (∀ b o, b ≠ I → s₁.heap.get? b = some o → h'.get? b = some o) → J i { s₁ with heap := h', toks := tk })
    (turn : ∀ I i tk s₁ oI, I = z → i < n → s₁.heap.get? I = some oI → J i s₁ → wpAny (model PP w) A (storeName env x (.int i tk)) (fun _ s₂ => wpAny (model PP w) A (execs body env) (fun f s₃ => match f with
        | .next | .cont => Nxt (J (i + 1) s₃) (s₃.heap.get? I = some oI)
        | .brk => R (.ok .next) s₃
        | .ret v => R (.ok (.ret v)) s₃) (fun _ _ => False) s₂) (fun _ _ => False) s₁)
    (done : ∀ s₁, J n s₁ → R (.ok .next) s₁) :
    wpAny (model PP w) A (pyIter (.ref r)) (fun it s₂ => codeAny (model PP w) A (.forLoop (.Name x px) it body [] env) R s₂) E s := by
  have hs := rsize n
  have hsm := rsmall n hn
  refine wpAny_pyIter_range hr hsm ?_
  rw [hs, hz]
  have W := Walks.range (prog := PP) (w := w) hh z 0 1 n
  refine for_any (W := W) (hst := ?st) J (h0 z _ rfl fun b o e => Heap.get?_push_of_some _ e)
    (fun i s₁ h' tk hj hk => hJ z i s₁ h' tk rfl hj fun b o hb e => hk b o (by simpa using hb) e) (fun i v s₁ hi hP hst' hj => ?_) done
  case st =>
    have e1 : (0 : Int) + ((0 : Nat) : Int) * 1 = 0 := by simp
    have e2 : (n : Int) - ((0 : Nat) : Int) = n := by simp
    rw [e1, e2, ← hz]
    exact Heap.get?_push_size _ rfl
  obtain ⟨tk, rfl⟩ := hP
  have e : (0 : Int) + (i : Int) * 1 = i := by omega
  rw [e]
  refine wpAny_mono (turn z i tk s₁ _ rfl hi hst' hj) (fun _ s₂ h₂ => wpAny_mono h₂ (fun f s₃ h₃ => ?_) fun _ _ e => e) fun _ _ e => e
  cases f with
  | next => exact ⟨h₃.j, fun b hb o e => by obtain rfl := List.mem_singleton.mp hb; rw [hst'] at e; cases e; exact h₃.k⟩
  | cont => exact ⟨h₃.j, fun b hb o e => by obtain rfl := List.mem_singleton.mp hb; rw [hst'] at e; cases e; exact h₃.k⟩
  | brk => exact h₃
  | ret v => exact h₃
end Mine
end

section
set_option maxRecDepth 100000
set_option maxHeartbeats 4000000
namespace Mine
section
variable {w : World} {mg mb : Str → Option Value} {A : Around} {E : Value → Shared → Prop} {s : Shared} {env : Env} {m : Str → Option Value} {x : Str} {pos : Pos} {v : Value} {Q : Value → Shared → Prop} {c : Addr} {o : Obj}
theorem nm_loc (hn : s.heap.Ns env.locals m) (hv : m x = some v) (h : Q v s) (hk : env.scope.kind = .function) (hl : env.kindOf x = some .local) (hd : (x == ("__debug__" : Str)) = false) :
    wpAny (model PP w) A (eval (.Name x pos) env) Q E s := wpAny_Name (wpAny_loadName_local hk hl hn hv h) hd
theorem nm_cell (hc : env.cells.lookup x = some c) (ho : s.heap.get? c = some o) (hd : o.data = .cell (some v)) (h : Q v s) (hk : env.scope.kind = .function) (hl : env.kindOf x = some .cell) (hb : (x == ("__debug__" : Str)) = false) :
    wpAny (model PP w) A (eval (.Name x pos) env) Q E s := wpAny_Name (wpAny_loadName_cell hk hl hc ⟨o, ho, hd⟩ h) hb
theorem nm_glob (G : Gd w mg mb s.heap) (e : nsIn (KK w) mainGlobals x = some (some v)) (h : Q v s) (hg : env.globals = mainGlobals) (hk : env.scope.kind = .function) (hx : env.kindOf x = some .globalImplicit) (hd : (x == ("__debug__" : Str)) = false) :
    wpAny (model PP w) A (eval (.Name x pos) env) Q E s :=
  Calls.Name_function_global hk hx (Calls.loadGlobal_global (env := env) (by rw [hg]; exact G.T.g) (mg_of G.X G.T.g e) h) hd
theorem nm_blt (G : Gd w mg mb s.heap) (e : nsIn (KK w) mainGlobals x = some none) (hv : bootBuiltins x = some v) (hn : x ≠ "__name__") (h : Q v s) (hg : env.globals = mainGlobals) (hbi : env.builtins = builtinsNs) (hk : env.scope.kind = .function) (hx : env.kindOf x = some .globalImplicit) (hd : (x == ("__debug__" : Str)) = false) :
    wpAny (model PP w) A (eval (.Name x pos) env) Q E s :=
  Calls.Name_function_global hk hx (Calls.loadGlobal_builtin (env := env) (by rw [hg]; exact G.T.g) (mg_none_of G.X G.T.g e) (by rw [hbi]; exact G.T.b) ((G.T.builtins x hn).trans hv) h) hd
end

/-- append, by the object alone -/
theorem append_at {w : World} {A : Around} {E : Value → Shared → Prop} {s : Shared} {D : Addr} {its : Array Value} {n : Nat} {v : Value} {Q : Value → Shared → Prop}
    (ho : s.heap.get? D = some (listOf its n)) (hsz : its.size ≤ 1000) (h : ∀ h' k, Heap.SameBut D s.heap h' → h'.get? D = some (listOf (its.push v) k) → Q .none { s with heap := h' }) :
    wpAny (model PP w) A (call (.builtin "list.append") [.ref D, v]) Q E s :=
  wpAny_list_append_plain (hsz := Nat.le_trans hsz (by rw [sizeLine_eq]; omega)) ⟨n, ho⟩ fun h' hl hs => by
    obtain ⟨k, e⟩ := hl
    exact h h' k hs e
end Mine
end

section
set_option maxRecDepth 100000
set_option maxHeartbeats 4000000
namespace Mine

def reCode : Array Nat := #[14, 17, 4, 1, 1, 21, 9, 0, 604043296, 1, 0, 0, 0, 0, 0, 8, 4, 0, 13, 14, 21, 9, 0, 604043296, 1, 0, 0, 0, 0, 0, 8, 4, 0, 1]

/-- the signs that need no quoting -/
def safeC (c : Nat) : Bool := (decide (c < 256) && (reCode.getD (5 + (2 + c / 32)) 0).testBit (c % 32)) || Sre.isWord c

theorem entry_search : entryFor table "re.Pattern.search" = some Builtin.«re.Pattern.search» := entryFor_of_tree (by kernel_rfl)
theorem quiet_search {as : Args} : (Code.builtin "re.Pattern.search" as).quiet = true := Code.quiet_builtin _ (by decide +kernel)

theorem check_search (w : World) (P : Program) {x : Str} {t : Tok} : peek (KK w) ⟨P, w.params⟩ (checkBoundCall "re.Pattern.search" ⟨[.ref 36, .str x t], []⟩) = some () := by kernel_rfl

theorem target_search (w : World) (P : Program) {x : Str} {t : Tok} : peek (KK w) ⟨P, w.params⟩ (Builtin.Re.reTarget "re.Pattern.search" "search" ⟨[.ref 36, .str x t], []⟩) = some { pattern := .ref 36, string := .str x t, code := reCode, text := x.cps, kind := 0, groups := 0, pos := min 0 x.cps.size, lim := min (2 ^ 63 - 1) x.cps.size } := by kernel_rfl

end Mine
end

section
set_option maxRecDepth 100000
set_option maxHeartbeats 4000000
namespace Mine

def bitC (i c : Nat) : Bool := decide (c < 256) && (reCode.getD (i + (1 + c / 32)) 0).testBit (c % 32)
theorem bitC_eq (c : Nat) : bitC 21 c = bitC 6 c := by
  unfold bitC
  by_cases h : c < 256
  · have hk : c / 32 < 8 := by omega
    have e : ∀ k < 8, reCode.getD (21 + (1 + k)) 0 = reCode.getD (6 + (1 + k)) 0 := by decide
    rw [e _ hk]
  · simp [h]
theorem safeC_eq (c : Nat) : safeC c = (bitC 6 c || Sre.isWord c) := by
  unfold safeC bitC
  rw [show 5 + (2 + c / 32) = 6 + (1 + c / 32) by omega]

theorem category_word (c : Nat) : Sre.category 4 c = .ok (Sre.isWord c) := by
  unfold Sre.category
  simp [Except.map]

section
variable {c g j : Nat} {yes : Bool} {sn : Sre.Seen}
theorem step_neg (h : Sre.ops[reCode.getD j 0]? = some .NEGATE) : Sre.inSet reCode c (g + 1) j yes sn = Sre.inSet reCode c g (j + 1) (!yes) (sn.add (reCode.getD j 0)) := by
  rw [Sre.inSet]; simp only [Nat.add_zero, h]
theorem step_set (h : Sre.ops[reCode.getD j 0]? = some .CHARSET) : Sre.inSet reCode c (g + 1) j yes sn = if (decide (c < 256) && (reCode.getD (j + (1 + c / 32)) 0).testBit (c % 32)) = true then .ok (yes, sn.add (reCode.getD j 0)) else Sre.inSet reCode c g (j + 9) yes (sn.add (reCode.getD j 0)) := by
  rw [Sre.inSet]; simp only [Nat.add_zero, h]
theorem step_cat (h : Sre.ops[reCode.getD j 0]? = some .CATEGORY) (h4 : reCode.getD (j + 1) 0 = 4) : Sre.inSet reCode c (g + 1) j yes sn = if Sre.isWord c = true then .ok (yes, (sn.add (reCode.getD j 0)).add 59) else Sre.inSet reCode c g (j + 2) yes ((sn.add (reCode.getD j 0)).add 59) := by
  rw [Sre.inSet]; simp only [Nat.add_zero, h, h4, category_word]; cases Sre.isWord c <;> rfl
theorem step_fail (h : Sre.ops[reCode.getD j 0]? = some .FAILURE) : Sre.inSet reCode c (g + 1) j yes sn = .ok (!yes, sn.add (reCode.getD j 0)) := by
  rw [Sre.inSet]; simp only [Nat.add_zero, h]
end
theorem inSet_at (i c : Nat) (seen : Sre.Seen) (f : Nat) (h0 : Sre.ops[reCode.getD i 0]? = some .NEGATE) (h1 : Sre.ops[reCode.getD (i + 1) 0]? = some .CHARSET)
    (h2 : Sre.ops[reCode.getD (i + 10) 0]? = some .CATEGORY) (h3 : reCode.getD (i + 11) 0 = 4) (h4 : Sre.ops[reCode.getD (i + 12) 0]? = some .FAILURE) :
    ∃ seen', Sre.inSet reCode c (f + 4) i true seen = .ok (!(bitC (i + 1) c || Sre.isWord c), seen') := by
  rw [step_neg (g := f + 3) h0, step_set (g := f + 2) h1]
  by_cases hb : (decide (c < 256) && (reCode.getD (i + 1 + (1 + c / 32)) 0).testBit (c % 32)) = true
  · rw [if_pos hb]
    exact ⟨_, by rw [show bitC (i + 1) c = true from hb]; rfl⟩
  · rw [if_neg hb]
    have hb' : bitC (i + 1) c = false := by
      cases q : bitC (i + 1) c with
      | false => rfl
      | true => exact absurd q hb
    rw [step_cat (g := f + 1) (j := i + 10) h2 h3]
    cases hw : Sre.isWord c with
    | true => exact ⟨_, by rw [hb']; rfl⟩
    | false =>
      rw [if_neg (by simp), step_fail (g := f) (j := i + 12) h4, hb']
      exact ⟨_, rfl⟩

theorem inSet5 (c : Nat) (seen : Sre.Seen) : ∃ seen', Sre.inSet reCode c reCode.size 5 true seen = .ok (!safeC c, seen') := by
  obtain ⟨s', h⟩ := inSet_at 5 c seen 30 rfl rfl rfl rfl rfl
  exact ⟨s', by rw [safeC_eq]; exact h⟩
theorem inSet20 (c : Nat) (seen : Sre.Seen) : ∃ seen', Sre.inSet reCode c reCode.size 20 true seen = .ok (!safeC c, seen') := by
  obtain ⟨s', h⟩ := inSet_at 20 c seen 30 rfl rfl rfl rfl rfl
  exact ⟨s', by rw [safeC_eq, ← bitC_eq]; exact h⟩

end Mine
end

section
set_option maxRecDepth 100000
set_option maxHeartbeats 4000000
namespace Mine

def m1 (x : Array Nat) (n : Nat) : Sre.M := { code := reCode, text := x, lim := n, start := 0, lastStart := n, pc := 18, pos := 0, handed := 0, marks := #[], seen := ({} : Sre.Seen).add 14 }

theorem forSearch_eq (x : Array Nat) (n : Nat) (h : 0 < n) : Sre.forSearch reCode x 0 0 n false = (m1 x n).attemptFrom 0 true := by
  have e : Sre.forSearch reCode x 0 0 n false = (if (decide (0 > n) || decide (n - 0 < 1)) = true then Sre.M.say { m1 x n with lastStart := 0 } false else (m1 x n).attemptFrom 0 true) := rfl
  rw [e, if_neg (by simp; omega)]

theorem admitted_all (x : Array Nat) (n : Nat) : ∀ (f s : Nat) (sn : Sre.Seen), n < f + s →
    (∃ sn', Sre.M.admitted (m1 x n) f s sn = .ok (none, sn') ∧ ∀ i, s ≤ i → i < n → safeC (x.getD i 0) = true) ∨
    (∃ s' sn', Sre.M.admitted (m1 x n) f s sn = .ok (some s', sn') ∧ s ≤ s' ∧ s' < n ∧ safeC (x.getD s' 0) = false)
  | 0, s, sn, h => .inl ⟨sn, by rw [Sre.M.admitted], fun i h1 h2 => by omega⟩
  | f + 1, s, sn, h => by
    rw [Sre.M.admitted]
    show (∃ sn', (if s ≥ n then _ else _) = _ ∧ _) ∨ (∃ s' sn', (if s ≥ n then _ else _) = _ ∧ _)
    by_cases hs : s ≥ n
    · rw [if_pos hs]
      exact .inl ⟨sn, rfl, fun i h1 h2 => by omega⟩
    · rw [if_neg hs]
      obtain ⟨sn1, e1⟩ := inSet5 (x.getD s 0) sn
      have e2 : Sre.inSet (m1 x n).code ((m1 x n).text.getD s 0) (m1 x n).code.size 5 true sn = .ok (!safeC (x.getD s 0), sn1) := e1
      rw [e2]
      cases hc : safeC (x.getD s 0) with
      | false => exact .inr ⟨s, sn1, rfl, Nat.le_refl _, by omega, hc⟩
      | true =>
        show (∃ sn', Sre.M.admitted (m1 x n) f (s + 1) sn1 = _ ∧ _) ∨ (∃ s' sn', Sre.M.admitted (m1 x n) f (s + 1) sn1 = _ ∧ _)
        rcases admitted_all x n f (s + 1) sn1 (by omega) with ⟨sn2, a, b⟩ | ⟨s', sn2, a, b, c, d⟩
        · refine .inl ⟨sn2, a, fun i h1 h2 => ?_⟩
          by_cases q : i = s
          · rw [q]; exact hc
          · exact b i (by omega) h2
        · exact .inr ⟨s', sn2, a, by omega, c, d⟩

theorem run_none (x : Array Nat) (n : Nat) (sn : Sre.Seen) : ((Sre.M.say { m1 x n with seen := sn } false).runFor 4).outcome = some .failed := rfl

def m2 (x : Array Nat) (n s : Nat) (sn : Sre.Seen) : Sre.M := Sre.M.attemptAt { m1 x n with mustAdvance := false, seen := sn } s true
theorem m2_step (x : Array Nat) (n s : Nat) (sn : Sre.Seen) (hs : s < n) (hu : safeC (x.getD s 0) = false) :
    ∃ sn', (m2 x n s sn).step = { m2 x n s sn with seen := sn', pc := 33, pos := s + 1 } := by
  obtain ⟨sn1, e1⟩ := inSet20 (x.getD s 0) (sn.add 13)
  rw [hu] at e1
  refine ⟨sn1, ?_⟩
  have e : (m2 x n s sn).step = (if s ≥ n then Sre.M.say { m2 x n s sn with seen := sn.add 13 } false else match Sre.inSet reCode (x.getD s 0) reCode.size 20 true (sn.add 13) with
      | .error why => Sre.M.stick { m2 x n s sn with seen := sn.add 13 } why
      | .ok (false, seen) => Sre.M.say { m2 x n s sn with seen } false
      | .ok (true, seen) => { m2 x n s sn with seen, pc := 33, pos := s + 1 }) := rfl
  rw [e, if_neg (by omega), e1]
  rfl
theorem run_some (x : Array Nat) (n s : Nat) (sn : Sre.Seen) (hs : s < n) (hu : safeC (x.getD s 0) = false) : ((m2 x n s sn).runFor 4).outcome = some .matched := by
  obtain ⟨sn', e⟩ := m2_step x n s sn hs hu
  show ((m2 x n s sn).step.runFor 3).outcome = _
  rw [e]
  rfl

theorem search_run (x : Array Nat) (n : Nat) (h : 0 < n) :
    (((Sre.forSearch reCode x 0 0 n false).runFor 4).outcome = some .failed ∧ ∀ i, i < n → safeC (x.getD i 0) = true) ∨
    (((Sre.forSearch reCode x 0 0 n false).runFor 4).outcome = some .matched ∧ ∃ i, i < n ∧ safeC (x.getD i 0) = false) := by
  rw [forSearch_eq x n h]
  have e : (m1 x n).attemptFrom 0 true = (match Sre.M.admitted (m1 x n) (n + 1 - 0) 0 (m1 x n).seen with
    | .ok (some s, seen) => m2 x n s seen
    | .ok (none, seen) => Sre.M.say { m1 x n with seen := seen } false
    | .error why => (m1 x n).stick why) := rfl
  rw [e]
  rcases admitted_all x n (n + 1 - 0) 0 (m1 x n).seen (by omega) with ⟨sn2, a, b⟩ | ⟨s', sn2, a, _, c, d⟩
  · rw [a]
    exact .inl ⟨run_none x n sn2, fun i hi => b i (Nat.zero_le _) hi⟩
  · rw [a]
    exact .inr ⟨run_some x n s' sn2 c d, s', c, d⟩

end Mine
end

section
set_option maxRecDepth 100000
set_option maxHeartbeats 4000000
namespace Mine

theorem rules_for {M : Model} {A : Around} {E : Value → Shared → Prop} {s : Shared} (c : Nat → Bool) (nm : Nat → String) (f : Nat → PUnit → Sem (ForInStep PUnit))
    (hf : ∀ i u, f i u = if c i = true then (do rule (nm i); pure (ForInStep.yield PUnit.unit)) else pure (ForInStep.yield PUnit.unit)) :
    ∀ (l : List Nat) {Q : PUnit → Shared → Prop}, Q ⟨⟩ s → wpAny M A (forIn l PUnit.unit f) Q E s
  | [], _, h => by rw [List.forIn_nil]; exact wpAny_pure h
  | i :: l, Q, h => by
    rw [List.forIn_cons, hf]
    refine wpAny_bind ?_
    by_cases q : c i = true
    · rw [if_pos q]
      exact wpAny_bind (wpAny_rule (wpAny_pure (rules_for c nm f hf l h)))
    · rw [if_neg q]
      exact wpAny_pure (rules_for c nm f hf l h)

theorem runToEnd {M : Model} {A : Around} {E : Value → Shared → Prop} {s : Shared} {m : Sre.M} {Q : Option Sre.M → Shared → Prop}
    (h : ((m.runFor 4).outcome = some .failed ∧ Q none s) ∨ ((m.runFor 4).outcome = some .matched ∧ Q (some (m.runFor 4)) s)) : wpAny M A (Builtin.Re.reRunToEnd m) Q E s := by
  unfold Builtin.Re.reRunToEnd
  have hd : Builtin.Re.reDrive (2 ^ 64) m = pure (m.runFor 4) := by
    have e : (2 : Nat) ^ 64 = (2 ^ 64 - 1) + 1 := by decide
    rw [e, Builtin.Re.reDrive]
    show (if (m.runFor 4).outcome.isSome = true then _ else _) = _
    have hi : (m.runFor 4).outcome.isSome = true := by
      rcases h with ⟨q, _⟩ | ⟨q, _⟩ <;> rw [q] <;> rfl
    rw [if_pos hi]
    rfl
  rw [hd]
  refine wpAny_bind (wpAny_pure ?_)
  refine wpAny_bind (rules_for (fun i => (m.runFor 4).seen.has i) (fun i => Sre.names.getD i "") _ (fun i u => ?_) _ ?_)
  · rfl
  · rcases h with ⟨q, k⟩ | ⟨q, k⟩
    · rw [q]; exact wpAny_pure k
    · rw [q]; exact wpAny_pure k

theorem newMatch {M : Model} {A : Around} {E : Value → Shared → Prop} {s : Shared} {m : Sre.M} {p v : Value} {a b : Nat} {Q : Value → Shared → Prop}
    (h : ∀ r h', Ext s.heap h' → Q (.ref r) { s with heap := h' }) : wpAny M A (Builtin.Re.reNewMatch p v 0 a b m) Q E s := by
  unfold Builtin.Re.reNewMatch
  simp only [List.range_zero, List.flatMap_nil, List.any_nil, Bool.false_eq_true, if_false]
  refine wpAny_bind ?_
  refine wpAny_newTuple ?_
  refine wpAny_newObj_type ?_
  exact h _ _ fun b o e => Heap.get?_push_of_some _ (Heap.get?_push_of_some _ e)

theorem search_call {w : World} {A : Around} {E : Value → Shared → Prop} {s : Shared} {x : Str} {t : Tok} {Q : Value → Shared → Prop}
    (X : (KK w).In s.heap) (h0 : 0 < x.cps.size) (h1 : x.cps.size ≤ 1048576)
    (hn : (∀ i, i < x.cps.size → safeC (x.cps.getD i 0) = true) → Q .none s)
    (hs : (∃ i, i < x.cps.size ∧ safeC (x.cps.getD i 0) = false) → ∀ r h', Ext s.heap h' → Q (.ref r) { s with heap := h' }) :
    wpAny (model PP w) A (call (.ref 44) [.str x t]) Q E s := by
  refine wpAny_call (codeAny_of_tree ?_)
  show wpAny _ A.in1 (callAny (.ref 44) ⟨[.str x t], []⟩) _ _ s
  simp only [callAny]
  refine wpAny_bind (wpAny_load (X 44 _ rfl) ?_)
  dsimp only
  simp only [show (Value.type "builtin_function_or_method" == Value.type "method" || Value.type "builtin_function_or_method" == Value.type "builtin_function_or_method" || Value.type "builtin_function_or_method" == Value.type "method-wrapper") = true by decide, if_true]
  show wpAny _ A.in1 (if (Value.type "builtin_function_or_method" != Value.type "method") = true then _ else _) _ _ s
  rw [if_pos (by decide)]
  refine wpAny_bind (Looks.here (Looks.of_peek X (check_search w PP)) ?_)
  refine wpAny_bind (wpAny_pure (wpAny_pure ?_))
  refine ⟨quiet_search, codeAny_builtin entry_search ?_⟩
  unfold Builtin.«re.Pattern.search»
  refine wpAny_bind (Looks.here (Looks.of_peek X (target_search w PP)) ?_)
  dsimp only
  have e1 : min 0 x.cps.size = 0 := by omega
  have e2 : min (2 ^ 63 - 1) x.cps.size = x.cps.size := by omega
  rw [e1, e2]
  unfold Builtin.Re.reAnswer
  refine wpAny_bind (runToEnd ?_)
  dsimp only
  rcases search_run x.cps x.cps.size h0 with ⟨q, k⟩ | ⟨q, k⟩
  · exact .inl ⟨q, wpAny_pure (hn k)⟩
  · refine .inr ⟨q, wpAny_bind (newMatch fun r h' hk => wpAny_pure ?_)⟩
    exact hs k r h' hk

end Mine
end

section
set_option maxRecDepth 100000
set_option maxHeartbeats 4000000
namespace Mine
theorem fill_it (w : World) (h : Heap) : (hd.heap_39 w.params).In h → Challenge.rw_mq0146_01.prog = Challenge.rw_mq0146_01.prog := by
  k_fill
  intro _
  rfl

theorem keeper44 (w : World) (P : Program) : peek (KK w) ⟨P, w.params⟩ (keeperOf (.ref 44)) = some .machine := by rfl

theorem callWith_44 {w : World} {A : Around} {E : Value → Shared → Prop} {s : Shared} {env : Env} {pos : Pos} {Q : Value → Shared → Prop} {e : PySem.Expr} {rest : List PySem.Expr} {h₀ : Heap} (_X : (KK w).In h₀)
    (h : wpAny (model PP w) A (spliced (backTo pos (starEach (e :: rest) env))) (fun vs s₁ => (KK w).In s₁.heap ∧ wpAny (model PP w) A (call (.ref 44) ([] ++ vs)) Q E s₁) E s)
    (he : starEach (e :: rest) env = (false, eval e env) :: starEach rest env := by rfl) (hplain : (backTo pos (starEach rest env)).any (·.1) = false := by rfl) :
    wpAny (model PP w) A (callWith pos (.ref 44) [] (backTo pos (starEach (e :: rest) env)) []) Q E s := by
  rw [he] at h ⊢
  exact callWith_of (P := fun h => (KK w).In h) (by show ((false || (backTo pos (starEach rest env)).any (·.1)) || false) = false; rw [hplain]; rfl)
    (fun h X => ⟨.machine, .inr (.inl rfl), Looks.of_peek X (keeper44 w PP)⟩) (Calls.evalArgs_plain h)

local macro_rules | `(tactic| walk_at "callWith ref") => `(tactic| ((with_reducible show wpAny _ _ (callWith _ (Value.ref 44) _ _ _) _ _ _); refine callWith_44 (by assumption) ?_))
local macro_rules | `(tactic| walk_at "go") => `(tactic| repeat' (first | walk1 | (dsimp only; walk1)))

local macro_rules | `(tactic| walk_at "binaryOp Add str str") => `(tactic| (refine PyProof.Rows.add_str ?h ?z; (case z => (simp only [Str.length_append, sizeLine_eq]; omega)); (intro _ _)))

theorem quote_spec {w : World} {mg mb : Str → Option Value} {A : Around} {E : Value → Shared → Prop} {s : Shared} {x : Str} {t : Tok} {Q : Value → Shared → Prop}
    (G : Gd w mg mb s.heap) (R : Room 0 A) (hx : x.length ≤ 1000)
    (h1 : x.length ≠ 0 → (∀ i, i < x.cps.size → safeC (x.cps.getD i 0) = true) → ∀ u h' tk, Ext s.heap h' → Q (.str x u) { s with heap := h', toks := tk })
    (h2 : (x.length = 0 ∨ ∃ i, i < x.cps.size ∧ safeC (x.cps.getD i 0) = false) → ∀ u h' tk, Ext s.heap h' → Q (.str (wrapS x) u) { s with heap := h', toks := tk }) :
    wpAny (model PP w) A (call (.ref 51) [.str x t]) Q E s := by
  refine' enterP (binds := [(Str.ofString "s", .str x t)]) G R ?ho ?hc ?hb ?hl ?_ ?c1 ?c2 ?c3 ?c4
  case ho => exact rfl
  case hc => exact rfl
  case hb => exact BindsTo.of_eq rfl
  case hl => exact locs rfl
  case c1 => decide
  case c2 => rfl
  case c3 => rfl
  case c4 => rfl
  intro L' h₁ F eL
  have KX : (hd.heap_39 w.params).In s.heap := G.X
  have TX := G.T
  have N : News s.heap L' h₁ [] := News.nil
  have hrl : (Txt.replace x (Str.ofString "'") (Str.ofString "'\"'\"'")).length ≤ 5 * x.length := replace_len x
  have hl1 : (Str.ofString "'").length = 1 := by decide
  try dsimp only
  walk_at "go"
  · skip
    have hne' : x.length ≠ 0 := by omega
    show wpAny _ _ (call (Value.ref 44) [Value.str x t]) _ _ _
    refine search_call (Frag.In.keeps KX F.keep) ?k1 ?k2 ?k3 ?k4
    case k1 => exact Nat.pos_of_ne_zero hne'
    case k2 => exact Nat.le_trans hx (by decide)
    case k3 =>
      intro hsafe
      walk_at "go"
      exact h1 hne' hsafe _ _ _ F.keep
    case k4 =>
      intro hun r h' hk
      replace F := F.keeps hk
      replace N : News s.heap L' h' [] := News.nil
      walk_at "go"
      exact h2 (.inr hun) _ _ _ F.keep
  · skip
    have hz : x.length = 0 := by omega
    have := h2 (.inl hz)
    rw [wrapS_nil x hz] at this
    exact this _ _ _ F.keep
end Mine
end

section
set_option maxRecDepth 100000
set_option maxHeartbeats 4000000
namespace Mine
local macro_rules | `(tactic| walk_at "go") => `(tactic| repeat' (first | walk1 | (dsimp only; walk1)))
local macro_rules | `(tactic| walk_at "look") => `(tactic| first | assumption | exact rfl | exact if_pos rfl | (refine Eq.trans (if_neg (by decide)) ?_; walk_at "look"))
local macro_rules | `(tactic| walk_at "eval Name") => `(tactic| (refine' ld ?k1 ?k2 ?_; (case k1 => with_reducible assumption); (case k2 => ((try dsimp only); walk_at "look")); k_whole))
local macro_rules | `(tactic| walk_at "exec For Name Call cons nil") => `(tactic| (refine wpAny_For ?_ (fun _ => rfl)))
local macro_rules | `(tactic| walk_at "exec For Name Name cons nil") => `(tactic| (refine wpAny_For ?_ (fun _ => rfl)))
local macro_rules | `(tactic| walk_at "binaryOp Add str str") => `(tactic| (refine PyProof.Rows.add_str ?h ?z; (case z => (simp only [Str.length_append, sizeLine_eq]; omega)); (intro _ _)))
local macro_rules | `(tactic| walk_at "exec While Compare cons nil") => `(tactic| refine stopw ?_)
def quoteF (x : Str) : Str := if (x.length != 0 && x.cps.toList.all safeC) = true then x else wrapS x
theorem safe_all (x : Str) : (∀ i, i < x.cps.size → safeC (x.cps.getD i 0) = true) ↔ x.cps.toList.all safeC = true := by
  rw [List.all_eq_true]
  constructor
  · intro h c hc
    obtain ⟨i, hi, rfl⟩ := List.getElem_of_mem hc
    have := h i (by simpa using hi)
    simpa [Array.getD, show i < x.cps.size by simpa using hi] using this
  · intro h i hi
    have := h (x.cps[i]) (by simp)
    simpa [Array.getD, hi] using this

theorem quote_spec' {w : World} {mg mb : Str → Option Value} {A : Around} {E : Value → Shared → Prop} {s : Shared} {x : Str} {t : Tok} {Q : Value → Shared → Prop}
    (G : Gd w mg mb s.heap) (R : Room 0 A) (hx : x.length ≤ 1000)
    (h : ∀ u h' tk, Ext s.heap h' → Q (.str (quoteF x) u) { s with heap := h', toks := tk }) :
    wpAny (model PP w) A (call (.ref 51) [.str x t]) Q E s := by
  refine quote_spec G R hx (fun h1 h2 => ?_) fun h1 => ?_
  · have : quoteF x = x := by
      unfold quoteF
      rw [if_pos]
      rw [(safe_all x).mp h2]
      simp [h1]
    rw [this] at h
    exact h
  · have : quoteF x = wrapS x := by
      unfold quoteF
      rw [if_neg]
      rcases h1 with h1 | ⟨i, hi, hc⟩
      · simp [h1]
      · intro q
        simp only [Bool.and_eq_true] at q
        have := (safe_all x).mpr q.2 i hi
        rw [hc] at this
        cases this
    rw [this] at h
    exact h

def itF (f : Str → Str) : Nat → Str → Str
  | 0, x => x
  | n + 1, x => f (itF f n x)
theorem quoteF_len (x : Str) : (quoteF x).length ≤ 5 * x.length + 2 := by
  unfold quoteF
  split
  · omega
  · exact wrapS_len x
theorem itQ_len (x : Str) (hx : x.length ≤ 10) : ∀ i, i ≤ 2 → (itF quoteF i x).length ≤ 1000
  | 0, _ => by show x.length ≤ _; omega
  | 1, _ => by
    have := quoteF_len x
    show (quoteF x).length ≤ _
    omega
  | 2, _ => by
    have h1 := quoteF_len x
    have := quoteF_len (quoteF x)
    show (quoteF (quoteF x)).length ≤ _
    omega
  | i + 3, h => by omega

theorem quoted_spec {w : World} {mg mb : Str → Option Value} {A : Around} {E : Value → Shared → Prop} {s : Shared} {x : Str} {t k : Tok} {n : Nat} {Q : Value → Shared → Prop}
    (G : Gd w mg mb s.heap) (R : Room 1 A) (hx : x.length ≤ 10) (hn : n ≤ 2)
    (h : ∀ u h' tk, Ext s.heap h' → Q (.str (itF quoteF n x) u) { s with heap := h', toks := tk }) :
    wpAny (model PP w) A (call (.ref 121) [.str x t, .int n k]) Q E s := by
  refine' enterP (binds := [(Str.ofString "word", .str x t), (Str.ofString "times", .int n k)]) G R ?ho ?hc ?hb ?hl ?_ ?c1 ?c2 ?c3 ?c4
  case ho => exact rfl
  case hc => exact rfl
  case hb => exact BindsTo.of_eq rfl
  case hl => exact locs rfl
  case c1 => decide
  case c2 => rfl
  case c3 => rfl
  case c4 => rfl
  intro L' h₁ F eL
  have KX : (hd.heap_39 w.params).In s.heap := G.X
  have TX := G.T
  have N : News s.heap L' h₁ [] := News.nil
  try dsimp only
  walk_at "go"
  rename IsRange _ _ _ _ _ _ _ _ => hr
  rename Fr s.heap L' _ _ => F2
  refine for_range (n := n) (show (A.deeper _).handled = none from R.h) hr (by omega) rfl (fun i s₁ => ∃ h' tk m u, s₁ = { s with heap := h', toks := tk } ∧ Fr s.heap L' h' m ∧ m (Str.ofString "word") = some (.str (itF quoteF i x) u)) ?a1 ?a2 ?a3 ?a4
  case a1 =>
    intro I h' hI hk
    exact ⟨h', _, _, t, rfl, F2.keeps hk, rfl⟩
  case a2 =>
    rintro I i s₁ h' tk hI ⟨h2, tk2, m, u, rfl, F3, hm⟩ hk
    have hl := F2.ns.lt
    refine ⟨h', tk, m, u, rfl, fr_mut F3 hk ?_ ?_, hm⟩
    · exact Heap.get?_none_of_le (Nat.le_trans F2.above (hI ▸ Nat.le_of_lt hl))
    · rw [hI]; exact Nat.ne_of_gt hl
  case a3 =>
    rintro I i tk s₁ o hI hi hoI ⟨h2, tk2, m, u, rfl, F3, hm⟩
    have hl := F2.ns.lt
    have hx' := itQ_len x hx i (by omega)
    have N3 : News s.heap L' h2 [(I, o)] := news_one hoI (by rw [hI]; exact Nat.ne_of_gt hl) (Heap.get?_none_of_le (Nat.le_trans F2.above (hI ▸ Nat.le_of_lt hl)))
    walk_at "go"
    refine quote_spec' (G.keeps (Fr.keep (by assumption))) R.deeper hx' fun u' h' tk' hk => ?_
    rename Fr s.heap L' _ _ => F4
    rename News s.heap L' _ _ => N4
    replace F4 := F4.keeps hk
    replace N4 := N4.keepsAll hk
    walk_at "go"
    rename Fr s.heap L' _ _ => F5
    rename News s.heap L' _ _ => N5
    exact ⟨⟨_, _, _, _, rfl, F5, if_pos rfl⟩, N5.get (.head _)⟩
  case a4 =>
    rintro s₁ ⟨h2, tk2, m, u, rfl, F3, hm⟩
    show wpAny _ _ _ _ _ _
    walk_at "go"
    exact h _ _ _ F3.keep

end Mine
end

section
set_option maxRecDepth 100000
set_option maxHeartbeats 4000000
namespace Mine
local macro_rules | `(tactic| walk_at "go") => `(tactic| repeat' (first | walk1 | (dsimp only; walk1)))
local macro_rules | `(tactic| walk_at "look") => `(tactic| first | assumption | exact rfl | exact if_pos rfl | (refine Eq.trans (if_neg (by decide)) ?_; walk_at "look"))
local macro_rules | `(tactic| walk_at "eval Name") => `(tactic| (refine' ld ?k1 ?k2 ?_; (case k1 => with_reducible assumption); (case k2 => ((try dsimp only); walk_at "look")); k_whole))
local macro_rules | `(tactic| walk_at "exec For Name Call cons nil") => `(tactic| (refine wpAny_For ?_ (fun _ => rfl)))
local macro_rules | `(tactic| walk_at "exec For Name Name cons nil") => `(tactic| (refine wpAny_For ?_ (fun _ => rfl)))
local macro_rules | `(tactic| walk_at "binaryOp Add str str") => `(tactic| (refine PyProof.Rows.add_str ?h ?z; (case z => (simp only [Str.length_append, sizeLine_eq]; omega)); (intro _ _)))
local macro_rules | `(tactic| walk_at "exec While Compare cons nil") => `(tactic| refine stopw ?_)
def bareF (x : Str) : Bool := (x != Str.ofString "") && (Txt.stripChars x (Str.ofString "a%") == Str.ofString "")

theorem bare_spec {w : World} {mg mb : Str → Option Value} {A : Around} {E : Value → Shared → Prop} {s : Shared} {x : Str} {t : Tok} {Q : Value → Shared → Prop}
    (G : Gd w mg mb s.heap) (R : Room 0 A) (hx : x.length ≤ 100)
    (h : ∀ h' tk, Ext s.heap h' → Q (.bool (bareF x)) { s with heap := h', toks := tk }) :
    wpAny (model PP w) A (call (.ref 107) [.str x t]) Q E s := by
  refine' enterP (binds := [(Str.ofString "word", .str x t)]) G R ?ho ?hc ?hb ?hl ?_ ?c1 ?c2 ?c3 ?c4
  case ho => exact rfl
  case hc => exact rfl
  case hb => exact BindsTo.of_eq rfl
  case hl => exact locs rfl
  case c1 => decide
  case c2 => rfl
  case c3 => rfl
  case c4 => rfl
  intro L' h₁ F eL
  have KX : (hd.heap_39 w.params).In s.heap := G.X
  have TX := G.T
  have N : News s.heap L' h₁ [] := News.nil
  try dsimp only
  walk_at "go"
  · rename (x != _) = true => hb
    have := fun tk => h h₁ tk F.keep
    rw [show bareF x = (Txt.stripChars x (Str.ofString "a%") == Str.ofString "") by unfold bareF; rw [hb]; rfl] at this
    exact this _
  · rename (x != _) = false => hb
    have := fun tk => h h₁ tk F.keep
    rw [show bareF x = (x != Str.ofString "") by unfold bareF; rw [hb]; rfl] at this
    exact this _

def spellF (n : Nat) (x : Str) : Str := if bareF x = true then x else itF wrapS n x

theorem itW_len (x : Str) (hx : x.length ≤ 10) : ∀ i, i ≤ 2 → (itF wrapS i x).length ≤ 1000
  | 0, _ => by show x.length ≤ _; omega
  | 1, _ => by
    have := wrapS_len x
    show (wrapS x).length ≤ _
    omega
  | 2, _ => by
    have h1 := wrapS_len x
    have := wrapS_len (wrapS x)
    show (wrapS (wrapS x)).length ≤ _
    omega
  | i + 3, h => by omega

theorem spelled_spec {w : World} {mg mb : Str → Option Value} {A : Around} {E : Value → Shared → Prop} {s : Shared} {x : Str} {t k : Tok} {n : Nat} {Q : Value → Shared → Prop}
    (G : Gd w mg mb s.heap) (R : Room 1 A) (hx : x.length ≤ 10) (hn : n ≤ 3)
    (h : ∀ u h' tk, Ext s.heap h' → Q (.str (spellF n x) u) { s with heap := h', toks := tk }) :
    wpAny (model PP w) A (call (.ref 114) [.str x t, .int n k]) Q E s := by
  refine' enterP (binds := [(Str.ofString "word", .str x t), (Str.ofString "times", .int n k)]) G R ?ho ?hc ?hb ?hl ?_ ?c1 ?c2 ?c3 ?c4
  case ho => exact rfl
  case hc => exact rfl
  case hb => exact BindsTo.of_eq rfl
  case hl => exact locs rfl
  case c1 => decide
  case c2 => rfl
  case c3 => rfl
  case c4 => rfl
  intro L' h₁ F eL
  have KX : (hd.heap_39 w.params).In s.heap := G.X
  have TX := G.T
  have N : News s.heap L' h₁ [] := News.nil
  try dsimp only
  walk_at "go"
  refine bare_spec (G.keeps (Fr.keep (by assumption))) R.deeper (by omega) fun h' tk hk => ?_
  replace F := F.keeps hk
  replace N : News s.heap L' h' [] := News.nil
  walk_at "go"
  · rename bareF x = true => hb
    have := fun u tk => h u h' tk F.keep
    rw [show spellF n x = x by unfold spellF; rw [if_pos hb]] at this
    exact this _ _
  rename bareF x = false => hb
  rw [show spellF n x = itF wrapS n x by unfold spellF; rw [if_neg (by rw [hb]; simp)]] at h
  rename IsRange _ _ _ _ _ _ _ _ => hr
  rename Fr s.heap L' _ _ => F2
  refine for_range (n := n) (show (A.deeper _).handled = none from R.h) hr (by omega) rfl (fun i s₁ => ∃ h' tk m u, s₁ = { s with heap := h', toks := tk } ∧ Fr s.heap L' h' m ∧ m (Str.ofString "word") = some (.str (itF wrapS i x) u)) ?a1 ?a2 ?a3 ?a4
  case a1 =>
    intro I h' hI hk
    exact ⟨h', _, _, t, rfl, F2.keeps hk, rfl⟩
  case a2 =>
    rintro I i s₁ h' tk hI ⟨h2, tk2, m, u, rfl, F3, hm⟩ hk
    have hl := F2.ns.lt
    refine ⟨h', tk, m, u, rfl, fr_mut F3 hk ?_ ?_, hm⟩
    · exact Heap.get?_none_of_le (Nat.le_trans F2.above (hI ▸ Nat.le_of_lt hl))
    · rw [hI]; exact Nat.ne_of_gt hl
  case a3 =>
    rintro I i tk s₁ o hI hi hoI ⟨h2, tk2, m, u, rfl, F3, hm⟩
    have hl := F2.ns.lt
    have hx' := itW_len x hx i (by omega)
    have hrl : (Txt.replace (itF wrapS i x) (Str.ofString "'") (Str.ofString "'\"'\"'")).length ≤ 5 * (itF wrapS i x).length := replace_len _
    have hl1 : (Str.ofString "'").length = 1 := by decide
    have hsp := split_sum (itF wrapS i x)
    have N3 : News s.heap L' h2 [(I, o)] := news_one hoI (by rw [hI]; exact Nat.ne_of_gt hl) (Heap.get?_none_of_le (Nat.le_trans F2.above (hI ▸ Nat.le_of_lt hl)))
    walk_at "go"
    rename List.map _ _ = Txt.split _ _ => hmap
    rename StrsAre _ _ => hsa
    rename Heap.IsList _ _ _ => hlist
    refine join_list hlist hsa ?_ fun t' k' => ?_
    · rw [hmap, show (Str.ofString "'\"'\"'").length = 5 from by decide]
      show ((Txt.split (itF wrapS i x) apo).map (·.length)).sum + (Txt.split (itF wrapS i x) apo).length * 5 ≤ _
      omega
    rw [hmap, show Txt.join (Str.ofString "'\"'\"'") (Txt.split (itF wrapS i x) (Str.ofString "'")) = Txt.replace (itF wrapS i x) (Str.ofString "'") (Str.ofString "'\"'\"'") from join_eq _]
    walk_at "go"
    rename Fr s.heap L' _ _ => F5
    rename News s.heap L' _ _ => N5
    exact ⟨⟨_, _, _, _, rfl, F5, if_pos rfl⟩, N5.get (.tail _ (.head _))⟩
  case a4 =>
    rintro s₁ ⟨h2, tk2, m, u, rfl, F3, hm⟩
    show wpAny _ _ _ _ _ _
    walk_at "go"
    exact h _ _ _ F3.keep

end Mine
end

section
set_option maxRecDepth 100000
set_option maxHeartbeats 4000000
namespace Mine
local macro_rules | `(tactic| walk_at "go") => `(tactic| repeat' (first | walk1 | (dsimp only; walk1)))
local macro_rules | `(tactic| walk_at "look") => `(tactic| first | assumption | exact rfl | exact if_pos rfl | (refine Eq.trans (if_neg (by decide)) ?_; walk_at "look"))
local macro_rules | `(tactic| walk_at "eval Name") => `(tactic| (refine' ld ?k1 ?k2 ?_; (case k1 => with_reducible assumption); (case k2 => ((try dsimp only); walk_at "look")); k_whole))
local macro_rules | `(tactic| walk_at "exec For Name Call cons nil") => `(tactic| (refine wpAny_For ?_ (fun _ => rfl)))
local macro_rules | `(tactic| walk_at "exec For Name Name cons nil") => `(tactic| (refine wpAny_For ?_ (fun _ => rfl)))
local macro_rules | `(tactic| walk_at "binaryOp Add str str") => `(tactic| (refine PyProof.Rows.add_str ?h ?z; (case z => (simp only [Str.length_append, sizeLine_eq]; omega)); (intro _ _)))
local macro_rules | `(tactic| walk_at "exec While Compare cons nil") => `(tactic| refine stopw ?_)
/-- the signs of the words -/
def alpha : List Nat := [39, 32, 97, 10, 37, 126, 92, 34, 233]
def okS (x : Str) : Prop := ∀ c ∈ x.cps.toList, c ∈ alpha

def RowJ (k : Nat) (m : Str → Option Value) (news : List (Addr × Obj)) : Prop :=
  ∃ (num : Int) (t : Tok) (D : Addr) (ws : List Str) (vs : List Value) (n : Nat), m (Str.ofString "number") = some (.int num t) ∧ m (Str.ofString "row") = some (.ref D) ∧ news = [(D, listOf vs.toArray n)] ∧ StrsAre vs ws ∧
    0 ≤ num ∧ num < 10 ^ k ∧ k ≤ 4 ∧ ws.length + k ≤ 4 ∧ ∀ x ∈ ws, okS x ∧ x.length + k ≤ 4

theorem strsAre_snoc : ∀ {vs : List Value} {ws : List Str} (y : Str) (t : Tok), StrsAre vs ws → StrsAre (vs ++ [.str y t]) (ws ++ [y])
  | _, _, y, t, .nil => .cons y t .nil
  | _, _, y, t, .cons z u r => .cons z u (strsAre_snoc y t r)
theorem fdiv10 {n : Int} {k : Nat} (h0 : 0 ≤ n) (h1 : n < 10 ^ (k + 1)) : 0 ≤ n.fdiv 10 ∧ n.fdiv 10 < 10 ^ k := by
  rw [Int.fdiv_eq_ediv_of_nonneg _ (by decide)]
  rw [Int.pow_succ] at h1
  generalize (10 : Int) ^ k = p at h1
  omega

theorem okS_append {x y : Str} (hx : okS x) (hy : okS y) : okS (x ++ y) := by
  intro c hc
  rw [cps_append] at hc
  exact (List.mem_append.mp hc).elim (hx c) (hy c)
theorem okS_nil : okS (Str.ofString "") := fun c hc => by simp [Str.ofString, cpsOfBytes] at hc
theorem item_ok (n : Int) (h : n.fmod 10 ≠ 0) : okS (Txt.item (Str.ofString "' a\n%~\\\"é") (n.fmod 10 - 1)) := by
  have h1 := Int.fmod_nonneg_of_pos n (b := 10) (by decide)
  have h2 := Int.fmod_lt_of_pos n (b := 10) (by decide)
  generalize n.fmod 10 = i at h h1 h2
  have : i = 1 ∨ i = 2 ∨ i = 3 ∨ i = 4 ∨ i = 5 ∨ i = 6 ∨ i = 7 ∨ i = 8 ∨ i = 9 := by omega
  unfold okS alpha
  rcases this with rfl | rfl | rfl | rfl | rfl | rfl | rfl | rfl | rfl <;> decide
theorem item_len (x : Str) (i : Int) : (Txt.item x i).length = 1 := rfl

theorem row_spec {w : World} {mg mb : Str → Option Value} {A : Around} {E : Value → Shared → Prop} {s : Shared} {n : Int} {t : Tok} {Q : Value → Shared → Prop}
    (G : Gd w mg mb s.heap) (R : Room 0 A) (h0 : 0 ≤ n) (h1 : n < 10000)
    (h : ∀ r h' tk ws vs n, Ext s.heap h' → s.heap.get? r = none → h'.get? r = some (listOf vs.toArray n) → StrsAre vs ws → ws.length ≤ 4 → (∀ x ∈ ws, okS x ∧ x.length ≤ 4) → Q (.ref r) { s with heap := h', toks := tk }) :
    wpAny (model PP w) A (call (.ref 100) [.int n t]) Q E s := by
  refine' enterP (binds := [(Str.ofString "number", .int n t)]) G R ?ho ?hc ?hb ?hl ?_ ?c1 ?c2 ?c3 ?c4
  case ho => exact rfl
  case hc => exact rfl
  case hb => exact BindsTo.of_eq rfl
  case hl => exact locs rfl
  case c1 => decide
  case c2 => rfl
  case c3 => rfl
  case c4 => rfl
  intro L' h₁ F eL
  have KX : (hd.heap_39 w.params).In s.heap := G.X
  have TX := G.T
  have N : News s.heap L' h₁ [] := News.nil
  try dsimp only
  walk_at "go"
  unfold StopW
  rename Fr s.heap L' _ _ => F2
  rename News s.heap L' _ _ => N2
  refine While_inv2 (n₀ := 4) RowJ F2 N2 ?a1 ?a2 PassesOwn.never
  case a1 =>
    exact ⟨n, t, _, [], [], _, rfl, rfl, rfl, .nil, h0, by omega, by omega, by simp, fun x hx => by cases hx⟩
  case a2 =>
    rintro k m₁ news₁ h₁ tk₁ F3 N3 ⟨num, t1, D, ws, vs, n1, hm1, hm2, rfl, hsa, b0, b1, b2, b3, b4⟩
    obtain ⟨k, rfl⟩ | hk0 : (∃ j, k = j + 1) ∨ k = 0 := by
      cases k with
      | zero => exact .inr rfl
      | succ j => exact .inl ⟨j, rfl⟩
    · have fd := fdiv10 b0 b1
      walk_at "go"
      · rename Fr s.heap L' _ _ => F4
        rename News s.heap L' _ _ => N4
        refine ⟨_, _, _, _, k, rfl, F4, N4, Nat.lt_succ_self _, num.fdiv 10, _, D, ws ++ [Str.ofString ""], vs ++ [.str (Str.ofString "") _], n1 + 1, if_pos rfl, (if_neg (by decide)).trans hm2, by rw [List.push_toArray], strsAre_snoc _ _ hsa, fd.1, fd.2, by omega, by simp; omega, ?_⟩
        intro x hx
        rcases List.mem_append.mp hx with hx | hx
        · have := b4 x hx
          exact ⟨this.1, by omega⟩
        · rw [List.mem_singleton.mp hx]
          exact ⟨fun c hc => by simp [Str.ofString, cpsOfBytes] at hc, by show 0 + k ≤ 4; omega⟩
      · cases hsa with
        | nil =>
          rename News s.heap L' _ _ => N4
          refine SeqAt.eq_listAt (N4.isList (.tail _ (.head _))) (N4.isList (.head _)) rfl ?_ (e := fun _ => true) (fun j h1 h2 => by simp at h1) ?_
          · have := R.u
            simp only [units_deeper, cLine]
            omega
          walk_at "go"
          rename Fr s.heap L' _ _ => F5
          rename News s.heap L' _ _ => N5
          refine ⟨_, _, _, [(D, _)], k, rfl, F5, fun p hp => N5 p (.tail _ hp), Nat.lt_succ_self _, num.fdiv 10, _, D, [] ++ [_], [] ++ [.str _ _], _, if_pos rfl, (if_neg (by decide)).trans hm2, rfl, strsAre_snoc _ _ .nil, fd.1, fd.2, by omega, ?_, ?_⟩
          · show 1 + k ≤ 4
            omega
          · intro x hx
            rw [List.nil_append, List.mem_singleton] at hx
            subst hx
            refine ⟨okS_append okS_nil (item_ok num (by assumption)), ?_⟩
            rw [Str.length_append, item_len]
            show 0 + 1 + k ≤ 4
            omega
        | cons y ty hsa =>
          rename News s.heap L' _ _ => N4
          refine SeqAt.eq_list_lengthsAt (N4.isList (.tail _ (.head _))) (N4.isList (.head _)) (by simp) ?_ ?_
          · have := R.u
            simp only [units_deeper, cLine]
            omega
          have b4y := b4 y (.head _)
          cases hsa with
          | nil =>
            walk_at "go"
            rename Fr s.heap L' _ _ => F5
            rename News s.heap L' _ _ => N5
            refine ⟨_, _, _, [(D, _)], k, rfl, F5, fun p hp => N5 p (.tail _ hp), Nat.lt_succ_self _, num.fdiv 10, _, D, [] ++ [_], [] ++ [.str _ _], _, if_pos rfl, (if_neg (by decide)).trans hm2, rfl, strsAre_snoc _ _ .nil, fd.1, fd.2, by omega, ?_, ?_⟩
            · show 1 + k ≤ 4
              omega
            · intro x hx
              rw [List.nil_append, List.mem_singleton] at hx
              subst hx
              refine ⟨okS_append b4y.1 (item_ok num (by assumption)), ?_⟩
              rw [Str.length_append, item_len]
              omega
          | cons y2 ty2 hsa =>
            have b4y2 := b4 y2 (.tail _ (.head _))
            cases hsa with
            | nil =>
              walk_at "go"
              rename Fr s.heap L' _ _ => F5
              rename News s.heap L' _ _ => N5
              refine ⟨_, _, _, [(D, _)], k, rfl, F5, fun p hp => N5 p (.tail _ hp), Nat.lt_succ_self _, num.fdiv 10, _, D, [y] ++ [_], [.str y ty] ++ [.str _ _], _, if_pos rfl, (if_neg (by decide)).trans hm2, rfl, strsAre_snoc _ _ (.cons _ _ .nil), fd.1, fd.2, by omega, ?_, ?_⟩
              · show 2 + k ≤ 4
                simp only [List.length_cons, List.length_nil] at b3
                omega
              · intro x hx
                rcases List.mem_append.mp hx with hx | hx
                · rw [List.mem_singleton.mp hx]
                  exact ⟨b4y.1, by omega⟩
                · rw [List.mem_singleton.mp hx]
                  refine ⟨okS_append b4y2.1 (item_ok num (by assumption)), ?_⟩
                  rw [Str.length_append, item_len]
                  omega
            | cons y3 ty3 hsa =>
              have b4y3 := b4 y3 (.tail _ (.tail _ (.head _)))
              cases hsa with
              | nil =>
                walk_at "go"
                rename Fr s.heap L' _ _ => F5
                rename News s.heap L' _ _ => N5
                refine ⟨_, _, _, [(D, _)], k, rfl, F5, fun p hp => N5 p (.tail _ hp), Nat.lt_succ_self _, num.fdiv 10, _, D, [y, y2] ++ [_], [.str y ty, .str y2 ty2] ++ [.str _ _], _, if_pos rfl, (if_neg (by decide)).trans hm2, rfl, strsAre_snoc _ _ (.cons _ _ (.cons _ _ .nil)), fd.1, fd.2, by omega, ?_, ?_⟩
                · show 3 + k ≤ 4
                  simp only [List.length_cons, List.length_nil] at b3
                  omega
                · intro x hx
                  rcases List.mem_append.mp hx with hx | hx
                  · rcases List.mem_cons.mp hx with hx | hx
                    · rw [hx]
                      exact ⟨b4y.1, by omega⟩
                    · rw [List.mem_singleton.mp hx]
                      exact ⟨b4y2.1, by omega⟩
                  · rw [List.mem_singleton.mp hx]
                    refine ⟨okS_append b4y3.1 (item_ok num (by assumption)), ?_⟩
                    rw [Str.length_append, item_len]
                    omega
              | cons y4 ty4 hsa =>
                exfalso
                simp only [List.length_cons] at b3
                omega
      · rename Fr s.heap L' _ _ => F4
        rename News s.heap L' _ _ => N4
        exact h D _ _ ws vs n1 F4.keep (N4.fresh (.head _)) (N4.get (.head _)) hsa (by omega) fun x hx => ⟨(b4 x hx).1, by have := (b4 x hx).2; omega⟩
    · subst hk0
      have hz : num = 0 := by omega
      subst hz
      walk_at "go"
      rename Fr s.heap L' _ _ => F4
      rename News s.heap L' _ _ => N4
      exact h D _ _ ws vs n1 F4.keep (N4.fresh (.head _)) (N4.get (.head _)) hsa (by omega) fun x hx => ⟨(b4 x hx).1, by have := (b4 x hx).2; omega⟩

end Mine
end

section
set_option maxRecDepth 100000
set_option maxHeartbeats 4000000
namespace Mine
local macro_rules | `(tactic| walk_at "go") => `(tactic| repeat' (first | walk1 | (dsimp only; walk1)))
local macro_rules | `(tactic| walk_at "look") => `(tactic| first | assumption | exact rfl | exact if_pos rfl | (refine Eq.trans (if_neg (by decide)) ?_; walk_at "look"))
local macro_rules | `(tactic| walk_at "eval Name") => `(tactic| (refine' ld ?k1 ?k2 ?_; (case k1 => with_reducible assumption); (case k2 => ((try dsimp only); walk_at "look")); k_whole))
local macro_rules | `(tactic| walk_at "exec For Name Call cons nil") => `(tactic| (refine wpAny_For ?_ (fun _ => rfl)))
local macro_rules | `(tactic| walk_at "exec For Name Name cons nil") => `(tactic| (refine wpAny_For ?_ (fun _ => rfl)))
local macro_rules | `(tactic| walk_at "binaryOp Add str str") => `(tactic| (refine PyProof.Rows.add_str ?h ?z; (case z => (simp only [Str.length_append, sizeLine_eq]; omega)); (intro _ _)))
local macro_rules | `(tactic| walk_at "exec While Compare cons nil") => `(tactic| refine stopw ?_)
local macro_rules | `(tactic| walk_at "eval Name") => `(tactic| (refine' nm_loc ?k1 ?k2 ?_ ?k4 ?k5 ?k6; (case k1 => with_reducible assumption); (case k2 => with_reducible assumption); (case k4 => rfl); (case k5 => rfl); (case k6 => decide); k_whole))
local macro_rules | `(tactic| walk_at "call builtin:list.append") => `(tactic| refine stopw ?_)
local macro_rules | `(tactic| walk_at "exec Assign cons ListComp") => `(tactic| refine stopw ?_)

/-- a word's rank -/
def rankW (n : Nat) (x : Str) : List Int :=
  if bareF x = true then x.cps.toList.map (fun (c : Nat) => 2 * (c : Int)) else [78] ++ x.cps.toList.map (fun (c : Nat) => 2 * (c : Int)) ++ [if n = 1 then 77 else 79]

/-- lists of ints, in a ledger -/
inductive RanksIn (stuff : List (Addr × Obj)) : List Value → List (List Int) → Prop
  | nil : RanksIn stuff [] []
  | cons {a : Addr} {vs us : List Value} {r : List Int} {rs : List (List Int)} {n : Nat} : (a, listOf vs.toArray n) ∈ stuff → IntsAre vs r → RanksIn stuff us rs → RanksIn stuff (.ref a :: us) (r :: rs)
theorem RanksIn.mono {stuff stuff' : List (Addr × Obj)} {us : List Value} {rs : List (List Int)} (h : RanksIn stuff us rs) (hs : ∀ p ∈ stuff, p ∈ stuff') : RanksIn stuff' us rs := by
  induction h with
  | nil => exact .nil
  | cons hm hi _ ih => exact .cons (hs _ hm) hi ih
theorem RanksIn.snoc {stuff : List (Addr × Obj)} {us : List Value} {rs : List (List Int)} {a : Addr} {vs : List Value} {r : List Int} {n : Nat} (h : RanksIn stuff us rs) (hm : (a, listOf vs.toArray n) ∈ stuff) (hi : IntsAre vs r) :
    RanksIn stuff (us ++ [.ref a]) (rs ++ [r]) := by
  induction h with
  | nil => exact .cons hm hi .nil
  | cons hm' hi' _ ih => exact .cons hm' hi' ih
theorem RanksIn.length {stuff : List (Addr × Obj)} {us : List Value} {rs : List (List Int)} (h : RanksIn stuff us rs) : us.length = rs.length := by
  induction h with
  | nil => rfl
  | cons _ _ _ ih => simp [ih]

theorem strsAre_get : ∀ {vs : List Value} {ws : List Str} (i : Nat) {v : Value}, StrsAre vs ws → vs[i]? = some v → ∃ x t, v = .str x t ∧ ws[i]? = some x
  | _, _, i, v, .nil, h => by simp at h
  | _, _, 0, v, .cons y t r, h => ⟨y, t, by simpa using h.symm, rfl⟩
  | _, _, i + 1, v, .cons y t r, h => by
    obtain ⟨x, u, e, k⟩ := strsAre_get i r (v := v) (by simpa using h)
    exact ⟨x, u, e, by simpa using k⟩

/-- the signs' doubled numbers -/
theorem signs_of {x : Str} {vs : List Value} {ys : List Value} (hlen : vs.length = x.cps.size) (hP : ∀ j v, vs[j]? = some v → SignAt x j v)
    (hF : Paired (fun v y => ∃ c u t, v = Value.str ⟨#[c]⟩ u ∧ y = Value.int (2 * (c : Int)) t) vs ys) : IntsAre ys (x.cps.toList.map fun (c : Nat) => 2 * (c : Int)) := by
  have go : ∀ (l : List Nat) (vs ys : List Value), vs.length = l.length → (∀ (j : Nat) v, vs[j]? = some v → ∃ c u, l[j]? = some c ∧ v = Value.str ⟨#[c]⟩ u) →
      Paired (fun v y => ∃ c u t, v = Value.str ⟨#[c]⟩ u ∧ y = Value.int (2 * (c : Int)) t) vs ys → IntsAre ys (l.map fun (c : Nat) => 2 * (c : Int)) := by
    intro l
    induction l with
    | nil =>
      intro vs ys h1 _ h3
      cases vs with
      | nil => cases h3; exact .nil
      | cons _ _ => simp at h1
    | cons c l ih =>
      intro vs ys h1 h2 h3
      cases h3 with
      | nil => simp at h1
      | cons hab r =>
        rename_i a b l₁ l₂
        obtain ⟨c', u, t, rfl, rfl⟩ := hab
        obtain ⟨c2, u2, e1, e2⟩ := h2 0 _ rfl
        have e3 : c2 = c' := by injection e2 with e2 _; injection e2 with e2; have := congrArg (fun a => a.getD 0 0) e2; simpa using this.symm
        have e4 : c = c2 := by simpa using e1
        subst e4; subst e3
        rw [List.map_cons]
        refine .cons _ _ (ih l₁ l₂ (by simpa using h1) (fun j v hj => ?_) r)
        obtain ⟨c3, u3, q1, q2⟩ := h2 (j + 1) v (by simpa using hj)
        exact ⟨c3, u3, by simpa using q1, q2⟩
  refine go x.cps.toList vs ys (by simpa using hlen) (fun j v hj => ?_) hF
  obtain ⟨c, u, e1, e2⟩ := hP j v hj
  exact ⟨c, u, by simpa using e1, e2⟩

def RankJ (s : Shared) (L' z l : Addr) (n : Nat) (t : Tok) (ws : List Str) (i : Nat) (s₁ : Shared) : Prop :=
  ∃ h' tk m D us stuff k, s₁ = { s with heap := h', toks := tk } ∧ Fr s.heap L' h' m ∧ News s.heap L' h' ((D, listOf us k) :: stuff) ∧ (∀ p ∈ stuff, p.1 ≠ D ∧ p.1 ≠ z) ∧ D ≠ z ∧ RanksIn stuff us.toList ((ws.take i).map (rankW n)) ∧ m (Str.ofString "row") = some (.ref l) ∧ m (Str.ofString "times") = some (.int n t) ∧ m (Str.ofString "ranks") = some (.ref D)

theorem rank_end {w : World} {A : Around} {s : Shared} {L' I l D X : Addr} {n i nl k tk : Nat} {t : Tok} {vs : List Value} {ws : List Str} {x : Str} {oI : Obj} {h h₁ : Heap} {m : Str → Option Value} {us xs : Array Value} {kx : Nat} {pre stuff : List (Addr × Obj)} {Q : Value → Shared → Prop}
    (F : Fr s.heap L' h m) (N : News s.heap L' h (pre ++ (I, oI) :: (D, listOf us k) :: stuff)) (hX : (X, listOf xs kx) ∈ pre) (hpre : ∀ p ∈ pre, p.1 ≠ D ∧ p.1 ≠ I)
    (hoff : ∀ p ∈ stuff, p.1 ≠ D ∧ p.1 ≠ I) (hDz : D ≠ I) (hR : RanksIn stuff us.toList ((ws.take i).map (rankW n))) (hxi : ws[i]? = some x) (hr : IntsAre xs.toList (rankW n x))
    (hm1 : m (Str.ofString "row") = some (.ref l)) (hm2 : m (Str.ofString "times") = some (.int n t)) (hm3 : m (Str.ofString "ranks") = some (.ref D))
    (hl : s.heap.get? l = some (listOf vs.toArray nl)) (h₁l : h₁.get? l = some (listOf vs.toArray nl)) (husz : us.size ≤ 1000)
    (hQ : ∀ s', Nxt (RankJ s L' I l n t ws (i + 1) s') (s'.heap.get? I = some oI ∧ ∀ o, h₁.get? l = some o → s'.heap.get? l = some o) → Q .none s') :
    wpAny (model PP w) A (call (.builtin "list.append") [.ref D, .ref X]) Q (fun _ _ => False) { s with heap := h, toks := tk } := by
  have e1 : (ws.take (i + 1)).map (rankW n) = (ws.take i).map (rankW n) ++ [rankW n x] := by
    rw [List.take_add_one, hxi, List.map_append]
    rfl
  have mD : (D, listOf us k) ∈ pre ++ (I, oI) :: (D, listOf us k) :: stuff := List.mem_append_right _ (.tail _ (.head _))
  refine append_at (N.get mD) husz fun h4 k4 hs4 ho4 => hQ _ ?_
  have F6 := fr_mut F (fun b ob hb e => hs4.extBut b ob hb e) (N.fresh mD) (N _ mD).2.1
  have up : ∀ p ∈ pre ++ (I, oI) :: (D, listOf us k) :: stuff, p.1 ≠ D → h4.get? p.1 = some p.2 ∧ p.1 ≠ L' ∧ s.heap.get? p.1 = none := fun p hp hne => ⟨hs4.extBut _ _ hne (N p hp).1, (N p hp).2⟩
  refine ⟨⟨_, _, m, D, us.push (.ref X), pre ++ stuff, k4, rfl, F6, fun p hp => ?_, fun p hp => ?_, hDz, ?_, hm1, hm2, hm3⟩, (up (I, oI) (List.mem_append_right _ (.head _)) (fun q => hDz q.symm)).1, fun ob e => ?_⟩
  · rcases List.mem_cons.mp hp with rfl | hp
    · exact ⟨ho4, (N _ mD).2⟩
    · rcases List.mem_append.mp hp with hp | hp
      · exact up p (List.mem_append_left _ hp) (hpre p hp).1
      · exact up p (List.mem_append_right _ (.tail _ (.tail _ hp))) (hoff p hp).1
  · exact (List.mem_append.mp hp).elim (hpre p) (hoff p)
  · rw [e1, Array.toList_push]
    exact (hR.mono fun p hp => List.mem_append_right _ hp).snoc (vs := xs.toList) (n := kx) (by rw [Array.toArray_toList]; exact List.mem_append_left _ hX) hr
  · rw [h₁l] at e
    cases e
    exact F6.keep _ _ hl

theorem rank_spec {w : World} {mg mb : Str → Option Value} {A : Around} {E : Value → Shared → Prop} {s : Shared} {l : Addr} {vs : List Value} {ws : List Str} {nl n : Nat} {t : Tok} {Q : Value → Shared → Prop}
    (G : Gd w mg mb s.heap) (R : Room 1 A) (hl : s.heap.get? l = some (listOf vs.toArray nl)) (hsa : StrsAre vs ws) (hw : ∀ x ∈ ws, x.length ≤ 4) (hwl : ws.length ≤ 4)
    (h : ∀ r h' tk us stuff k, Ext s.heap h' → s.heap.get? r = none → h'.get? r = some (listOf us k) → (∀ p ∈ stuff, h'.get? p.1 = some p.2 ∧ s.heap.get? p.1 = none) → RanksIn stuff us.toList (ws.map (rankW n)) → Q (.ref r) { s with heap := h', toks := tk }) :
    wpAny (model PP w) A (call (.ref 126) [.ref l, .int n t]) Q E s := by
  refine' enterP (binds := [(Str.ofString "row", .ref l), (Str.ofString "times", .int n t)]) G R ?ho ?hc ?hb ?hl ?_ ?c1 ?c2 ?c3 ?c4
  case ho => exact rfl
  case hc => exact rfl
  case hb => exact BindsTo.of_eq rfl
  case hl => exact locs rfl
  case c1 => decide
  case c2 => rfl
  case c3 => rfl
  case c4 => rfl
  intro L' h₁ F eL
  have KX : (hd.heap_39 w.params).In s.heap := G.X
  have TX := G.T
  have N : News s.heap L' h₁ [] := News.nil
  try dsimp only
  walk_at "go"
  rename Fr s.heap L' _ _ => F2
  rename News s.heap L' _ _ => N2
  have hlen : vs.length = ws.length := by
    obtain ⟨lst, e1, e2⟩ := strsAre_values hsa
    rw [e1, ← e2]; simp [strValues]
  obtain ⟨z, hz, hLz⟩ := fr_size F2
  refine for_list (items := vs.toArray) (show (A.deeper _).handled = none from R.h) ⟨_, F2.keep _ _ hl, rfl, _, rfl⟩ hz (RankJ s L' z l n t ws) ?a1 ?a2 ?a3 ?a4
  case a1 =>
    intro I h' hI hk
    exact ⟨h', _, _, _, #[], [], 0, rfl, F2.keeps hk, N2.keepsAll hk, (fun p hp => by cases hp), Nat.ne_of_lt (hz ▸ Heap.lt_size (N2.get (.head _))), .nil, rfl, rfl, rfl⟩
  case a2 =>
    rintro I i s₁ h2 tk2 rfl ⟨h', tk, m, D, us, stuff, k, rfl, F3, N3, hoff, hDz, hR, hm1, hm2, hm3⟩ hk
    refine ⟨h2, tk2, m, D, us, stuff, k, rfl, fr_mut F3 hk ?_ (Nat.ne_of_gt hLz), fun p hp => ⟨hk _ _ ?_ (N3 p hp).1, (N3 p hp).2⟩, hoff, hDz, hR, hm1, hm2, hm3⟩
    · exact Heap.get?_none_of_le (Nat.le_trans F2.above (Nat.le_of_lt hLz))
    · rcases List.mem_cons.mp hp with rfl | hp
      · exact hDz
      · exact (hoff p hp).2
  case a3 =>
    rintro I i v s₁ oI rfl hv hoI ⟨h', tk, m, D, us, stuff, k, rfl, F3, N3, hoff, hDz, hR, hm1, hm2, hm3⟩
    obtain ⟨x, tx, rfl, hxi⟩ := strsAre_get i hsa (by simpa using hv)
    have hx : x.length ≤ 4 := hw x (List.mem_of_getElem? hxi)
    have F3l : h'.get? l = some (listOf vs.toArray nl) := F3.keep _ _ hl
    have husz : us.size ≤ 1000 := by
      have := hR.length
      simp only [List.length_map, List.length_take, Array.length_toList] at this
      omega
    have hm1' : ∀ a b, (fun z => if z = Str.ofString "signs" then a else if z = Str.ofString "word" then b else m z) (Str.ofString "row") = some (Value.ref l) := fun a b => (if_neg (by decide)).trans ((if_neg (by decide)).trans hm1)
    have hm2' : ∀ a b, (fun z => if z = Str.ofString "signs" then a else if z = Str.ofString "word" then b else m z) (Str.ofString "times") = some (Value.int n t) := fun a b => (if_neg (by decide)).trans ((if_neg (by decide)).trans hm2)
    have hm3' : ∀ a b, (fun z => if z = Str.ofString "signs" then a else if z = Str.ofString "word" then b else m z) (Str.ofString "ranks") = some (Value.ref D) := fun a b => (if_neg (by decide)).trans ((if_neg (by decide)).trans hm3)
    have hI0 : s.heap.get? I = none := Heap.get?_none_of_le (Nat.le_trans F2.above (Nat.le_of_lt hLz))
    replace N3 : News s.heap L' h' ((I, oI) :: (D, listOf us k) :: stuff) := fun p hp => by
      rcases List.mem_cons.mp hp with rfl | hp
      · exact ⟨hoI, Nat.ne_of_gt hLz, hI0⟩
      · exact N3 p hp
    walk_at "go"
    unfold StopW
    refine wpAny_Assign_ListComp_free (cl := []) (fun _ => true) (fun v y => ∃ (c : Nat) (u t : Tok), v = Value.str ⟨#[c]⟩ u ∧ y = Value.int (2 * (c : Int)) t) rfl rfl (by decide) rfl (by decide) rfl rfl rfl ?_ (fun _ => rfl)
    walk_at "go"
    rename Fr s.heap L' _ _ => F4
    rename News s.heap L' _ _ => N4
    refine wpAny_pyIter_str fun o St W hst => ?_
    refine ⟨_, _, _, _, _, St, _, rfl, W _ R.h, Nat.le_trans hx (by rw [sizeLine_eq]; omega), hst, ?b1, ?b2, (F4.push o).ns, ⟨?b3, ?b4⟩, ?b5⟩
    case b1 =>
      intro b hb
      rw [List.mem_singleton.mp hb]
      show _ < (Heap.push _ _).objs.size
      rw [Heap.size_push]
      exact Nat.lt_succ_self _
    case b2 =>
      intro hb
      exact absurd F4.ns.lt ((List.mem_singleton.mp hb) ▸ Nat.lt_irrefl _)
    case b3 =>
      intro C j v' s₃ m₃ E' hC hP hn hm hk _
      exact wpAny_pure ⟨rfl, _, _, rfl, fun _ _ e => e⟩
    case b4 =>
      intro C j v' s₃ m₃ E' hC hP _ hn hm hk _
      obtain ⟨c, u, hc, rfl⟩ := hP
      have G3 : Gd w mg mb s₃.heap := G.keeps fun b ob e => hk b ob (fun hb => by
        have h1 : b < s.heap.objs.size := Heap.lt_size e
        have h2 := F4.ns.lt
        have h3 := F4.above
        rw [List.mem_singleton.mp hb] at h1
        exact absurd (Nat.lt_of_lt_of_le h1 h3) (Nat.lt_asymm h2)) (Heap.get?_push_of_some _ (F4.keep b ob e))
      walk_at "go"
      refine nm_blt G3 rfl boot_ord (by decide) ?_ rfl rfl rfl rfl (by decide)
      walk_at "go"
      exact ⟨_, _, rfl, fun _ _ e => e⟩
    case b5 =>
      intro D2 h2 tk2 ys vs' hD2 hl2 hp2 hlen2 hP2 hF2 hn2 hk2
      obtain ⟨k2, hoD2⟩ := hp2
      rw [List.filter_eq_self.mpr (fun _ _ => rfl)] at hF2
      have hints := signs_of hlen2 hP2 hF2
      have keep : ∀ b ob, b ≠ L' → Heap.get? _ b = some ob → h2.get? b = some ob := fun b ob hb e => hk2 b ob hb (fun hm => by
        rw [List.mem_singleton.mp hm] at e
        exact absurd (Heap.lt_size e) (Nat.lt_irrefl _)) (Heap.get?_push_of_some _ e)
      have F5 : Fr s.heap L' h2 _ := ⟨hn2, fun b ob e => keep b ob (fun q => by
        have h1 := Heap.lt_size e
        rw [q] at h1
        exact absurd h1 (Nat.not_lt.mpr F4.above)) (F4.keep b ob e), F4.above⟩
      have hnone : ∀ b ob, Heap.get? _ b = some ob → b ≠ D2 := fun b ob e q => by
        rw [q] at e
        rw [show Heap.get? _ D2 = none from hD2] at e
        cases e
      have N5 : News s.heap L' h2 ((D2, listOf ys k2) :: (I, oI) :: (D, listOf us k) :: stuff) := fun p hp => by
        rcases List.mem_cons.mp hp with rfl | hp
        · refine ⟨hoD2, fun q => ?_, ?_⟩
          · obtain ⟨oL, _, _, hoL, _⟩ := (F4.push o).ns
            exact hnone L' oL hoL q.symm
          · cases q : s.heap.get? D2 with
            | none => rfl
            | some oo => exact absurd rfl (hnone D2 oo (Heap.get?_push_of_some _ (F4.keep _ _ q)))
        · exact ⟨keep _ _ (N4 p hp).2.1 (N4 p hp).1, (N4 p hp).2⟩
      have hD2' : ∀ p ∈ ((I, oI) :: (D, listOf us k) :: stuff : List (Addr × Obj)), p.1 ≠ D2 := fun p hp => hnone _ _ (Heap.get?_push_of_some _ (N4 p hp).1)
      clear hk2 keep hnone hD2 hst W hn2 N4 F4
      show wpAny _ _ _ _ _ _
      walk_at "go"
      refine bare_spec (G.keeps F5.keep) R.deeper (by omega) fun h3 tk3 hk3 => ?_
      replace F5 := F5.keeps hk3
      replace N5 := N5.keepsAll hk3
      walk_at "go"
      · unfold StopW
        rename bareF x = true => hbare
        refine rank_end (pre := [(D2, listOf ys k2)]) (h₁ := h') F5 N5 (.head _) (fun p hp => ?_) hoff hDz hR hxi (by rw [show rankW n x = _ from if_pos hbare]; exact hints) (hm1' _ _) (hm2' _ _) (hm3' _ _) hl F3l husz fun s' hN => ?_
        · rw [List.mem_singleton.mp hp]
          exact ⟨fun q => hD2' _ (.tail _ (.head _)) q.symm, fun q => hD2' _ (.head _) q.symm⟩
        walk_at "go"
        exact hN
      · rename bareF x = false => hbare
        rename Fr s.heap L' _ _ => F6
        rename News s.heap L' _ _ => N6
        have hd6 := Heap.lt_size (N6.get (.tail _ (.tail _ (.tail _ (.head _)))))
        have hi6' := Heap.lt_size (N6.get (.tail _ (.tail _ (.head _))))
        refine add_arrays_ints F6 N6 (N6.isList (.head _)) (N6.isList (.tail _ (.head _))) (ns := [78]) (.cons _ _ .nil) hints ?_ ?zz
        case zz =>
          rw [sizeLine_eq]
          have : x.cps.toList.length ≤ 4 := by simpa [Str.length] using hx
          simp only [List.length_cons, List.length_nil, List.length_map]
          omega
        clear F6 N6
        intro h7 F6 N6 hi6
        walk_at "go"
        · rename (n : Int) = 1 => hn1
          rename Fr s.heap L' _ _ => F8
          rename News s.heap L' _ _ => N8
          have hd8 := Heap.lt_size (N8.get (.tail _ (.tail _ (.tail _ (.tail _ (.tail _ (.head _)))))))
          have hi8 := Heap.lt_size (N8.get (.tail _ (.tail _ (.tail _ (.tail _ (.head _))))))
          refine add_arrays_ints F8 N8 (N8.isList (.tail _ (.head _))) (N8.isList (.head _)) hi6 (ms := [77]) (.cons _ _ .nil) ?_ ?zz
          case zz =>
            rw [sizeLine_eq]
            have : x.cps.toList.length ≤ 4 := by simpa [Str.length] using hx
            simp only [List.length_cons, List.length_nil, List.length_map, List.length_append]
            omega
          intro h9 F9 N9 hi9
          walk_at "go"
          unfold StopW
          refine rank_end (pre := [_, _, _, _, (D2, listOf ys k2)]) (h₁ := h') F9 N9 (.head _) (fun p hp => ?_) hoff hDz hR hxi ?_ (hm1' _ _) (hm2' _ _) (hm3' _ _) hl F3l husz fun s' hN => ?_
          · dsimp only at *
            rcases List.mem_cons.mp hp with rfl | hp
            · exact ⟨Nat.ne_of_gt hd8, Nat.ne_of_gt hi8⟩
            rcases List.mem_cons.mp hp with rfl | hp
            · exact ⟨by refine neN ?_; dsimp only; omega, by refine neN ?_; dsimp only; omega⟩
            rcases List.mem_cons.mp hp with rfl | hp
            · exact ⟨Nat.ne_of_gt hd6, Nat.ne_of_gt hi6'⟩
            rcases List.mem_cons.mp hp with rfl | hp
            · exact ⟨by refine neN ?_; dsimp only; omega, by refine neN ?_; dsimp only; omega⟩
            rw [List.mem_singleton.mp hp]
            exact ⟨fun q => hD2' _ (.tail _ (.head _)) q.symm, fun q => hD2' _ (.head _) q.symm⟩
          · rw [show rankW n x = _ from if_neg (by rw [hbare]; simp), if_pos (show n = 1 by omega)]
            exact hi9
          walk_at "go"
          exact hN
        · rename (n : Int) ≠ 1 => hn1
          rename Fr s.heap L' _ _ => F8
          rename News s.heap L' _ _ => N8
          have hd8 := Heap.lt_size (N8.get (.tail _ (.tail _ (.tail _ (.tail _ (.tail _ (.head _)))))))
          have hi8 := Heap.lt_size (N8.get (.tail _ (.tail _ (.tail _ (.tail _ (.head _))))))
          refine add_arrays_ints F8 N8 (N8.isList (.tail _ (.head _))) (N8.isList (.head _)) hi6 (ms := [79]) (.cons _ _ .nil) ?_ ?zz
          case zz =>
            rw [sizeLine_eq]
            have : x.cps.toList.length ≤ 4 := by simpa [Str.length] using hx
            simp only [List.length_cons, List.length_nil, List.length_map, List.length_append]
            omega
          intro h9 F9 N9 hi9
          walk_at "go"
          unfold StopW
          refine rank_end (pre := [_, _, _, _, (D2, listOf ys k2)]) (h₁ := h') F9 N9 (.head _) (fun p hp => ?_) hoff hDz hR hxi ?_ (hm1' _ _) (hm2' _ _) (hm3' _ _) hl F3l husz fun s' hN => ?_
          · dsimp only at *
            rcases List.mem_cons.mp hp with rfl | hp
            · exact ⟨Nat.ne_of_gt hd8, Nat.ne_of_gt hi8⟩
            rcases List.mem_cons.mp hp with rfl | hp
            · exact ⟨by refine neN ?_; dsimp only; omega, by refine neN ?_; dsimp only; omega⟩
            rcases List.mem_cons.mp hp with rfl | hp
            · exact ⟨Nat.ne_of_gt hd6, Nat.ne_of_gt hi6'⟩
            rcases List.mem_cons.mp hp with rfl | hp
            · exact ⟨by refine neN ?_; dsimp only; omega, by refine neN ?_; dsimp only; omega⟩
            rw [List.mem_singleton.mp hp]
            exact ⟨fun q => hD2' _ (.tail _ (.head _)) q.symm, fun q => hD2' _ (.head _) q.symm⟩
          · rw [show rankW n x = _ from if_neg (by rw [hbare]; simp), if_neg (show ¬ n = 1 by omega)]
            exact hi9
          walk_at "go"
          exact hN
  case a4 =>
    rintro s₁ ⟨h', tk, m, D, us, stuff, k, rfl, F3, N3, hoff, hDz, hR, hm1, hm2, hm3⟩
    show wpAny _ _ _ _ _ _
    walk_at "go"
    rw [show vs.toArray.size = ws.length by simpa using hlen, List.take_length] at hR
    exact h D h' _ us stuff k F3.keep (N3.fresh (.head _)) (N3.get (.head _)) (fun p hp => ⟨(N3 p (.tail _ hp)).1, (N3 p (.tail _ hp)).2.2⟩) hR

end Mine
end

section
set_option maxRecDepth 100000
set_option maxHeartbeats 4000000
namespace Mine
local macro_rules | `(tactic| walk_at "go") => `(tactic| repeat' (first | walk1 | (dsimp only; walk1)))
local macro_rules | `(tactic| walk_at "look") => `(tactic| first | assumption | exact rfl | exact if_pos rfl | (refine Eq.trans (if_neg (by decide)) ?_; walk_at "look"))
local macro_rules | `(tactic| walk_at "eval Name") => `(tactic| (refine' ld ?k1 ?k2 ?_; (case k1 => with_reducible assumption); (case k2 => ((try dsimp only); walk_at "look")); k_whole))
local macro_rules | `(tactic| walk_at "exec For Name Call cons nil") => `(tactic| (refine wpAny_For ?_ (fun _ => rfl)))
local macro_rules | `(tactic| walk_at "exec For Name Name cons nil") => `(tactic| (refine wpAny_For ?_ (fun _ => rfl)))
local macro_rules | `(tactic| walk_at "binaryOp Add str str") => `(tactic| (refine PyProof.Rows.add_str ?h ?z; (case z => (simp only [Str.length_append, sizeLine_eq]; omega)); (intro _ _)))
local macro_rules | `(tactic| walk_at "exec While Compare cons nil") => `(tactic| refine stopw ?_)
local macro_rules | `(tactic| walk_at "eval Name") => `(tactic| (refine' nm_loc ?k1 ?k2 ?_ ?k4 ?k5 ?k6; (case k1 => with_reducible assumption); (case k2 => with_reducible assumption); (case k4 => rfl); (case k5 => rfl); (case k6 => decide); k_whole))
local macro_rules | `(tactic| walk_at "eval GeneratorExp") => `(tactic| refine stopw ?_)

/-- a table of codes -/
abbrev tabO (ps : Array Value) : Obj := { cls := .none, data := .fields ps }
theorem head42 {w : World} {h : Heap} (X : (KK w).In h) : CodeHd h 42 38 := ⟨_, _, _, _, _, _, _, _, _, X 42 _ rfl, rfl, rfl, rfl, rfl, rfl, rfl, rfl, rfl, by decide⟩

theorem gcode {M : Model} {A : Around} {E : Value → Shared → Prop} {s : Shared} {env : Env} {c P : Addr} {ps : Array Value} {pos : Pos} {qualname : Str} {scope : Scope} {Q : Value → Shared → Prop}
    (hc : env.code = .ref c) (hh : CodeHd s.heap c P) (hP : s.heap.get? P = some (tabO ps)) (ht : TriplesOk ps.toList)
    (hQ : ∀ code h' tk more, Heap.ExtBut P s.heap h' → s.heap.objs.size ≤ h'.objs.size → h'.get? P = some (tabO (ps ++ more)) → TriplesOk (ps ++ more).toList → Q code { s with heap := h', toks := tk }) :
    wpAny M A (genexprCode env pos qualname scope) Q E s := by
  cases hnf : codeAmong pos ps.toList with
  | none =>
    refine wpAny_genexprCodeX hc (hh.code hP ht) (hh.tab hP) hnf fun c' h' tk hx h1 h2 hcd _ htb _ => ?_
    refine hQ _ _ _ _ hx (Nat.le_trans h1 (Nat.le_of_lt h2)) htb.2 ?_
    obtain ⟨_, _, _, _, _, _, _, _, _, op, _, _, _, _, _, _, _, e1, e2, e3, _⟩ := hcd
    exact e3
  | some cv =>
    refine wpAny_genexprCode_hit hc (hh.code hP ht) hnf ?_
    have := hQ cv s.heap s.toks #[] (Heap.ExtBut.refl _ _) (Nat.le_refl _) (by simpa using hP) (by simpa using ht)
    exact this

theorem range_map_getD (f : Str → Str) (ws : List Str) : (List.range ws.length).map (fun j => f (ws.getD j "")) = ws.map f := by
  apply List.ext_getElem?
  intro j
  by_cases hj : j < ws.length
  · simp [hj]
  · simp [hj]
theorem fold_small (sep : Str) (N : Nat) : ∀ (l : List Str) (a : Nat), (∀ y ∈ l, y.length ≤ N) → l.foldl (fun n y => n + y.length + sep.length) a ≤ a + l.length * (N + sep.length)
  | [], a, _ => by simp
  | y :: r, a, h => by
    have := fold_small sep N r (a + y.length + sep.length) fun y hy => h y (.tail _ hy)
    have h2 := h y (.head _)
    simp only [List.foldl_cons, List.length_cons, Nat.succ_mul]
    omega
theorem joinOk_small {sep : Str} {l : List Str} (h : ∀ y ∈ l, y.length ≤ 5000) (hl : l.length ≤ 4) (hs : sep.length ≤ 1) : JoinOk sep l = true := by
  unfold JoinOk
  have := fold_small sep 5000 l 0 h
  have h3 : l.length * (5000 + sep.length) ≤ 4 * 5001 := Nat.mul_le_mul hl (by omega)
  simp only [List.foldl_toArray', Bool.not_eq_true', Builtin.Str.tooLong]
  refine decide_eq_false ?_
  rw [sizeLine_eq]
  omega
theorem quote_elt {w : World} {mg mb : Str → Option Value} {A : Around} {E : Value → Shared → Prop} {s : Shared} {env : Env} {m : Str → Option Value} {x : Str} {t : Tok} {p1 p2 p3 : Pos} {Q : Value → Shared → Prop}
    (G : Gd w mg mb s.heap) (R : Room 0 A) (hx : x.length ≤ 1000) (hn : s.heap.Ns env.locals m) (hm : m (Str.ofString "arg") = some (.str x t))
    (h1 : env.globals = mainGlobals) (h2 : env.scope.kind = .function) (h3 : env.kindOf (Str.ofString "quote") = some .globalImplicit) (h4 : env.kindOf (Str.ofString "arg") = some .local)
    (h : ∀ u h' tk, Ext s.heap h' → Q (.str (quoteF x) u) { s with heap := h', toks := tk }) :
    wpAny (model PP w) A (eval ((Expr.Name (Str.ofString "quote") p1).Call [Expr.Name (Str.ofString "arg") p2] [] p3) env) Q E s := by
  walk1
  refine nm_glob (v := .ref 51) G rfl ?_ h1 h2 h3 (by decide)
  have h51 := G.X 51 _ rfl
  obtain ⟨o51, fd51, e51, d51⟩ : ∃ o fd, s.heap.get? 51 = some o ∧ o.data = .func fd := ⟨_, _, h51, rfl⟩
  refine callWith_def d51 ?_
  walk_at "go"
  refine nm_loc hn hm ?_ h2 h4 (by decide)
  walk_at "go"
  exact quote_spec' G R hx h

theorem join_spec {w : World} {mg mb : Str → Option Value} {A : Around} {E : Value → Shared → Prop} {s : Shared} {b : Heap} {l : Addr} {vs : List Value} {ws : List Str} {nl : Nat} {ps : Array Value} {bm : Addr} {ob : Obj} {Q : Value → Shared → Prop}
    (G : Gd w mg mb b) (hb : Ext b s.heap) (h38 : b.get? 38 = none) (M : BMod b mainGlobals mg bm ob) (hT : s.heap.get? 38 = some (tabO ps)) (htr : TriplesOk ps.toList) (hgs : AllBare s.gens) (R : Room 2 A)
    (hl : b.get? l = some (listOf vs.toArray nl)) (hsa : StrsAre vs ws) (hw : ∀ x ∈ ws, x.length ≤ 200) (hwl : ws.length ≤ 4)
    (h : ∀ u s' more, ExtB 38 s.heap s'.heap → s'.heap.get? 38 = some (tabO (ps ++ more)) → TriplesOk (ps ++ more).toList → AllBare s'.gens → s'.os = s.os → Q (.str (Txt.join " " (ws.map quoteF)) u) s') :
    wpAny (model PP w) A (call (.ref 43) [.ref l]) Q E s := by
  refine' enterH (binds := [(Str.ofString "split_command", .ref l)]) G hb h38 hT R ?ho ?hc ?hb ?hl ?_ ?c1 ?c2 ?c3 ?c4
  case ho => exact rfl
  case hc => exact rfl
  case hb => exact BindsTo.of_eq rfl
  case hl => exact locs rfl
  case c1 => decide
  case c2 => rfl
  case c3 => rfl
  case c4 => rfl
  intro g L' h₁ G2 hg hg38 F N
  have KX : (hd.heap_39 w.params).In g := G2.X
  have TX := G2.T
  try dsimp only
  walk_at "go"
  unfold StopW
  obtain ⟨z, hz, hLz⟩ := fr_size F
  have hroom : A.depth + 20 ≤ 600 := R.d
  have hP1 := N.get (.head _)
  have M2 : BMod g mainGlobals mg bm ob := by
    have hk : Ext b g := fun p o e => hg p o (fun q => by subst q; rw [h38] at e; cases e) (hb p o e)
    exact M.keeps hk
  refine wpAny_GeneratorExp_walksQD (cl := []) R.h rfl rfl (by decide) rfl rfl rfl (by simp only [depth_deeper, recursionLimit]; omega) ?_ (fun _ => rfl)
  walk_at "go"
  have hl₁ : h₁.IsList l vs.toArray := by
    have e : g.get? l = some (listOf vs.toArray nl) := hg l _ (fun q => by subst q; rw [h38] at hl; cases hl) (hb l _ hl)
    exact ⟨_, F.keep _ _ e, rfl, _, rfl⟩
  have hlz : l ≠ z := by
    obtain ⟨_, e, _⟩ := hl₁
    exact hz ▸ Nat.ne_of_lt (Heap.lt_size e)
  have hl38 : l ≠ 38 := fun q => by subst q; rw [h38] at hl; cases hl
  have h38z : 38 < z := hz ▸ Heap.lt_size hP1
  refine wpAny_pyIter_list hl₁ ?_
  dsimp only
  rw [hz]
  have F1 := F.push { cls := .type "list_iterator", data := .fields #[.ref l, .int 0 0] }
  have hgz : g.get? z = none := Heap.get?_none_of_le (hz ▸ Nat.le_trans F.above (Nat.le_of_lt F.ns.lt))
  have hP2 := Heap.get?_push_of_some { cls := .type "list_iterator", data := .fields #[.ref l, .int 0 0] } hP1
  have hSt : (h₁.push { cls := .type "list_iterator", data := .fields #[.ref l, .int 0 0] }).get? z = some { cls := .type "list_iterator", data := .fields #[.ref l, .int 0 0] } := hz ▸ Heap.get?_push_size _ rfl
  have hl₂ := hl₁.push { cls := .type "list_iterator", data := .fields #[.ref l, .int 0 0] }
  have hsz₂ : (h₁.push { cls := .type "list_iterator", data := .fields #[.ref l, .int 0 0] }).objs.size = z + 1 := by rw [Heap.size_push, hz]
  generalize h₁.push { cls := .type "list_iterator", data := .fields #[.ref l, .int 0 0] } = h₂ at F1 hP2 hSt hl₂ hsz₂
  refine ⟨(G2.keeps F1.keep).T.nolimit, gcode rfl ((head42 G2.X).keeps F1.keep) hP2 htr fun code h₃ tk₃ more hx₃ hsz₃ hP₃ ht₃ => ?_⟩
  have F3 : Fr g L' h₃ _ := fr_mut F1 hx₃ hg38 (N _ (.head _)).2.1
  have M₃ := M2.keeps F3.keep
  refine wpAny_builtinsFor M₃.ns M₃.name M₃.ne M₃.obj M₃.cls M₃.dict M₃.data ?_
  dsimp only at hsz₃
  have hcs : cStatics < g.objs.size := by
    obtain ⟨_, hn, _⟩ := G2.T.nolimit
    exact hn.lt
  have hzg : g.objs.size ≤ z := hz ▸ Nat.le_trans F.above (Nat.le_of_lt F.ns.lt)
  refine ⟨z, [z, l], [z], vs.toArray.size, _, _, (fun _ => true), (fun i y => ∃ x u, ws[i]? = some x ∧ y = Value.str (quoteF x) u), rfl, (fun A' hA => Walks.list hA z l hlz vs.toArray), ?st, ?fp, (G2.keeps F3.keep).T.nolimit, ?cw, ?q, ?fin⟩
  case st =>
    refine ⟨⟨_, hx₃ _ _ (Nat.ne_of_gt h38z) hSt, rfl, rfl⟩, hl₂.at fun o e => hx₃ _ _ hl38 e⟩
  case fp =>
    intro p hp
    have : @LT.lt Nat _ l z := by
      obtain ⟨_, e, _⟩ := hl₁
      exact hz ▸ Heap.lt_size e
    have hzz : z + 1 ≤ h₃.objs.size := hsz₂ ▸ hsz₃
    rcases List.mem_cons.mp hp with rfl | hp
    · exact hzz
    · rw [List.mem_singleton.mp hp]; exact Nat.lt_of_lt_of_le this (Nat.le_of_succ_le hzz)
  case cw =>
    intro hm
    rw [List.mem_singleton.mp hm] at hcs
    exact absurd (Nat.lt_of_lt_of_le hcs hzg) (Nat.lt_irrefl _)
  case q =>
    intro href hhref
    refine ⟨fun A' E' i v s₂ m₂ hA hD hU hP hn hm hk => wpAny_pure ⟨rfl, _, _, rfl, fun _ _ e => e⟩, fun A' E' i v s₂ m₂ hA hD hU hP _ hn hm hk => ?_⟩
    obtain ⟨x, tx, rfl, hxi⟩ := strsAre_get i hsa (by simpa using hP)
    have G3 : Gd w mg mb s₂.heap := G2.keeps fun p o e => hk p (List.mem_range.mpr (Heap.lt_size (F3.keep _ _ e))) (fun q => by
      rw [List.mem_singleton.mp q, hgz] at e; cases e) o (hhref p o (F3.keep _ _ e))
    have hx : x.length ≤ 200 := hw x (List.mem_of_getElem? hxi)
    have R' : Room 0 A' := by
      have := R.u
      simp only [depth_deeper, units_deeper] at hD hU
      exact ⟨by omega, by omega, hA⟩
    refine quote_elt G3 R' (by omega) hn hm rfl rfl rfl rfl fun u h' tk' hk' => ?_
    exact ⟨⟨x, u, hxi, rfl⟩, _, _, rfl, hk'⟩
  case fin =>
    intro a h₅ tk gs hgb hag hsz₅ hk₅ W hat
    dsimp only at hag hsz₅ hk₅ W hat
    have hps : passing (fun _ => true) vs.toArray.size 0 = List.range vs.toArray.size := by simp [passing]
    have hlen : vs.toArray.size = ws.length := by
      obtain ⟨lst, e1, e2⟩ := strsAre_values hsa
      rw [e1, ← e2]; simp [strValues]
    have hzz : z + 1 ≤ h₃.objs.size := hsz₂ ▸ hsz₃
    walk_at "go"
    refine join_rowsK (K := L') (F3.keeps hk₅) (hgs.push hgb) ⟨_, _, _, _, W, hat, (fun i s' st => st.1.typeIs), List.mem_cons_self, ?x1, ?x2⟩ (Nat.le_refl _) (fun j => quoteF (ws.getD j "")) ?tx ?ok ?fn ?sz
    case x1 =>
      intro p hp
      show p < h₅.objs.size
      rw [hsz₅]
      rcases List.mem_cons.mp hp with rfl | hp
      · exact Nat.lt_succ_self _
      · rcases List.mem_cons.mp hp with rfl | hp
        · exact Nat.lt_succ_of_lt hag
        · exact Nat.lt_succ_of_lt (Nat.lt_trans (List.mem_range.mp hp) hag)
    case x2 =>
      intro p hp
      rcases List.mem_cons.mp hp with rfl | hp
      · exact Nat.lt_of_lt_of_le hLz (Nat.le_of_succ_le hzz)
      · rw [List.mem_singleton.mp hp]; exact hLz
    case tx =>
      rintro j v ⟨i, hi, x, u, hx, rfl⟩
      rw [hps, hlen] at hi
      have hij : i = j := by
        rcases Nat.lt_or_ge j ws.length with q | q
        · rw [List.getElem?_range q] at hi; cases hi; rfl
        · rw [List.getElem?_eq_none (by simpa using q)] at hi; cases hi
      subst hij
      refine ⟨u, ?_⟩
      rw [List.getD_eq_getElem?_getD, hx]
      rfl
    case ok =>
      rw [hps, List.length_range, hlen, range_map_getD]
      refine joinOk_small ?_ (by simpa using hwl) (by decide)
      intro y hy
      obtain ⟨x, hx, rfl⟩ := List.mem_map.mp hy
      have := quoteF_len x
      have := hw x hx
      omega
    case fn =>
      rw [hps, List.length_range, hlen, range_map_getD]
      intro s' t' F6 G6 hos hk6
      have lt38 : 38 ≤ L' := Nat.le_of_lt (Nat.lt_of_lt_of_le (Heap.lt_size (G2.X 42 _ rfl)) F.above |> Nat.lt_trans (by decide))
      refine h t' s' more (fun p o hp e => F6.keep p o (hg p o hp e)) (hk6 38 _ lt38 (hk₅ _ _ hP₃)) ht₃ G6 hos
    case sz =>
      rw [hps, List.length_range, hlen, sizeLine_eq]
      omega

end Mine
end

section
set_option maxRecDepth 100000
set_option maxHeartbeats 4000000
namespace Mine
local macro_rules | `(tactic| walk_at "go") => `(tactic| repeat' (first | walk1 | (dsimp only; walk1)))
local macro_rules | `(tactic| walk_at "look") => `(tactic| first | assumption | exact rfl | exact if_pos rfl | (refine Eq.trans (if_neg (by decide)) ?_; walk_at "look"))
local macro_rules | `(tactic| walk_at "eval Name") => `(tactic| (refine' ld ?k1 ?k2 ?_; (case k1 => with_reducible assumption); (case k2 => ((try dsimp only); walk_at "look")); k_whole))
local macro_rules | `(tactic| walk_at "exec For Name Call cons nil") => `(tactic| (refine wpAny_For ?_ (fun _ => rfl)))
local macro_rules | `(tactic| walk_at "exec For Name Name cons nil") => `(tactic| (refine wpAny_For ?_ (fun _ => rfl)))
local macro_rules | `(tactic| walk_at "binaryOp Add str str") => `(tactic| (refine PyProof.Rows.add_str ?h ?z; (case z => (simp only [Str.length_append, sizeLine_eq]; omega)); (intro _ _)))
local macro_rules | `(tactic| walk_at "exec While Compare cons nil") => `(tactic| refine stopw ?_)
local macro_rules | `(tactic| walk_at "eval Name") => `(tactic| (refine' nm_loc ?k1 ?k2 ?_ ?k4 ?k5 ?k6; (case k1 => with_reducible assumption); (case k2 => with_reducible assumption); (case k4 => rfl); (case k5 => rfl); (case k6 => decide); k_whole))
local macro_rules | `(tactic| walk_at "subscriptTail") => `(tactic| refine stopw ?_)
local macro_rules | `(tactic| walk_at "subscriptTail Name Name ref int") => `(tactic| refine stopw ?_)
local macro_rules | `(tactic| walk_at "setItem ref int") => `(tactic| refine stopw ?_)
theorem strsAre_set : ∀ {vs : List Value} {ws : List Str} (i : Nat) (y : Str) (t : Tok), StrsAre vs ws → StrsAre (vs.set i (.str y t)) (ws.set i y)
  | _, _, _, y, t, .nil => .nil
  | _, _, 0, y, t, .cons z u r => .cons y t r
  | _, _, i + 1, y, t, .cons z u r => .cons z u (strsAre_set i y t r)
theorem strsAre_len {vs : List Value} {ws : List Str} (h : StrsAre vs ws) : vs.length = ws.length := h.len_eq

section
variable {w : World} {A : Around} {E : Value → Shared → Prop} {s : Shared} {g : Heap} {L H : Addr} {m : Str → Option Value} {vs : List Value} {cur : List Str} {n i : Nat}
theorem set_str {t : Tok} {x : Str} {tx : Tok} {Q : Unit → Shared → Prop} (F : Fr g L s.heap m) (N : News g L s.heap [(H, listOf vs.toArray n)]) (hsa : StrsAre vs cur) (hi : i < cur.length) (hl : cur.length ≤ 1000)
    (h : ∀ h' vs', Fr g L h' m → News g L h' [(H, listOf vs'.toArray n)] → StrsAre vs' (cur.set i x) → Q () { s with heap := h' }) :
    wpAny (model PP w) A (setItem (.ref H) (.int i t) (.str x tx)) Q E s := by
  have z := N _ (.head _)
  have hlen := strsAre_len hsa
  refine ki_setAt z.1 (Int.natCast_nonneg _) (by omega) (by simp; omega) (h _ (vs.set i (.str x tx)) (F.change (Heap.SameBut.update ..) z.2.1 z.2.2) ?_ (strsAre_set i x tx hsa))
  refine ki_turn (pre := []) (post := []) _ N (fun _ h => by cases h) (fun _ h => by cases h) ?_ ?_
  · simp
  · simp
theorem sub_str {value slice : Expr} {t : Tok} {k : Int} {Q : Value → Shared → Prop} (N : News g L s.heap [(H, listOf vs.toArray n)]) (hsa : StrsAre vs cur) (hk : k = i) (hi : i < cur.length) (hl : cur.length ≤ 1000)
    (h : ∀ u, Q (.str (cur.getD i Str.empty) u) s)
    (hs : subscripted slice false (.ref H) (.int k t) = operate [.ref H, .int k t] (getItem (.ref H) (.int k t)) := by with_unfolding_all rfl) (hg : ∀ r, letTemporaryGo value (.ref H) r = pure () := by intro _; with_unfolding_all rfl) :
    wpAny (model PP w) A (subscriptTail value slice (.ref H) (.int k t)) Q E s := by
  subst hk
  refine item_strsA (N.isList (.head _)) hsa (Int.natCast_nonneg _) (by omega) (by omega) (fun u => ?_) hs hg
  exact h u
end
/-- order of texts -/
def sl (x y : Str) : Bool := decide (x.cps.toList < y.cps.toList)
def sdF (xs : List Str) (pos : Nat) : List Str :=
  if pos = 0 then xs else
    if sl (xs.getD pos Str.empty) (xs.getD ((pos - 1) / 2) Str.empty) = true then
      sdF ((xs.set pos (xs.getD ((pos - 1) / 2) Str.empty)).set ((pos - 1) / 2) (xs.getD pos Str.empty)) ((pos - 1) / 2)
    else xs
termination_by pos
decreasing_by omega
theorem getD_set_eq {xs : List Str} {i : Nat} {x : Str} (h : i < xs.length) : (xs.set i x).getD i Str.empty = x := by simp [List.getD, h]
theorem getD_set_ne {xs : List Str} {i j : Nat} {x : Str} (h : i ≠ j) : (xs.set i x).getD j Str.empty = xs.getD j Str.empty := by simp [List.getD, h]
theorem set_getD (xs : List Str) (i : Nat) : xs.set i (xs.getD i Str.empty) = xs := by
  apply List.ext_getElem?
  intro j
  by_cases h : i = j
  · subst h
    by_cases h2 : i < xs.length
    · simp [h2]
    · simp [h2]
  · simp [h]
theorem sdF_up {cur : List Str} {pos : Nat} {x : Str} (h0 : pos ≠ 0) (hp : pos < cur.length) (hlt : sl x (cur.getD ((pos - 1) / 2) Str.empty) = true) :
    sdF (cur.set pos x) pos = sdF ((cur.set pos (cur.getD ((pos - 1) / 2) Str.empty)).set ((pos - 1) / 2) x) ((pos - 1) / 2) := by
  rw [sdF, if_neg h0, getD_set_eq hp, getD_set_ne (by omega), if_pos hlt, List.set_set]
theorem sdF_stop {cur : List Str} {pos : Nat} {x : Str} (hp : pos < cur.length) (hlt : pos = 0 ∨ sl x (cur.getD ((pos - 1) / 2) Str.empty) = false) : sdF (cur.set pos x) pos = cur.set pos x := by
  rw [sdF]
  split
  · rfl
  · rename_i h0
    rw [getD_set_eq hp, getD_set_ne (by omega), if_neg]
    rcases hlt with h | h
    · exact absurd h h0
    · rw [h]; simp
theorem half_int (p : Nat) (h : p ≠ 0) : ((p : Int) - 1).fdiv (2 ^ Int.toNat 1) = (((p - 1) / 2 : Nat) : Int) := by
  rw [show (2 : Int) ^ Int.toNat 1 = 2 from rfl, Int.fdiv_eq_ediv_of_nonneg _ (by decide)]
  omega

def SdJ (H : Addr) (x : Str) (N : Nat) (t0 : Tok) (out : List Str) (k : Nat) (m : Str → Option Value) (news : List (Addr × Obj)) : Prop :=
  ∃ (pos : Nat) (t tx : Tok) (vs : List Value) (cur : List Str) (n : Nat), m (Str.ofString "pos") = some (.int pos t) ∧ m (Str.ofString "newitem") = some (.str x tx) ∧ m (Str.ofString "heap") = some (.ref H) ∧ m (Str.ofString "startpos") = some (.int 0 t0) ∧
    news = [(H, listOf vs.toArray n)] ∧ StrsAre vs cur ∧ cur.length = N ∧ pos < N ∧ pos ≤ k ∧ sdF (cur.set pos x) pos = out
theorem siftdown_spec {w : World} {mg mb : Str → Option Value} {A : Around} {E : Value → Shared → Prop} {s : Shared} {b : Heap} {H : Addr} {vs : List Value} {xs : List Str} {n pos : Nat} {t0 t1 : Tok} {Q : Value → Shared → Prop}
    (G : Gd w mg mb b) (hb : Ext b s.heap) (hH : b.get? H = none) (hoH : s.heap.get? H = some (listOf vs.toArray n)) (R : Room 0 A) (hsa : StrsAre vs xs) (hp : pos < xs.length) (hl : xs.length ≤ 1000)
    (h : ∀ h' tk vs' n', ExtB H s.heap h' → h'.get? H = some (listOf vs'.toArray n') → StrsAre vs' (sdF xs pos) → Q .none { s with heap := h', toks := tk }) :
    wpAny (model PP w) A (call (.ref 86) [.ref H, .int 0 t0, .int pos t1]) Q E s := by
  refine' enterH (binds := [(Str.ofString "heap", .ref H), (Str.ofString "startpos", .int 0 t0), (Str.ofString "pos", .int pos t1)]) G hb hH hoH R ?ho ?hc ?hb ?hl ?_ ?c1 ?c2 ?c3 ?c4
  case ho => exact rfl
  case hc => exact rfl
  case hb => exact BindsTo.of_eq rfl
  case hl => exact locs rfl
  case c1 => decide
  case c2 => rfl
  case c3 => rfl
  case c4 => rfl
  intro g L' h₁ G2 hg hgH F N
  have KX : (hd.heap_39 w.params).In g := G2.X
  have TX := G2.T
  try dsimp only
  walk_at "go"
  unfold StopW
  refine sub_str N hsa rfl hp hl fun tx => ?_
  walk_at "go"
  unfold StopW
  rename Fr g L' _ _ => F2
  rename News g L' _ _ => N2
  refine While_inv2 (n₀ := pos) (SdJ H (xs.getD pos Str.empty) xs.length t0 (sdF xs pos)) F2 N2 ?a1 ?a2 PassesOwn.never
  case a1 => exact ⟨pos, t1, _, vs, xs, n, rfl, rfl, rfl, rfl, rfl, by assumption, rfl, hp, Nat.le_refl _, by rw [set_getD]⟩
  case a2 =>
    rintro k m₁ news₁ h₂ tk₂ F3 N3 ⟨pos', t', tx', vs', cur, n', hm1, hm2, hm3, hm4, rfl, hsa', hlen, hp', hk, hout⟩
    walk_at "go"
    · rename (0 : Int) < _ => hpos
      have h0 : pos' ≠ 0 := by omega
      unfold StopW
      rename Fr g L' _ _ => F4
      rename News g L' _ _ => N4
      refine sub_str N4 hsa' (half_int pos' h0) (by omega) (by omega) fun tx => ?_
      walk_at "go"
      · rename _ < _ => hlt
        unfold StopW
        refine set_str (by assumption) (by assumption) hsa' (by omega) (by omega) fun h' vs2 F5 N5 hsa2 => ?_
        walk_at "go"
        rename Fr g L' _ _ => F6
        rename News g L' _ _ => N6
        refine ⟨_, _, _, _, (pos' - 1) / 2, rfl, F6, N6, by omega, (pos' - 1) / 2, _, tx', vs2, _, n', (if_pos rfl).trans (by rw [half_int pos' h0]), hm2, hm3, hm4, rfl, hsa2, by rw [List.length_set]; exact hlen, by omega, Nat.le_refl _, ?_⟩
        rw [← sdF_up h0 (by omega) (decide_eq_true hlt)]
        exact hout
      · show wpAny _ _ (execs _ _) _ _ _
        rename ¬ _ < _ => hlt
        walk_at "go"
        unfold StopW
        refine set_str (by assumption) (by assumption) hsa' (by omega) (by omega) fun h' vs2 F5 N5 hsa2 => ?_
        walk_at "go"
        refine h _ _ vs2 _ (fun p o hp e => F5.keep p o (hg p o hp e)) (N5.get (.head _)) ?_
        rw [← hout, sdF_stop (by omega) (.inr (decide_eq_false hlt))]
        exact hsa2
    · unfold StopW
      refine set_str (by assumption) (by assumption) hsa' (by omega) (by omega) fun h' vs2 F5 N5 hsa2 => ?_
      walk_at "go"
      refine h _ _ vs2 _ (fun p o hp e => F5.keep p o (hg p o hp e)) (N5.get (.head _)) ?_
      rw [← hout, sdF_stop (by omega) (.inl (by omega))]
      exact hsa2

end Mine
end

section
set_option maxRecDepth 100000
set_option maxHeartbeats 4000000
namespace Mine
local macro_rules | `(tactic| walk_at "go") => `(tactic| repeat' (first | walk1 | (dsimp only; walk1)))
local macro_rules | `(tactic| walk_at "look") => `(tactic| first | assumption | exact rfl | exact if_pos rfl | (refine Eq.trans (if_neg (by decide)) ?_; walk_at "look"))
local macro_rules | `(tactic| walk_at "eval Name") => `(tactic| (refine' ld ?k1 ?k2 ?_; (case k1 => with_reducible assumption); (case k2 => ((try dsimp only); walk_at "look")); k_whole))
local macro_rules | `(tactic| walk_at "exec For Name Call cons nil") => `(tactic| (refine wpAny_For ?_ (fun _ => rfl)))
local macro_rules | `(tactic| walk_at "exec For Name Name cons nil") => `(tactic| (refine wpAny_For ?_ (fun _ => rfl)))
local macro_rules | `(tactic| walk_at "binaryOp Add str str") => `(tactic| (refine PyProof.Rows.add_str ?h ?z; (case z => (simp only [Str.length_append, sizeLine_eq]; omega)); (intro _ _)))
local macro_rules | `(tactic| walk_at "exec While Compare cons nil") => `(tactic| refine stopw ?_)
local macro_rules | `(tactic| walk_at "eval Name") => `(tactic| (refine' nm_loc ?k1 ?k2 ?_ ?k4 ?k5 ?k6; (case k1 => with_reducible assumption); (case k2 => with_reducible assumption); (case k4 => rfl); (case k5 => rfl); (case k6 => decide); k_whole))
local macro_rules | `(tactic| walk_at "subscriptTail") => `(tactic| refine stopw ?_)
local macro_rules | `(tactic| walk_at "subscriptTail Name Name ref int") => `(tactic| refine stopw ?_)
local macro_rules | `(tactic| walk_at "setItem ref int") => `(tactic| refine stopw ?_)
/-- the child that goes up -/
def chF (xs : List Str) (pos : Nat) : Nat := if 2 * pos + 2 < xs.length ∧ sl (xs.getD (2 * pos + 1) Str.empty) (xs.getD (2 * pos + 2) Str.empty) = false then 2 * pos + 2 else 2 * pos + 1
theorem chF_gt (xs : List Str) (pos : Nat) : pos < chF xs pos := by unfold chF; split <;> omega
theorem chF_lt {xs : List Str} {pos : Nat} (h : 2 * pos + 1 < xs.length) : chF xs pos < xs.length := by
  unfold chF
  split
  · omega
  · exact h
def suF (xs : List Str) (pos : Nat) : List Str :=
  if h : 2 * pos + 1 < xs.length then suF ((xs.set pos (xs.getD (chF xs pos) Str.empty)).set (chF xs pos) (xs.getD pos Str.empty)) (chF xs pos)
  else sdF xs pos
termination_by xs.length - pos
decreasing_by
  have := chF_gt xs pos
  have := chF_lt h
  simp only [List.length_set]
  omega
theorem chF_set {cur : List Str} {pos : Nat} {x : Str} : chF (cur.set pos x) pos = chF cur pos := by
  unfold chF
  rw [List.length_set, getD_set_ne (by omega), getD_set_ne (by omega)]
theorem suF_down {cur : List Str} {pos : Nat} {x : Str} (hp : 2 * pos + 1 < cur.length) :
    suF (cur.set pos x) pos = suF ((cur.set pos (cur.getD (chF cur pos) Str.empty)).set (chF cur pos) x) (chF cur pos) := by
  have := chF_gt cur pos
  rw [suF, dif_pos (by rw [List.length_set]; exact hp), chF_set, getD_set_eq (by omega), getD_set_ne (by omega), List.set_set]
theorem suF_stop {cur : List Str} {pos : Nat} {x : Str} (hp : ¬ 2 * pos + 1 < cur.length) : suF (cur.set pos x) pos = sdF (cur.set pos x) pos := by
  rw [suF, dif_neg (by rw [List.length_set]; exact hp)]

theorem int_eq {i j : Int} {t : Tok} (h : i = j) : some (Value.int i t) = some (Value.int j t) := by rw [h]
def SuJ (H : Addr) (x : Str) (N : Nat) (out : List Str) (k : Nat) (m : Str → Option Value) (news : List (Addr × Obj)) : Prop :=
  ∃ (pos : Nat) (t t0 t2 t3 tx : Tok) (vs : List Value) (cur : List Str) (n : Nat), m (Str.ofString "pos") = some (.int pos t) ∧ m (Str.ofString "childpos") = some (.int ((2 * pos + 1 : Nat) : Int) t2) ∧ m (Str.ofString "newitem") = some (.str x tx) ∧ m (Str.ofString "heap") = some (.ref H) ∧ m (Str.ofString "startpos") = some (.int 0 t0) ∧ m (Str.ofString "endpos") = some (.int N t3) ∧
    news = [(H, listOf vs.toArray n)] ∧ StrsAre vs cur ∧ cur.length = N ∧ pos < N ∧ N ≤ k + pos ∧ suF (cur.set pos x) pos = out

theorem siftup_spec {w : World} {mg mb : Str → Option Value} {A : Around} {E : Value → Shared → Prop} {s : Shared} {b : Heap} {H : Addr} {vs : List Value} {xs : List Str} {n : Nat} {t0 : Tok} {Q : Value → Shared → Prop}
    (G : Gd w mg mb b) (hb : Ext b s.heap) (hH : b.get? H = none) (hoH : s.heap.get? H = some (listOf vs.toArray n)) (R : Room 1 A) (hsa : StrsAre vs xs) (hp : 0 < xs.length) (hl : xs.length ≤ 1000)
    (h : ∀ h' tk vs' n', ExtB H s.heap h' → h'.get? H = some (listOf vs'.toArray n') → StrsAre vs' (suF xs 0) → Q .none { s with heap := h', toks := tk }) :
    wpAny (model PP w) A (call (.ref 93) [.ref H, .int 0 t0]) Q E s := by
  refine' enterH (binds := [(Str.ofString "heap", .ref H), (Str.ofString "pos", .int 0 t0)]) G hb hH hoH R ?ho ?hc ?hb ?hl ?_ ?c1 ?c2 ?c3 ?c4
  case ho => exact rfl
  case hc => exact rfl
  case hb => exact BindsTo.of_eq rfl
  case hl => exact locs rfl
  case c1 => decide
  case c2 => rfl
  case c3 => rfl
  case c4 => rfl
  intro g L' h₁ G2 hg hgH F N
  have KX : (hd.heap_39 w.params).In g := G2.X
  have TX := G2.T
  try dsimp only
  walk_at "go"
  unfold StopW
  refine sub_str (by assumption) (by assumption) (show (0 : Int) = ((0 : Nat) : Int) from rfl) hp hl fun tx => ?_
  walk_at "go"
  unfold StopW
  rename Fr g L' _ _ => F2
  rename News g L' _ _ => N2
  refine While_inv2 (n₀ := xs.length) (SuJ H (xs.getD 0 Str.empty) xs.length (suF xs 0)) F2 N2 ?a1 ?a2 PassesOwn.never
  case a1 => exact ⟨0, _, _, _, _, _, vs, xs, n, rfl, rfl, rfl, rfl, rfl, rfl, rfl, by assumption, rfl, hp, by omega, by rw [set_getD]⟩
  case a2 =>
    rintro k m₁ news₁ h₂ tk₂ F3 N3 ⟨pos', t', t0', t2, t3, tx', vs', cur, n', hm1, hm2, hm3, hm4, hm5, hm6, rfl, hsa', hlen, hp', hk, hout⟩
    walk_at "go"
    · unfold StopW
      refine sub_str (i := 2 * pos' + 1) (by assumption) hsa' rfl (by omega) (by omega) fun ta => ?_
      walk_at "go"
      unfold StopW
      refine sub_str (i := 2 * pos' + 2) (by assumption) hsa' (by omega) (by omega) (by omega) fun tb => ?_
      walk_at "go"
      · rename _ < _ => hlt
        have hc : chF cur pos' = 2 * pos' + 1 := by
          unfold chF
          rw [if_neg]
          rintro ⟨_, q⟩
          rw [show sl _ _ = true from decide_eq_true hlt] at q
          cases q
        unfold StopW
        refine sub_str (i := 2 * pos' + 1) (by assumption) hsa' (rfl) (by omega) (by omega) fun tx2 => ?_
        walk_at "go"
        unfold StopW
        refine set_str (by assumption) (by assumption) hsa' (by omega) (by omega) fun h' vs2 F5 N5 hsa2 => ?_
        walk_at "go"
        rename Fr g L' _ _ => F6
        rename News g L' _ _ => N6
        refine ⟨_, _, _, _, k - 1, rfl, F6, N6, by omega, 2 * pos' + 1, _, _, _, _, _, vs2, _, n', (if_neg (by decide)).trans ((if_pos rfl).trans (int_eq ?_)), (if_pos rfl).trans (int_eq ?_), hm3, hm4, hm5, hm6, rfl, hsa2, by rw [List.length_set]; exact hlen, by omega, by omega, ?_⟩
        · omega
        · omega
        · rw [← hout, suF_down (cur := cur) (pos := pos') (by omega), hc]
      · rename ¬ _ < _ => hlt
        have hc : chF cur pos' = 2 * pos' + 2 := by
          unfold chF
          rw [if_pos ⟨by omega, decide_eq_false hlt⟩]
        unfold StopW
        refine sub_str (i := 2 * pos' + 2) (by assumption) hsa' (by omega) (by omega) (by omega) fun tx2 => ?_
        walk_at "go"
        unfold StopW
        refine set_str (by assumption) (by assumption) hsa' (by omega) (by omega) fun h' vs2 F5 N5 hsa2 => ?_
        walk_at "go"
        rename Fr g L' _ _ => F6
        rename News g L' _ _ => N6
        refine ⟨_, _, _, _, k - 1, rfl, F6, N6, by omega, 2 * pos' + 2, _, _, _, _, _, vs2, _, n', (if_neg (by decide)).trans ((if_pos rfl).trans (int_eq ?_)), (if_pos rfl).trans (int_eq ?_), hm3, hm4, hm5, hm6, rfl, hsa2, by rw [List.length_set]; exact hlen, by omega, by omega, ?_⟩
        · omega
        · omega
        · rw [← hout, suF_down (cur := cur) (pos := pos') (by omega), hc]
    · have hc : chF cur pos' = 2 * pos' + 1 := by
        unfold chF
        rw [if_neg]
        rintro ⟨q, _⟩
        omega
      unfold StopW
      refine sub_str (i := 2 * pos' + 1) (by assumption) hsa' (rfl) (by omega) (by omega) fun tx2 => ?_
      walk_at "go"
      unfold StopW
      refine set_str (by assumption) (by assumption) hsa' (by omega) (by omega) fun h' vs2 F5 N5 hsa2 => ?_
      walk_at "go"
      rename Fr g L' _ _ => F6
      rename News g L' _ _ => N6
      refine ⟨_, _, _, _, k - 1, rfl, F6, N6, by omega, 2 * pos' + 1, _, _, _, _, _, vs2, _, n', (if_neg (by decide)).trans ((if_pos rfl).trans (int_eq ?_)), (if_pos rfl).trans (int_eq ?_), hm3, hm4, hm5, hm6, rfl, hsa2, by rw [List.length_set]; exact hlen, by omega, by omega, ?_⟩
      · omega
      · omega
      · rw [← hout, suF_down (cur := cur) (pos := pos') (by omega), hc]
    · unfold StopW
      refine set_str (by assumption) (by assumption) hsa' (by omega) (by omega) fun h' vs2 F5 N5 hsa2 => ?_
      walk_at "go"
      refine siftdown_spec G2 (Fr.keep (by assumption)) hgH (News.get (by assumption) (.head _)) R.deeper hsa2 (by rw [List.length_set]; omega) (by rw [List.length_set]; omega) fun h6 tk6 vs6 n6 hk6 ho6 hsa6 => ?_
      walk_at "go"
      refine h _ _ vs6 _ (fun p o hp e => hk6 p o hp (F5.keep p o (hg p o hp e))) ho6 ?_
      rw [← hout, suF_stop (by omega)]
      exact hsa6

end Mine
end

section
set_option maxRecDepth 100000
set_option maxHeartbeats 4000000
namespace Mine
local macro_rules | `(tactic| walk_at "go") => `(tactic| repeat' (first | walk1 | (dsimp only; walk1)))
local macro_rules | `(tactic| walk_at "look") => `(tactic| first | assumption | exact rfl | exact if_pos rfl | (refine Eq.trans (if_neg (by decide)) ?_; walk_at "look"))
local macro_rules | `(tactic| walk_at "eval Name") => `(tactic| (refine' ld ?k1 ?k2 ?_; (case k1 => with_reducible assumption); (case k2 => ((try dsimp only); walk_at "look")); k_whole))
local macro_rules | `(tactic| walk_at "exec For Name Call cons nil") => `(tactic| (refine wpAny_For ?_ (fun _ => rfl)))
local macro_rules | `(tactic| walk_at "exec For Name Name cons nil") => `(tactic| (refine wpAny_For ?_ (fun _ => rfl)))
local macro_rules | `(tactic| walk_at "binaryOp Add str str") => `(tactic| (refine PyProof.Rows.add_str ?h ?z; (case z => (simp only [Str.length_append, sizeLine_eq]; omega)); (intro _ _)))
local macro_rules | `(tactic| walk_at "exec While Compare cons nil") => `(tactic| refine stopw ?_)
local macro_rules | `(tactic| walk_at "eval Name") => `(tactic| (refine' nm_loc ?k1 ?k2 ?_ ?k4 ?k5 ?k6; (case k1 => with_reducible assumption); (case k2 => with_reducible assumption); (case k4 => rfl); (case k5 => rfl); (case k6 => decide); k_whole))
local macro_rules | `(tactic| walk_at "subscriptTail") => `(tactic| refine stopw ?_)
local macro_rules | `(tactic| walk_at "subscriptTail Name Name ref int") => `(tactic| refine stopw ?_)
local macro_rules | `(tactic| walk_at "subscriptTail Name Constant ref int") => `(tactic| refine stopw ?_)
local macro_rules | `(tactic| walk_at "setItem ref int") => `(tactic| refine stopw ?_)
local macro_rules | `(tactic| walk_at "call builtin:list.append") => `(tactic| refine stopw ?_)
local macro_rules | `(tactic| walk_at "call builtin:list.pop") => `(tactic| refine stopw ?_)
theorem strsAre_split : ∀ {vs : List Value} {ys : List Str} {x : Str}, StrsAre vs (ys ++ [x]) → ∃ p t, vs = p ++ [Value.str x t] ∧ StrsAre p ys
  | _, [], x, .cons _ t .nil => ⟨[], t, rfl, .nil⟩
  | _, y :: ys, x, .cons _ t r => by
    obtain ⟨p, u, rfl, h⟩ := strsAre_split (ys := ys) r
    exact ⟨.str y t :: p, u, rfl, .cons y t h⟩
theorem pop_str {w : World} {A : Around} {E : Value → Shared → Prop} {s : Shared} {g : Heap} {L H : Addr} {m : Str → Option Value} {vs : List Value} {ys : List Str} {x : Str} {n : Nat} {Q : Value → Shared → Prop}
    (F : Fr g L s.heap m) (N : News g L s.heap [(H, listOf vs.toArray n)]) (hsa : StrsAre vs (ys ++ [x])) (hl : ys.length ≤ 900)
    (h : ∀ h' vs' t n', Fr g L h' m → News g L h' [(H, listOf vs'.toArray n')] → StrsAre vs' ys → Q (.str x t) { s with heap := h' }) :
    wpAny (model PP w) A (call (.builtin "list.pop") [.ref H]) Q E s := by
  obtain ⟨p, t, rfl, hp⟩ := strsAre_split hsa
  have hlen := strsAre_len hp
  refine kl_pop F N (p := p) (y := .str x t) (by simpa using kpa_last (.str x t) p) (news' := [(H, listOf p.toArray (n + 1))]) (.head (fun _ h => by cases h)) (by rw [sizeLine_eq]; simp; omega) fun h' F' N' => h h' p t _ F' N' hp
theorem heappush_spec {w : World} {mg mb : Str → Option Value} {A : Around} {E : Value → Shared → Prop} {s : Shared} {b : Heap} {H : Addr} {vs : List Value} {xs : List Str} {n : Nat} {x : Str} {t0 : Tok} {Q : Value → Shared → Prop}
    (G : Gd w mg mb b) (hb : Ext b s.heap) (hH : b.get? H = none) (hoH : s.heap.get? H = some (listOf vs.toArray n)) (R : Room 1 A) (hsa : StrsAre vs xs) (hl : xs.length ≤ 900)
    (h : ∀ h' tk vs' n', ExtB H s.heap h' → h'.get? H = some (listOf vs'.toArray n') → StrsAre vs' (sdF (xs ++ [x]) xs.length) → Q .none { s with heap := h', toks := tk }) :
    wpAny (model PP w) A (call (.ref 58) [.ref H, .str x t0]) Q E s := by
  refine' enterH (binds := [(Str.ofString "heap", .ref H), (Str.ofString "item", .str x t0)]) G hb hH hoH R ?ho ?hc ?hb ?hl ?_ ?c1 ?c2 ?c3 ?c4
  case ho => exact rfl
  case hc => exact rfl
  case hb => exact BindsTo.of_eq rfl
  case hl => exact locs rfl
  case c1 => decide
  case c2 => rfl
  case c3 => rfl
  case c4 => rfl
  intro g L' h₁ G2 hg hgH F N
  have KX : (hd.heap_39 w.params).In g := G2.X
  have TX := G2.T
  try dsimp only
  walk_at "go"
  unfold StopW
  have hlen := strsAre_len (by assumption : StrsAre vs xs)
  refine append_at (N.get (.head _)) (by simp; omega) fun h2 k2 hs2 ho2 => ?_
  have F2 := fr_mut F hs2.extBut hgH (N _ (.head _)).2.1
  have N2 : News g L' h2 [(H, listOf (vs ++ [Value.str x t0]).toArray k2)] := news_one (by rw [ho2]; simp) (N _ (.head _)).2.1 hgH
  have hsa2 : StrsAre (vs ++ [Value.str x t0]) (xs ++ [x]) := strsAre_snoc _ _ (by assumption)
  clear F N hoH
  walk_at "go"
  refine len_list (N2.isList (.head _)) (by simp; omega) ?_
  walk_at "go"
  rename Fr g L' _ _ => F3
  rename News g L' _ _ => N3
  have e1 : (((vs ++ [Value.str x t0]).toArray.size : Nat) : Int) - 1 = ((xs.length : Nat) : Int) := by simp; omega
  rw [e1]
  refine siftdown_spec G2 F3.keep hgH (N3.get (.head _)) R.deeper hsa2 (by simp) (by simp; omega) fun h6 tk6 vs6 n6 hk6 ho6 hsa6 => ?_
  walk_at "go"
  exact h _ _ vs6 _ (fun p o hp e => hk6 p o hp (F3.keep p o (hg p o hp e))) ho6 hsa6

/-- what heappop leaves and gives, of ys ++ [x] -/
def popF (ys : List Str) (x : Str) : List Str × Str := if ys.length = 0 then ([], x) else (suF (ys.set 0 x) 0, ys.getD 0 Str.empty)

theorem heappop_spec {w : World} {mg mb : Str → Option Value} {A : Around} {E : Value → Shared → Prop} {s : Shared} {b : Heap} {H : Addr} {vs : List Value} {ys : List Str} {x : Str} {n : Nat} {Q : Value → Shared → Prop}
    (G : Gd w mg mb b) (hb : Ext b s.heap) (hH : b.get? H = none) (hoH : s.heap.get? H = some (listOf vs.toArray n)) (R : Room 2 A) (hsa : StrsAre vs (ys ++ [x])) (hl : ys.length ≤ 900)
    (h : ∀ h' tk vs' n' t, ExtB H s.heap h' → h'.get? H = some (listOf vs'.toArray n') → StrsAre vs' (popF ys x).1 → Q (.str (popF ys x).2 t) { s with heap := h', toks := tk }) :
    wpAny (model PP w) A (call (.ref 65) [.ref H]) Q E s := by
  refine' enterH (binds := [(Str.ofString "heap", .ref H)]) G hb hH hoH R ?ho ?hc ?hb ?hl ?_ ?c1 ?c2 ?c3 ?c4
  case ho => exact rfl
  case hc => exact rfl
  case hb => exact BindsTo.of_eq rfl
  case hl => exact locs rfl
  case c1 => decide
  case c2 => rfl
  case c3 => rfl
  case c4 => rfl
  intro g L' h₁ G2 hg hgH F N
  have KX : (hd.heap_39 w.params).In g := G2.X
  have TX := G2.T
  try dsimp only
  walk_at "go"
  unfold StopW
  refine pop_str F N (by assumption) hl fun h2 vs2 t2 n2 F2 N2 hsa2 => ?_
  clear F N hoH
  walk_at "go"
  have hlen := strsAre_len hsa2
  refine wpAny_truthy_list (News.isList (by assumption) (.head _)) (by simp; omega) ?_
  by_cases hne' : ys.length ≠ 0
  · rw [if_pos (by cases vs2 with | nil => exact absurd hlen.symm hne' | cons a r => rfl)]
    walk_at "go"
    unfold StopW
    refine sub_str (i := 0) (by assumption) hsa2 rfl (by omega) (by omega) fun t3 => ?_
    walk_at "go"
    unfold StopW
    refine set_str (i := 0) (by assumption) (by assumption) hsa2 (by omega) (by omega) fun h3 vs3 F3 N3 hsa3 => ?_
    walk_at "go"
    rename Fr g L' _ _ => F4
    rename News g L' _ _ => N4
    refine siftup_spec G2 F4.keep hgH (N4.get (.head _)) R.deeper hsa3 (by simp; omega) (by simp; omega) fun h6 tk6 vs6 n6 hk6 ho6 hsa6 => ?_
    replace F4 := fr_mut F4 hk6 hgH (N4 _ (.head _)).2.1
    clear N4
    walk_at "go"
    rename Fr g L' _ _ => F5
    have e : popF ys x = (suF (ys.set 0 x) 0, ys.getD 0 Str.empty) := if_neg hne'
    rw [e] at h
    exact h h6 _ vs6 n6 t3 (fun p o hp e => F5.keep p o (hg p o hp e)) ho6 hsa6
  · replace hne' : ys.length = 0 := by omega
    rw [if_neg (by cases vs2 with | nil => exact Bool.false_ne_true | cons a r => simp at hlen; omega)]
    walk_at "go"
    rename Fr g L' _ _ => F4
    rename News g L' _ _ => N4
    have e : popF ys x = ([], x) := if_pos hne'
    rw [e] at h
    rw [List.length_eq_zero_iff.mp hne'] at hsa2
    exact h _ _ vs2 n2 t2 (fun p o hp e => F4.keep p o (hg p o hp e)) (N4.get (.head _)) hsa2

theorem heapreplace_spec {w : World} {mg mb : Str → Option Value} {A : Around} {E : Value → Shared → Prop} {s : Shared} {b : Heap} {H : Addr} {vs : List Value} {ys : List Str} {x : Str} {t0 : Tok} {n : Nat} {Q : Value → Shared → Prop}
    (G : Gd w mg mb b) (hb : Ext b s.heap) (hH : b.get? H = none) (hoH : s.heap.get? H = some (listOf vs.toArray n)) (R : Room 2 A) (hsa : StrsAre vs ys) (hne : 0 < ys.length) (hl : ys.length ≤ 900)
    (h : ∀ h' tk vs' n' t, ExtB H s.heap h' → h'.get? H = some (listOf vs'.toArray n') → StrsAre vs' (suF (ys.set 0 x) 0) → Q (.str (ys.getD 0 Str.empty) t) { s with heap := h', toks := tk }) :
    wpAny (model PP w) A (call (.ref 72) [.ref H, .str x t0]) Q E s := by
  refine' enterH (binds := [(Str.ofString "heap", .ref H), (Str.ofString "item", .str x t0)]) G hb hH hoH R ?ho ?hc ?hb ?hl ?_ ?c1 ?c2 ?c3 ?c4
  case ho => exact rfl
  case hc => exact rfl
  case hb => exact BindsTo.of_eq rfl
  case hl => exact locs rfl
  case c1 => decide
  case c2 => rfl
  case c3 => rfl
  case c4 => rfl
  intro g L' h₁ G2 hg hgH F N
  have KX : (hd.heap_39 w.params).In g := G2.X
  have TX := G2.T
  try dsimp only
  have hsa2 := hsa
  clear hsa
  walk_at "go"
  unfold StopW
  refine sub_str (i := 0) (by assumption) (cur := ys) (by assumption) rfl (by omega) (by omega) fun t3 => ?_
  walk_at "go"
  unfold StopW
  refine set_str (i := 0) (by assumption) (by assumption) (cur := ys) (by assumption) (by omega) (by omega) fun h3 vs3 F3 N3 hsa3 => ?_
  walk_at "go"
  rename Fr g L' _ _ => F4
  rename News g L' _ _ => N4
  refine siftup_spec G2 F4.keep hgH (N4.get (.head _)) R.deeper hsa3 (by simp; omega) (by simp; omega) fun h6 tk6 vs6 n6 hk6 ho6 hsa6 => ?_
  replace F4 := fr_mut F4 hk6 hgH (N4 _ (.head _)).2.1
  clear N4
  walk_at "go"
  rename Fr g L' _ _ => F5
  exact h h6 _ vs6 n6 t3 (fun p o hp e => F5.keep p o (hg p o hp e)) ho6 hsa6

/-- what heappushpop leaves and gives -/
def pushpopF (ys : List Str) (x : Str) : List Str × Str := if 0 < ys.length ∧ sl (ys.getD 0 Str.empty) x = true then (suF (ys.set 0 x) 0, ys.getD 0 Str.empty) else (ys, x)

theorem heappushpop_spec {w : World} {mg mb : Str → Option Value} {A : Around} {E : Value → Shared → Prop} {s : Shared} {b : Heap} {H : Addr} {vs : List Value} {ys : List Str} {x : Str} {t0 : Tok} {n : Nat} {Q : Value → Shared → Prop}
    (G : Gd w mg mb b) (hb : Ext b s.heap) (hH : b.get? H = none) (hoH : s.heap.get? H = some (listOf vs.toArray n)) (R : Room 2 A) (hsa : StrsAre vs ys) (hl : ys.length ≤ 900)
    (h : ∀ h' tk vs' n' t, ExtB H s.heap h' → h'.get? H = some (listOf vs'.toArray n') → StrsAre vs' (pushpopF ys x).1 → Q (.str (pushpopF ys x).2 t) { s with heap := h', toks := tk }) :
    wpAny (model PP w) A (call (.ref 79) [.ref H, .str x t0]) Q E s := by
  refine' enterH (binds := [(Str.ofString "heap", .ref H), (Str.ofString "item", .str x t0)]) G hb hH hoH R ?ho ?hc ?hb ?hl ?_ ?c1 ?c2 ?c3 ?c4
  case ho => exact rfl
  case hc => exact rfl
  case hb => exact BindsTo.of_eq rfl
  case hl => exact locs rfl
  case c1 => decide
  case c2 => rfl
  case c3 => rfl
  case c4 => rfl
  intro g L' h₁ G2 hg hgH F N
  have KX : (hd.heap_39 w.params).In g := G2.X
  have TX := G2.T
  try dsimp only
  have hlen := strsAre_len hsa
  walk_at "go"
  · rename vs.isEmpty = true => hem
    have hne' : ys.length = 0 := by
      rw [List.isEmpty_iff.mp hem] at hlen
      exact hlen.symm
    have e : pushpopF ys x = (ys, x) := if_neg (by omega)
    rw [e] at h
    exact h _ _ vs n t0 (fun p o hp e => F.keep p o (hg p o hp e)) (N.get (.head _)) (by assumption)
  · rename vs.isEmpty = false => hem
    have hne' : 0 < ys.length := by
      cases vs with
      | nil => cases hem
      | cons a r => rw [← hlen]; exact Nat.succ_pos _
    unfold StopW
    refine sub_str (i := 0) (by assumption) (cur := ys) (by assumption) rfl (by omega) (by omega) fun t3 => ?_
    walk_at "go"
    · rename _ < _ => hlt
      unfold StopW
      refine sub_str (i := 0) (by assumption) (cur := ys) (by assumption) rfl (by omega) (by omega) fun t4 => ?_
      walk_at "go"
      rename Fr g L' _ _ => F4
      rename News g L' _ _ => N4
      refine wpAny_assign_Tuple (show (A.deeper _).handled = none from R.h) ⟨_, N4.get (.head _), rfl, _, rfl⟩ rfl rfl fun h5 hx5 => ?_
      have F5 := F4.keeps (fun p o e => hx5 p o (Nat.ne_of_lt (Heap.lt_size e)) e)
      have N5 : News g L' h5 [(H, listOf vs.toArray n)] := (News.keepsAll (fun p hp => N4 p (.tail _ hp)) (fun p o e => hx5 p o (Nat.ne_of_lt (Heap.lt_size e)) e))
      clear F4 N4 hx5
      dsimp only
      walk_at "go"
      unfold StopW
      refine set_str (i := 0) (by assumption) (by assumption) (cur := ys) (by assumption) (by omega) (by omega) fun h3 vs3 F3 N3 hsa3 => ?_
      walk_at "go"
      rename Fr g L' _ _ => F4
      rename News g L' _ _ => N4
      refine siftup_spec G2 F4.keep hgH (N4.get (.head _)) R.deeper hsa3 (by simp; omega) (by simp; omega) fun h6 tk6 vs6 n6 hk6 ho6 hsa6 => ?_
      replace F4 := fr_mut F4 hk6 hgH (N4 _ (.head _)).2.1
      clear N4
      walk_at "go"
      rename Fr g L' _ _ => F5
      have e : pushpopF ys x = (suF (ys.set 0 x) 0, ys.getD 0 Str.empty) := if_pos ⟨hne', decide_eq_true hlt⟩
      rw [e] at h
      exact h h6 _ vs6 n6 t4 (fun p o hp e => F5.keep p o (hg p o hp e)) ho6 hsa6
    · rename ¬ _ < _ => hlt
      have e : pushpopF ys x = (ys, x) := if_neg (by rintro ⟨_, q⟩; exact hlt (of_decide_eq_true q))
      rw [e] at h
      exact h _ _ vs n t0 (fun p o hp e => F.keep p o (hg p o hp e)) (N.get (.head _)) (by assumption)

end Mine
end

section
set_option maxRecDepth 100000
set_option maxHeartbeats 4000000
namespace Mine
local macro_rules | `(tactic| walk_at "go") => `(tactic| repeat' (first | walk1 | (dsimp only; walk1)))
local macro_rules | `(tactic| walk_at "look") => `(tactic| first | assumption | exact rfl | exact if_pos rfl | (refine Eq.trans (if_neg (by decide)) ?_; walk_at "look"))
local macro_rules | `(tactic| walk_at "eval Name") => `(tactic| (refine' ld ?k1 ?k2 ?_; (case k1 => with_reducible assumption); (case k2 => ((try dsimp only); walk_at "look")); k_whole))
local macro_rules | `(tactic| walk_at "exec For Name Call cons nil") => `(tactic| (refine wpAny_For ?_ (fun _ => rfl)))
local macro_rules | `(tactic| walk_at "exec For Name Name cons nil") => `(tactic| (refine wpAny_For ?_ (fun _ => rfl)))
local macro_rules | `(tactic| walk_at "binaryOp Add str str") => `(tactic| (refine PyProof.Rows.add_str ?h ?z; (case z => (simp only [Str.length_append, sizeLine_eq]; omega)); (intro _ _)))
local macro_rules | `(tactic| walk_at "exec While Compare cons nil") => `(tactic| refine stopw ?_)
local macro_rules | `(tactic| walk_at "eval Name") => `(tactic| (refine' nm_loc ?k1 ?k2 ?_ ?k4 ?k5 ?k6; (case k1 => with_reducible assumption); (case k2 => with_reducible assumption); (case k4 => rfl); (case k5 => rfl); (case k6 => decide); k_whole))
local macro_rules | `(tactic| walk_at "subscriptTail") => `(tactic| refine stopw ?_)
local macro_rules | `(tactic| walk_at "subscriptTail Name Name ref int") => `(tactic| refine stopw ?_)
local macro_rules | `(tactic| walk_at "subscriptTail Name Constant ref int") => `(tactic| refine stopw ?_)
local macro_rules | `(tactic| walk_at "call builtin:list.pop") => `(tactic| refine stopw ?_)

/-- an IndexError is under way, in a heap where B stays -/
def Fly (B : Heap) (l : List Env) (e : Addr) (h : Heap) : Prop := ∃ a0, Heap.FlyingW B l e (.type "IndexError") a0 h

theorem leave_new {M : Model} {A : Around} {E : Value → Shared → Prop} {s : Shared} {B h : Heap} {env : Env} {outer : List Env} {L e : Addr} {Q : Unit → Shared → Prop}
    (hA : A.frames = some outer) (hf : env.frame = some L) (hkb : B.StaysIn h) (hl : h.FunFrames B (env :: outer)) (hx : Heap.NewExc h s.heap e "IndexError")
    (hQ : ∀ h', Fly B outer e h' → h.UpToSlots h' → Q () { s with heap := h' }) : wpAny M (A.deeper env) (leaving env (.ref e)) Q E s := by
  obtain ⟨ob, tp, he, hcls, hd⟩ := hx.there
  have hen : B.get? e = none := by
    cases q : B.get? e with
    | none => rfl
    | some o => have := hkb e o q; rw [hx.new] at this; cases this
  refine wpAny_leaving_firstW (a0 := tp) (Around.frames_deeper hA) (hl.of_keeps fun b o hb _ => ⟨o, hx.keeps b o hb, rfl⟩) hf he (fun b o hb => hx.keeps b o (hkb b o hb)) hen hd rfl rfl fun h' hL => ?_
  obtain ⟨k1, ⟨_, _, k2⟩, k3, k4⟩ := hL
  exact hQ h' ⟨tp, k1, hen, k2, by rw [← hcls]; exact k3⟩ ((Heap.UpToSlots.of_keeps hx.keeps).trans k4)

theorem leave_fun {M : Model} {A : Around} {E : Value → Shared → Prop} {s s' : Shared} {B h₁ : Heap} {env : Env} {outer : List Env} {L e : Addr} {m : Str → Option Value} {Q : Unit → Shared → Prop}
    (hA : A.frames = some outer) (hB : B.StaysIn s.heap) (hfr : s.heap.FunFrames B outer) (F : Fr s.heap L h₁ m) (eL : L = s.heap.objs.size) (hx : Heap.NewExc h₁ s'.heap e "IndexError") (hf : env.frame = some L) (hm : env.scope.kind ≠ .module)
    (hQ : ∀ h', Fly B outer e h' → s.heap.UpToSlots h' → Q () { s' with heap := h' }) : wpAny M (A.deeper env) (leaving env (.ref e)) Q E s' := by
  refine leave_new (B := B) hA hf (fun b o q => F.keep b o (hB b o q)) ⟨hm, ?_, hfr.of_keeps fun b o e _ => ⟨o, F.keep b o e, rfl⟩⟩ hx fun h' hf hs => hQ h' hf ((Heap.UpToSlots.of_keeps F.keep).trans hs)
  obtain ⟨oL, es, ep, hoL, hdL, _⟩ := F.ns
  refine ⟨L, oL, hf, ?_, hoL, fun vs q => by rw [hdL] at q; cases q⟩
  cases q : B.get? L with
  | none => rfl
  | some o => have := Heap.lt_size (hB _ _ q); rw [eL] at this; exact absurd this (Nat.lt_irrefl _)

theorem heappop_raise {w : World} {mg mb : Str → Option Value} {A : Around} {E : Value → Shared → Prop} {s : Shared} {B : Heap} {outer : List Env} {H : Addr} {n : Nat} {Q : Value → Shared → Prop}
    (G : Gd w mg mb s.heap) (hoH : s.heap.get? H = some (listOf #[] n)) (R : Room 0 A) (hA : A.frames = some outer) (hB : B.StaysIn s.heap) (hfr : s.heap.FunFrames B outer)
    (hE : ∀ e h' tk, Fly B outer e h' → s.heap.UpToSlots h' → E (.ref e) { s with heap := h', toks := tk }) :
    wpAny (model PP w) A (call (.ref 65) [.ref H]) Q E s := by
  refine' enter (binds := [(Str.ofString "heap", .ref H)]) G (by have := R.d; simp only [recursionLimit]; omega) ?ho ?hc ?hb ?hl ?_ ?c1 ?c2 ?c3 ?c4
  case ho => exact rfl
  case hc => exact rfl
  case hb => exact BindsTo.of_eq rfl
  case hl => exact locs rfl
  case c1 => decide
  case c2 => rfl
  case c3 => rfl
  case c4 => rfl
  intro L' h₁ eL F
  have KX : (hd.heap_39 w.params).In s.heap := G.X
  have TX := G.T
  have N : News s.heap L' h₁ [] := News.nil
  try dsimp only
  have hoH1 := F.keep _ _ hoH
  walk_at "go"
  refine getMethod_builtin ⟨_, hoH1, rfl⟩ PySem.F.plainAttrs_list PySem.F.slot_list_pop PySem.F.type_list_pop (fun a e => by cases e; exact ⟨_, hoH1, rfl⟩) ?_
  walk_at "go"
  unfold StopW
  refine call_meets PySem.F.slot_list_pop ⟨_, hoH1, rfl⟩ PySem.F.entry_list_pop (PySem.F.args_list_pop_1 _) (PySem.AutoSeq1.list_pop_list_0 H #[] n rfl) ⟨hoH1, R.h, fun h' tk e hx => ?_⟩
  exact leave_fun hA hB hfr F eL hx rfl (by intro q; cases q) fun h2 hf hs => hE e h2 tk hf hs

theorem heapreplace_raise {w : World} {mg mb : Str → Option Value} {A : Around} {E : Value → Shared → Prop} {s : Shared} {B : Heap} {outer : List Env} {H : Addr} {x : Str} {t : Tok} {n : Nat} {Q : Value → Shared → Prop}
    (G : Gd w mg mb s.heap) (hoH : s.heap.get? H = some (listOf #[] n)) (R : Room 0 A) (hA : A.frames = some outer) (hB : B.StaysIn s.heap) (hfr : s.heap.FunFrames B outer)
    (hE : ∀ e h' tk, Fly B outer e h' → s.heap.UpToSlots h' → E (.ref e) { s with heap := h', toks := tk }) :
    wpAny (model PP w) A (call (.ref 72) [.ref H, .str x t]) Q E s := by
  refine' enter (binds := [(Str.ofString "heap", .ref H), (Str.ofString "item", .str x t)]) G (by have := R.d; simp only [recursionLimit]; omega) ?ho ?hc ?hb ?hl ?_ ?c1 ?c2 ?c3 ?c4
  case ho => exact rfl
  case hc => exact rfl
  case hb => exact BindsTo.of_eq rfl
  case hl => exact locs rfl
  case c1 => decide
  case c2 => rfl
  case c3 => rfl
  case c4 => rfl
  intro L' h₁ eL F
  have KX : (hd.heap_39 w.params).In s.heap := G.X
  have TX := G.T
  have N : News s.heap L' h₁ [] := News.nil
  try dsimp only
  have hoH1 := F.keep _ _ hoH
  walk_at "go"
  unfold StopW
  refine subscriptTail_builtin (T := "list") ⟨_, hoH1, rfl⟩ slot_list_getitem.lookup (wpAny_getItem_list_out R.h ⟨_, hoH1, rfl, _, rfl⟩ (.inr (by decide)) (by decide) (by decide) fun h' tk e hx => ?_) (by with_unfolding_all rfl) (by intro _; with_unfolding_all rfl)
  exact leave_fun hA hB hfr F eL hx rfl (by intro q; cases q) fun h2 hf hs => hE e h2 tk hf hs

end Mine
end

section
set_option maxRecDepth 100000
set_option maxHeartbeats 4000000
namespace Mine
local macro_rules | `(tactic| walk_at "go") => `(tactic| repeat' (first | walk1 | (dsimp only; walk1)))
local macro_rules | `(tactic| walk_at "look") => `(tactic| first | assumption | exact rfl | exact if_pos rfl | (refine Eq.trans (if_neg (by decide)) ?_; walk_at "look"))
local macro_rules | `(tactic| walk_at "eval Name") => `(tactic| (refine' ld ?k1 ?k2 ?_; (case k1 => with_reducible assumption); (case k2 => ((try dsimp only); walk_at "look")); k_whole))
local macro_rules | `(tactic| walk_at "exec For Name Call cons nil") => `(tactic| (refine wpAny_For ?_ (fun _ => rfl)))
local macro_rules | `(tactic| walk_at "exec For Name Name cons nil") => `(tactic| (refine wpAny_For ?_ (fun _ => rfl)))
local macro_rules | `(tactic| walk_at "binaryOp Add str str") => `(tactic| (refine PyProof.Rows.add_str ?h ?z; (case z => (simp only [Str.length_append, sizeLine_eq]; omega)); (intro _ _)))
local macro_rules | `(tactic| walk_at "exec While Compare cons nil") => `(tactic| refine stopw ?_)
local macro_rules | `(tactic| walk_at "eval Name") => `(tactic| (refine' nm_loc ?k1 ?k2 ?_ ?k4 ?k5 ?k6; (case k1 => with_reducible assumption); (case k2 => with_reducible assumption); (case k4 => rfl); (case k5 => rfl); (case k6 => decide); k_whole))
local macro_rules | `(tactic| walk_at "call ref") => `(tactic| refine stopw ?_)
inductive ResIs : List Value → List (Option Str) → Prop
  | nil : ResIs [] []
  | none : ResIs [.none] [none]
  | one (y : Str) (t : Tok) : ResIs [.str y t] [some y]
def callF (k : Nat) (xs : List Str) (x : Str) : List Str × List (Option Str) :=
  if k < 5 then (sdF (xs ++ [x]) xs.length, [none])
  else if k < 7 then (if xs.length = 0 then ([], []) else ((popF xs.dropLast (xs.getLastD Str.empty)).1, [some (popF xs.dropLast (xs.getLastD Str.empty)).2]))
  else if k < 8 then (if xs.length = 0 then ([], []) else (suF (xs.set 0 x) 0, [some (xs.getD 0 Str.empty)]))
  else ((pushpopF xs x).1, [some (pushpopF xs x).2])

/-- all stays but H; the frames up to their slots -/
structure KeepS (fs : List Addr) (H : Addr) (h h' : Heap) : Prop where
  off : ∀ p o, p ∉ fs → p ≠ H → h.get? p = some o → h'.get? p = some o
  on : ∀ p o, p ∈ fs → h.get? p = some o → (∀ vs, o.data ≠ .fields vs) → ∃ sl, h'.get? p = some { o with slots := sl }

theorem caught {w : World} {mg mb : Str → Option Value} {A : Around} {E : Value → Shared → Prop} {s : Shared} {B : Heap} {outer : List Env} {env : Env} {L e : Addr} {np pl pr ph : Pos} {Q : Flow → Shared → Prop}
    (hA : A.frames = some outer) (G : Gd w mg mb B) (hfl : Fly B (env :: outer) e s.heap) (hf : env.frame = some L) (hg : env.globals = mainGlobals) (hbi : env.builtins = builtinsNs) (hk : env.scope.kind = .function) (hx : env.kindOf (Str.ofString "IndexError") = some .globalImplicit)
    (h : ∀ h', B.StaysIn h' → s.heap.UpToSlots h' → Q (.ret (.ref h'.objs.size)) { s with heap := h'.push (listOf #[] 0) }) :
    wpAny (model PP w) (A.deeper env) (noteFrame (.ref e) env) (fun _ s₂ => wpAny (model PP w) (A.deeper env) (setFlight (.ref e) none) (fun _ s₃ =>
      wpAny (model PP w) (A.deeper env) (handleBy (.ref e) env [.ExceptHandler (some (.Name (Str.ofString "IndexError") np)) none [.Return (some (.List [] pl)) pr] ph]) Q E s₃) E s₂) E s := by
  obtain ⟨a0, hfl⟩ := hfl
  refine wpAny_looks_onW (Around.frames_deeper hA) hf hfl fun h₄ hheld₄ hsm₄ => ?_
  refine wpAny_landsW hheld₄ fun h₅ hheld hsm₅ => ?_
  obtain ⟨ob, hob, hobc⟩ := hheld.there
  refine wpAny_handleBy_builtin (X := "IndexError") (T := "IndexError") (b := true) PySem.F.isExc_IndexError PySem.F.notTuple_IndexError (by kts_sub) ?_
  refine nm_blt (G.keeps hheld.1) rfl PyProof.Rows.Boot.«IndexError» (by decide) ⟨rfl, ⟨ob, hob, hobc⟩, ?_⟩ hg hbi hk hx (by decide)
  rw [if_pos rfl]
  refine lands_againW hheld fun h₆ hfl₆ hsm₆ => ?_
  refine wpAny_noRaise ?_
  have := h h₆ hfl₆.1 ((hsm₄.trans hsm₅).trans hsm₆)
  walk_at "go"
  unfold newList
  exact wpAny_newObj_type this

theorem call_spec {w : World} {mg mb : Str → Option Value} {A : Around} {E : Value → Shared → Prop} {s : Shared} {b : Heap} {outer : List Env} {H : Addr} {vs : List Value} {xs : List Str} {x : Str} {n kind : Nat} {tk t : Tok} {Q : Value → Shared → Prop}
    (G : Gd w mg mb b) (hb : Ext b s.heap) (hH : b.get? H = none) (hoH : s.heap.get? H = some (listOf vs.toArray n)) (R : Room 3 A) (hA : A.frames = some outer) (hfr : s.heap.FunFrames b outer) (hHf : H ∉ outer.filterMap (·.frame))
    (hsa : StrsAre vs xs) (hl : xs.length ≤ 800) (hk : kind < 10)
    (h : ∀ r h' tk items nr vs' n', KeepS (outer.filterMap (·.frame)) H s.heap h' → s.heap.get? r = none → h'.get? r = some (listOf items.toArray nr) → ResIs items (callF kind xs x).2 → h'.get? H = some (listOf vs'.toArray n') → StrsAre vs' (callF kind xs x).1 → Q (.ref r) { s with heap := h', toks := tk }) :
    wpAny (model PP w) A (call (.ref 133) [.ref H, .int kind tk, .str x t]) Q E s := by
  refine' enterP (binds := [(Str.ofString "heap", .ref H), (Str.ofString "kind", .int kind tk), (Str.ofString "line", .str x t)]) (G.keeps hb) R ?ho ?hc ?hb ?hl ?_ ?c1 ?c2 ?c3 ?c4
  case ho => exact rfl
  case hc => exact rfl
  case hb => exact BindsTo.of_eq rfl
  case hl => exact locs rfl
  case c1 => decide
  case c2 => rfl
  case c3 => rfl
  case c4 => rfl
  intro L' h₁ F₀ eL
  have hg := stays_hide hb hH
  have G2 : Gd w mg mb (s.heap.hide H) := G.keeps hg
  have hgH : (s.heap.hide H).get? H = none := Heap.hide_self _ _
  have F : Fr (s.heap.hide H) L' h₁ _ := ⟨F₀.ns, fun p o e => F₀.keep p o (of_hide' p o e), by rw [Heap.hide_size]; exact F₀.above⟩
  have N : News (s.heap.hide H) L' h₁ [(H, listOf vs.toArray n)] := news_one (F₀.keep _ _ hoH) (by rw [eL]; exact Nat.ne_of_lt (Heap.lt_size hoH)) hgH
  have KX : (hd.heap_39 w.params).In (s.heap.hide H) := G2.X
  have TX := G2.T
  generalize eg : s.heap.hide H = g at F N KX TX G2 hgH
  have hsg : ExtB H s.heap g := fun p o q e => by rw [← eg, Heap.hide_ne _ q]; exact e
  try dsimp only
  have hsa0 := hsa
  clear hsa
  have keepS : ∀ h', Ext g h' → KeepS (outer.filterMap (·.frame)) H s.heap h' := fun h' hk => ⟨fun p o _ q e => hk p o (hsg p o q e), fun p o q e _ => ⟨o.slots, hk p o (hsg p o (fun z => hHf (z ▸ q)) e)⟩⟩
  have fresh : ∀ p, g.get? p = none → p ≠ H → s.heap.get? p = none := fun p e q => by
    cases z : s.heap.get? p with
    | none => rfl
    | some o => rw [hsg p o q z] at e; cases e
  have hbg : Ext b g := eg ▸ hg
  have hBs : (hideAll s.heap (outer.filterMap (·.frame))).StaysIn s.heap := fun p o e => of_hideAll _ e
  have hBb : Ext b (hideAll s.heap (outer.filterMap (·.frame))) := fun p o e => hideAll_get _ (hb p o e) fun q => by rw [(hfr.mem q).1] at e; cases e
  have ffB : ∀ l, (∀ q ∈ l.filterMap (·.frame), q ∈ outer.filterMap (·.frame)) → s.heap.FunFrames b l → h₁.FunFrames (hideAll s.heap (outer.filterMap (·.frame))) l := by
    intro l
    induction l with
    | nil => intro _ _; trivial
    | cons env rest ih =>
      rintro hq ⟨q1, ⟨L, o, q2, q3, q4, q5⟩, q6⟩
      have : L ∈ (env :: rest).filterMap (·.frame) := by rw [List.filterMap_cons, q2]; exact .head _
      refine ⟨q1, ⟨L, o, q2, hideAll_none _ (hq L this), F₀.keep _ _ q4, q5⟩, ih (fun q hm => hq q ?_) q6⟩
      rw [List.filterMap_cons, q2]
      exact .tail _ hm
  have hLB : (hideAll s.heap (outer.filterMap (·.frame))).get? L' = none := by
    cases q : (hideAll s.heap (outer.filterMap (·.frame))).get? L' with
    | none => rfl
    | some o => have := Heap.lt_size (hBs _ _ q); rw [eL] at this; exact absurd this (Nat.lt_irrefl _)
  have raiseFin : ∀ (hne : xs.length = 0) h₆, (hideAll s.heap (outer.filterMap (·.frame))).StaysIn h₆ → h₁.UpToSlots h₆ → ∀ tk, (callF kind xs x) = ([], []) → Q (.ref h₆.objs.size) { s with heap := h₆.push (listOf #[] 0), toks := tk } := by
    intro hne h₆ hst hup tk hF
    rw [hF] at h
    have hvs : vs = [] := List.length_eq_zero_iff.mp ((strsAre_len hsa0).trans hne)
    subst hvs
    have up : Ext h₆ (h₆.push (listOf #[] 0)) := fun p o e => Heap.get?_push_of_some _ e
    refine h _ _ tk [] 0 [] n ⟨fun p o q1 _ e => up _ _ (hst p o (hideAll_get _ e q1)), fun p o q e hd => ?_⟩ ?_ (Heap.get?_push_size _ rfl) .nil ?_ .nil
    · obtain ⟨sl, hs⟩ := hup p o (F₀.keep _ _ e) hd
      exact ⟨sl, up _ _ hs⟩
    · cases q : s.heap.get? h₆.objs.size with
      | none => rfl
      | some o =>
        by_cases z : h₆.objs.size ∈ outer.filterMap (·.frame)
        · obtain ⟨_, o', ho', hd⟩ := hfr.mem z
          obtain ⟨sl, hs⟩ := hup _ o' (F₀.keep _ _ ho') hd
          exact absurd (Heap.lt_size hs) (Nat.lt_irrefl _)
        · exact absurd (Heap.lt_size (hst _ _ (hideAll_get _ q z))) (Nat.lt_irrefl _)
    · exact up _ _ (hst _ _ (hideAll_get _ hoH hHf))
  have hoL := F₀.ns
  walk_at "go"
  · unfold StopW
    have e5 : kind < 5 := by omega
    have hF : callF kind xs x = (sdF (xs ++ [x]) xs.length, [none]) := if_pos e5
    rw [hF] at h
    refine heappush_spec G2 F.keep hgH (N.get (.head _)) (R.deeper.less (by decide)) hsa0 (by omega) fun h' tk' vs' n' hk' ho' hsa' => ?_
    have F2 := fr_mut F hk' hgH (N _ (.head _)).2.1
    have N2 := news_one ho' (N _ (.head _)).2.1 hgH
    clear F N
    walk_at "go"
    rename Fr g L' _ _ => F3
    rename News g L' _ _ => N3
    rename H < _ => lt3
    exact h _ _ _ [.none] _ vs' n' (keepS _ F3.keep) (fresh _ (N3.fresh (.head _)) (Nat.ne_of_gt lt3)) (N3.get (.head _)) .none (N3.get (.tail _ (.head _))) hsa'
  · unfold StopW
    have e5 : ¬ kind < 5 := by omega
    have e7 : kind < 7 := by omega
    by_cases hne : xs.length = 0
    · have hF : callF kind xs x = ([], []) := by unfold callF; rw [if_neg e5, if_pos e7, if_pos hne]
      have hvs : vs = [] := List.length_eq_zero_iff.mp ((strsAre_len hsa0).trans hne)
      subst hvs
      refine heappop_raise (B := hideAll s.heap (outer.filterMap (·.frame))) (G.keeps fun p o e => F₀.keep p o (hb p o e)) (N.get (.head _)) (R.deeper.less (by decide)) (Around.frames_deeper hA) (fun p o e => F₀.keep p o (hBs p o e)) ⟨(by intro q; cases q), ?_, ffB outer (fun _ q => q) hfr⟩ fun e h' tk' hfl hup => ?_
      · obtain ⟨oL, es, ep, e1, e2, _⟩ := hoL
        exact ⟨L', oL, rfl, hLB, e1, fun vs q => by rw [e2] at q; cases q⟩
      · refine caught hA (G.keeps hBb) hfl rfl rfl rfl rfl rfl fun h₆ hst hup₆ => ?_
        exact raiseFin hne h₆ hst (hup.trans hup₆) _ hF
    · have hF : callF kind xs x = ((popF xs.dropLast (xs.getLastD Str.empty)).1, [some (popF xs.dropLast (xs.getLastD Str.empty)).2]) := by unfold callF; rw [if_neg e5, if_pos e7, if_neg hne]
      rw [hF] at h
      have hxs : xs = xs.dropLast ++ [xs.getLastD Str.empty] := by
        rw [List.getLastD_eq_getLast?, List.getLast?_eq_some_getLast (by intro q; rw [q] at hne; exact hne rfl)]
        exact (List.dropLast_concat_getLast _).symm
      rw [hxs] at hsa0
      refine heappop_spec G2 F.keep hgH (N.get (.head _)) R.deeper hsa0 (by simp; omega) fun h' tk' vs' n' t' hk' ho' hsa' => ?_
      have F2 := fr_mut F hk' hgH (N _ (.head _)).2.1
      have N2 := news_one ho' (N _ (.head _)).2.1 hgH
      clear F N
      walk_at "go"
      rename Fr g L' _ _ => F3
      rename News g L' _ _ => N3
      rename H < _ => lt3
      exact h _ _ _ [.str _ t'] _ vs' n' (keepS _ F3.keep) (fresh _ (N3.fresh (.head _)) (Nat.ne_of_gt lt3)) (N3.get (.head _)) (.one _ _) (N3.get (.tail _ (.head _))) hsa'
  · unfold StopW
    have e5 : ¬ kind < 5 := by omega
    have e7 : ¬ kind < 7 := by omega
    have e8 : kind < 8 := by omega
    by_cases hne : xs.length = 0
    · have hF : callF kind xs x = ([], []) := by unfold callF; rw [if_neg e5, if_neg e7, if_pos e8, if_pos hne]
      have hvs : vs = [] := List.length_eq_zero_iff.mp ((strsAre_len hsa0).trans hne)
      subst hvs
      refine heapreplace_raise (B := hideAll s.heap (outer.filterMap (·.frame))) (G.keeps fun p o e => F₀.keep p o (hb p o e)) (N.get (.head _)) (R.deeper.less (by decide)) (Around.frames_deeper hA) (fun p o e => F₀.keep p o (hBs p o e)) ⟨(by intro q; cases q), ?_, ffB outer (fun _ q => q) hfr⟩ fun e h' tk' hfl hup => ?_
      · obtain ⟨oL, es, ep, e1, e2, _⟩ := hoL
        exact ⟨L', oL, rfl, hLB, e1, fun vs q => by rw [e2] at q; cases q⟩
      · refine caught hA (G.keeps hBb) hfl rfl rfl rfl rfl rfl fun h₆ hst hup₆ => ?_
        exact raiseFin hne h₆ hst (hup.trans hup₆) _ hF
    · have hF : callF kind xs x = (suF (xs.set 0 x) 0, [some (xs.getD 0 Str.empty)]) := by unfold callF; rw [if_neg e5, if_neg e7, if_pos e8, if_neg hne]
      rw [hF] at h
      refine heapreplace_spec G2 F.keep hgH (N.get (.head _)) R.deeper hsa0 (by omega) (by omega) fun h' tk' vs' n' t' hk' ho' hsa' => ?_
      have F2 := fr_mut F hk' hgH (N _ (.head _)).2.1
      have N2 := news_one ho' (N _ (.head _)).2.1 hgH
      clear F N
      walk_at "go"
      rename Fr g L' _ _ => F3
      rename News g L' _ _ => N3
      rename H < _ => lt3
      exact h _ _ _ [.str _ t'] _ vs' n' (keepS _ F3.keep) (fresh _ (N3.fresh (.head _)) (Nat.ne_of_gt lt3)) (N3.get (.head _)) (.one _ _) (N3.get (.tail _ (.head _))) hsa'
  · unfold StopW
    have e5 : ¬ kind < 5 := by omega
    have e7 : ¬ kind < 7 := by omega
    have e8 : ¬ kind < 8 := by omega
    have hF : callF kind xs x = ((pushpopF xs x).1, [some (pushpopF xs x).2]) := by unfold callF; rw [if_neg e5, if_neg e7, if_neg e8]
    rw [hF] at h
    refine heappushpop_spec G2 F.keep hgH (N.get (.head _)) R.deeper hsa0 (by omega) fun h' tk' vs' n' t' hk' ho' hsa' => ?_
    have F2 := fr_mut F hk' hgH (N _ (.head _)).2.1
    have N2 := news_one ho' (N _ (.head _)).2.1 hgH
    clear F N
    walk_at "go"
    rename Fr g L' _ _ => F3
    rename News g L' _ _ => N3
    rename H < _ => lt3
    exact h _ _ _ [.str _ t'] _ vs' n' (keepS _ F3.keep) (fresh _ (N3.fresh (.head _)) (Nat.ne_of_gt lt3)) (N3.get (.head _)) (.one _ _) (N3.get (.tail _ (.head _))) hsa'

end Mine
end

section
set_option maxRecDepth 100000
set_option maxHeartbeats 4000000
namespace Mine
local macro_rules | `(tactic| walk_at "go") => `(tactic| repeat' (first | walk1 | (dsimp only; walk1)))
local macro_rules | `(tactic| walk_at "look") => `(tactic| first | assumption | exact rfl | exact if_pos rfl | (refine Eq.trans (if_neg (by decide)) ?_; walk_at "look"))
local macro_rules | `(tactic| walk_at "eval Name") => `(tactic| (refine' ld ?k1 ?k2 ?_; (case k1 => with_reducible assumption); (case k2 => ((try dsimp only); walk_at "look")); k_whole))
local macro_rules | `(tactic| walk_at "exec For Name Call cons nil") => `(tactic| (refine wpAny_For ?_ (fun _ => rfl)))
local macro_rules | `(tactic| walk_at "exec For Name Name cons nil") => `(tactic| (refine wpAny_For ?_ (fun _ => rfl)))
local macro_rules | `(tactic| walk_at "binaryOp Add str str") => `(tactic| (refine PyProof.Rows.add_str ?h ?z; (case z => (simp only [Str.length_append, sizeLine_eq]; omega)); (intro _ _)))
local macro_rules | `(tactic| walk_at "exec While Compare cons nil") => `(tactic| refine stopw ?_)
local macro_rules | `(tactic| walk_at "eval Name") => `(tactic| (refine' nm_loc ?k1 ?k2 ?_ ?k4 ?k5 ?k6; (case k1 => with_reducible assumption); (case k2 => with_reducible assumption); (case k4 => rfl); (case k5 => rfl); (case k6 => decide); k_whole))
theorem rng_get (N i : Nat) (h : i < N) : (List.toArray (List.range N)).getD i 0 = i := by simp [Array.getD, h]

section
variable {cmp : Nat → Nat → (Bool → Shared → Prop) → Shared → Prop} {lt : Nat → Nat → Bool} {inv : Shared → Prop} {n : Nat}

theorem app_asc (hcmp : ∀ i j C s, i ≤ n → j ≤ n → inv s → (∀ s', inv s' → C (lt i j) s') → cmp i j C s) (hso : ∀ i, i + 1 < n → lt (i + 1) i = false) {G : Nat → Shared → Prop} :
    ∀ (f k : Nat) (s : Shared), 1 ≤ k → k + f = n + 1 → k ≤ n → inv s → (lt n (n - 1) = true → ∀ s', inv s' → G n s') → (lt n (n - 1) = false → ∀ s', inv s' → G (n + 1) s') →
      (kas_asc (List.toArray (List.range (n + 1))) f k).kasWp cmp G s
  | 0, k, s, _, h2, h3, _, _, _ => by omega
  | f + 1, k, s, h1, h2, h3, hi, g1, g2 => by
    unfold kas_asc
    show cmp _ _ _ _
    rw [rng_get _ _ (by omega), rng_get _ _ (by omega)]
    refine hcmp _ _ _ _ h3 (by omega) hi fun s' hi' => ?_
    dsimp only
    by_cases hk : k = n
    · subst hk
      cases q : lt k (k - 1) with
      | true => rw [if_pos rfl]; exact g1 q s' hi'
      | false =>
        rw [if_neg (by simp), show f = 0 by omega]
        exact g2 q s' hi'
    · have := hso (k - 1) (by omega)
      rw [show k - 1 + 1 = k by omega] at this
      rw [this, if_neg (by simp)]
      exact app_asc hcmp hso f (k + 1) s' (by omega) (by omega) (by omega) hi' g1 g2

theorem app_place (hcmp : ∀ i j C s, i ≤ n → j ≤ n → inv s → (∀ s', inv s' → C (lt i j) s') → cmp i j C s) {G : Nat → Shared → Prop} (hmono : ∀ i j, i ≤ j → j < n → lt n i = true → lt n j = true)
    (hG : ∀ l s', inv s' → l ≤ n → (∀ i, i < l → lt n i = false) → (∀ i, l ≤ i → i < n → lt n i = true) → G l s') :
    ∀ (f l r : Nat) (s : Shared), l ≤ r → r ≤ n → r ≤ l + f → inv s → (∀ i, i < l → lt n i = false) → (∀ i, r ≤ i → i < n → lt n i = true) →
      (kas_place (List.toArray (List.range (n + 1))) n f l r).kasWp cmp G s
  | 0, l, r, s, h1, h2, h3, hi, a, b => by
    have : l = r := by omega
    subst this
    exact hG l s hi h2 a b
  | f + 1, l, r, s, h1, h2, h3, hi, a, b => by
    unfold kas_place
    by_cases hlr : l ≥ r
    · rw [if_pos hlr]
      have : l = r := by omega
      subst this
      exact hG l s hi h2 a b
    · rw [if_neg hlr]
      show cmp _ _ _ _
      rw [rng_get _ _ (by omega), rng_get _ _ (by omega)]
      refine hcmp _ _ _ _ (Nat.le_refl _) (by omega) hi fun s' hi' => ?_
      dsimp only
      cases q : lt n ((l + r) / 2) with
      | true =>
        rw [if_pos rfl]
        exact app_place hcmp hmono hG f l ((l + r) / 2) s' (by omega) (by omega) (by omega) hi' a fun i h1 h2 => hmono _ i h1 h2 q
      | false =>
        rw [if_neg (by simp)]
        refine app_place hcmp hmono hG f ((l + r) / 2 + 1) r s' (by omega) h2 (by omega) hi' (fun i h1 => ?_) b
        cases z : lt n i with
        | false => rfl
        | true => rw [hmono i ((l + r) / 2) (by omega) (by omega) z] at q; cases q

/-- what the sort of a sorted list with one more behind gives -/
def insP (n l : Nat) : List Nat := List.range l ++ [n] ++ List.range' l (n - l)
theorem insP_get (n l k : Nat) (h : l ≤ n) : (insP n l)[k]? = if k < l then some k else if k = l then some n else if k ≤ n then some (k - 1) else none := by
  unfold insP
  by_cases h1 : k < l
  · rw [if_pos h1, List.getElem?_append_left (by simp; omega), List.getElem?_append_left (by simpa using h1), List.getElem?_range h1]
  · rw [if_neg h1]
    by_cases h2 : k = l
    · subst h2
      rw [if_pos rfl, List.getElem?_append_left (by simp), List.getElem?_append_right (by simp)]
      simp
    · rw [if_neg h2, List.getElem?_append_right (by simp; omega)]
      by_cases h3 : k ≤ n
      · rw [if_pos h3, List.getElem?_range' (by simp; omega)]
        simp
        omega
      · rw [if_neg h3, List.getElem?_eq_none (by simp; omega)]
theorem rng_get? (N k : Nat) : (List.toArray (List.range N))[k]? = if k < N then some k else none := by
  by_cases h : k < N
  · simp [h]
  · simp [h]
theorem bub_ins (n l : Nat) (h : l ≤ n) : (bubble (List.toArray (List.range (n + 1))) n (n - l)).toList = insP n l := by
  apply List.ext_getElem?
  intro k
  rw [Array.getElem?_toList, insP_get n l k h, getElem?_bubble (by simp) _ (by omega), show n - (n - l) = l by omega]
  simp only [rng_get?]
  by_cases h1 : k < l
  · rw [if_neg (by omega), if_neg (by omega), if_pos (by omega), if_pos h1]
  · by_cases h2 : k = l
    · rw [if_pos h2, if_pos (by omega), if_neg h1, if_pos h2]
    · rw [if_neg h2, if_neg h1, if_neg h2]
      by_cases h3 : k ≤ n
      · rw [if_pos ⟨by omega, h3⟩, if_pos (by omega), if_pos h3]
      · rw [if_neg (by omega), if_neg (by omega), if_neg h3]
theorem rev_ins (n : Nat) : (kas_rev (kas_rev (List.toArray (List.range (n + 1))) 0 n) 0 (n + 1)).toList = insP n 0 := by
  apply List.ext_getElem?
  intro k
  unfold kas_rev
  rw [Array.getElem?_toList, insP_get n 0 k (Nat.zero_le _), getElem?_mirror_all (by rw [mirror_size]; simp), getElem?_mirror_all (by simp), getElem?_mirror_all (by simp)]
  simp only [rng_get?]
  repeat' split
  all_goals first | rfl | (exfalso; omega) | (congr 1; omega)
theorem rev_one : (kas_rev (List.toArray (List.range 2)) 0 2).toList = insP 1 0 := by decide

/-- the sort of a sorted list with one more behind -/
theorem app_sort (hcmp : ∀ i j C s, i ≤ n → j ≤ n → inv s → (∀ s', inv s' → C (lt i j) s') → cmp i j C s) (hn : 1 ≤ n) (hso : ∀ i, i + 1 < n → lt (i + 1) i = false) (hmono : ∀ i j, i ≤ j → j < n → lt n i = true → lt n j = true)
    (heq : lt 0 (n - 1) = false → lt n (n - 1) = true → lt n 0 = true) {Q : Array Nat → Shared → Prop} {s : Shared} (hi : inv s)
    (h : ∀ p l s', inv s' → l ≤ n → (∀ i, i < l → lt n i = false) → (∀ i, l ≤ i → i < n → lt n i = true) → p.toList = insP n l → Q p s') :
    (kas_sort (n + 1)).kasWp cmp Q s := by
  unfold kas_sort
  rw [KasT.kasWp_bind]
  unfold kas_count
  rw [KasT.kasWp_bind]
  refine app_asc hcmp hso n 1 s (by omega) (by omega) hn hi (fun q s' hi' => ?_) fun q s' hi' => ?_
  · rw [if_neg (by simp)]
    have zero : ∀ r : Array Nat, lt n 0 = true → r.toList = insP n 0 → ∀ s', inv s' → Q r s' := fun r q0 hr s' hi' => h r 0 s' hi' (Nat.zero_le _) (fun i hi => by omega) (fun i _ hi => hmono 0 i (Nat.zero_le _) hi q0) hr
    have desc : ∀ p : Array Nat, (∀ s', inv s' → Q (kas_rev p 0 (n + 1)) s') → ∀ s', inv s' → (kas_descPart n (n + 1) p).kasWp cmp (fun a s' => (if a.1 < n + 1 then kas_bin (n + 1 - max a.1 1) a.2 (max a.1 1) else KasT.ret a.2).kasWp cmp Q s') s' := by
      intro p hp s' hi'
      unfold kas_descPart
      rw [KasT.kasWp_bind, show n + 1 - (n + 1) = 0 by omega]
      show (if 0 > 0 then _ else kas_tail3 (n + 1) (n + 1) p).kasWp cmp _ s'
      rw [if_neg (by omega)]
      unfold kas_tail3
      rw [KasT.kasWp_bind, show n + 1 - (n + 1) = 0 by omega]
      show (if n + 1 < n + 1 then _ else KasT.ret (kas_rev p 0 (n + 1))).kasWp cmp Q s'
      rw [if_neg (by omega)]
      exact hp s' hi'
    by_cases h1 : n > 1
    · rw [if_pos h1]
      show cmp _ _ _ _
      rw [rng_get _ _ (by omega), rng_get _ _ (by omega)]
      refine hcmp _ _ _ _ (by omega) (by omega) hi' fun s2 hi2 => ?_
      dsimp only
      cases q2 : lt 0 (n - 1) with
      | true =>
        rw [if_pos rfl]
        show (if n < n + 1 then kas_bin (n + 1 - max n 1) (List.toArray (List.range (n + 1))) (max n 1) else _).kasWp cmp Q s2
        rw [if_pos (by omega), show max n 1 = n by omega, show n + 1 - n = 0 + 1 by omega]
        unfold kas_bin
        rw [KasT.kasWp_bind]
        refine app_place hcmp hmono (fun l s3 hi3 hl a b => ?_) n 0 n s2 (Nat.zero_le _) (Nat.le_refl _) (by omega) hi2 (fun i hi => by omega) (fun i h1 h2 => by omega)
        exact h _ l s3 hi3 hl a b (bub_ins n l hl)
      | false =>
        rw [if_neg (by simp)]
        exact desc _ (zero _ (heq q2 q) (rev_ins n)) s2 hi2
    · rw [if_neg h1]
      have : n = 1 := by omega
      subst this
      exact desc _ (zero _ q rev_one) s' hi'
  · rw [if_pos (by simp)]
    show (if n + 1 < n + 1 then _ else KasT.ret (List.toArray (List.range (n + 1)))).kasWp cmp Q s'
    rw [if_neg (by omega)]
    refine h _ n s' hi' (Nat.le_refl _) (fun i hi => ?_) (fun i h1 h2 => by omega) ?_
    · cases z : lt n i with
      | false => rfl
      | true => rw [hmono i (n - 1) (by omega) (by omega) z] at q; cases q
    · unfold insP
      rw [Nat.sub_self, List.range'_zero, List.append_nil]
      exact List.range_succ
end

end Mine
end

section
set_option maxRecDepth 100000
set_option maxHeartbeats 4000000
namespace Mine
local macro_rules | `(tactic| walk_at "go") => `(tactic| repeat' (first | walk1 | (dsimp only; walk1)))
local macro_rules | `(tactic| walk_at "look") => `(tactic| first | assumption | exact rfl | exact if_pos rfl | (refine Eq.trans (if_neg (by decide)) ?_; walk_at "look"))
local macro_rules | `(tactic| walk_at "eval Name") => `(tactic| (refine' ld ?k1 ?k2 ?_; (case k1 => with_reducible assumption); (case k2 => ((try dsimp only); walk_at "look")); k_whole))
local macro_rules | `(tactic| walk_at "exec For Name Call cons nil") => `(tactic| (refine wpAny_For ?_ (fun _ => rfl)))
local macro_rules | `(tactic| walk_at "exec For Name Name cons nil") => `(tactic| (refine wpAny_For ?_ (fun _ => rfl)))
local macro_rules | `(tactic| walk_at "binaryOp Add str str") => `(tactic| (refine PyProof.Rows.add_str ?h ?z; (case z => (simp only [Str.length_append, sizeLine_eq]; omega)); (intro _ _)))
local macro_rules | `(tactic| walk_at "exec While Compare cons nil") => `(tactic| refine stopw ?_)
local macro_rules | `(tactic| walk_at "eval Name") => `(tactic| (refine' nm_loc ?k1 ?k2 ?_ ?k4 ?k5 ?k6; (case k1 => with_reducible assumption); (case k2 => with_reducible assumption); (case k4 => rfl); (case k5 => rfl); (case k6 => decide); k_whole))
open PySem.SeqAt PySem.MeetsSeq PySem.MeetsSeq2 PySem.MeetsSeq3 PySem.SeqRoads2
/-- x < y, at a state -/
def LtAt (A : Around) (s : Shared) (x y : Value) (b : Bool) : Prop :=
  ∀ (prog : Program) (w : World) (E : Value → Shared → Prop) (Q : Value → Shared → Prop), Q (.bool b) s → wpAny (model prog w) A (richCompare .Lt x y) Q E s

/-- lexicographic, by the answers for each place -/
def lexA (e c : Nat → Bool) (fin : Bool) : Nat → Nat → Bool
  | 0, _ => fin
  | k + 1, i => if e i = true then lexA e c fin k (i + 1) else c i

theorem lt_loop (l b : Addr) (items items2 : Array Value) (n n2 : Nat) (e c : Nat → Bool) : ∀ (k i : Nat), min items.size items2.size - i = k → Meets (Builtin.«list.__eq__.loop» ⟨[.ref l, .ref b, rawInt i, rawInt 0], []⟩)
      (fun A R s => s.heap.get? l = some (listOf items n) ∧ s.heap.get? b = some (listOf items2 n2) ∧
        (∀ j (h1 : j < items.size) (h2 : j < items2.size), EqAt A.in1 s items[j] items2[j] (e j)) ∧ (∀ j (h1 : j < items.size) (h2 : j < items2.size), e j = false → LtAt A.in1 s items[j] items2[j] (c j)) ∧
        R (.ok (.ret (.bool (lexA e c (decide (items.size < items2.size)) k i)))) s) := by
  intro k
  induction k with
  | zero =>
    intro i hk prog w A R s h
    obtain ⟨hp, g, d, tk, os⟩ := s; obtain ⟨hl, hb, he, hc, h⟩ := h
    wp_walk using PySem.AutoSeq1.wpAny_loadPart' hl, PySem.AutoSeq1.wpAny_loadPart' hb
    have : items[((i : Nat) : Int).toNat]? = none ∨ items2[((i : Nat) : Int).toNat]? = none := by
      rcases Nat.lt_or_ge i items.size with q | q
      · exact .inr (by simp; omega)
      · exact .inl (by simp; omega)
    have done : ∀ v, v = Value.bool (decide (items.size < items2.size)) → R (.ok (.ret v)) ⟨hp, g, d, tk, os⟩ := fun v q => q ▸ h
    cases h1 : items[((i : Nat) : Int).toNat]? with
    | none =>
      wp_walk using PySem.AutoSeq1.wpAny_loadPart' hl, PySem.AutoSeq1.wpAny_loadPart' hb
      exact done _ rfl
    | some x =>
      cases h2 : items2[((i : Nat) : Int).toNat]? with
      | none =>
        wp_walk using PySem.AutoSeq1.wpAny_loadPart' hl, PySem.AutoSeq1.wpAny_loadPart' hb
        exact done _ rfl
      | some y =>
        rw [h1, h2] at this
        rcases this with q | q <;> cases q
  | succ k ih =>
    intro i hk prog w A R s h
    obtain ⟨hp, g, d, tk, os⟩ := s; obtain ⟨hl, hb, he, hc, h⟩ := h
    wp_walk using PySem.AutoSeq1.wpAny_loadPart' hl, PySem.AutoSeq1.wpAny_loadPart' hb
    have q1 : i < items.size := by omega
    have q2 : i < items2.size := by omega
    have hi1 : items[((i : Nat) : Int).toNat]? = some items[i] := by simp [q1]
    have hi2 : items2[((i : Nat) : Int).toNat]? = some items2[i] := by simp [q2]
    have hcast : ((i : Int) + 1) = ((i + 1 : Nat) : Int) := by push_cast; rfl
    rw [hi1, hi2]
    refine wpAny_bind (he i q1 q2 prog w _ _ ?_)
    unfold lexA at h
    cases hei : e i with
    | true =>
      rw [if_pos hei] at h
      wp_walk
      rw [hcast]
      exact ⟨plainId_quiet plain_eq_loop _, codeAny_builtin entry_eq_loop (by
        rw [Around.under_plainId plain_eq_loop _]
        exact ih (i + 1) (by omega) prog w A R _ ⟨hl, hb, he, hc, h⟩)⟩
    | false =>
      rw [if_neg (by rw [hei]; simp)] at h
      wp_walk using PySem.AutoSeq1.wpAny_loadPart' hl, PySem.AutoSeq1.wpAny_loadPart' hb
      rw [hi1, hi2]
      show wpAny _ _ (richCompare .Lt items[i] items2[i] >>= fun r => ret r) _ _ _
      exact wpAny_bind (hc i q1 q2 hei prog w _ _ (wpAny_pure h))

theorem list_ltA (l b : Addr) (items items2 : Array Value) (n n2 : Nat) (e c : Nat → Bool) : Meets (Builtin.«list.__lt__» ⟨[.ref l, .ref b], []⟩)
      (fun A R s => s.heap.get? l = some (listOf items n) ∧ s.heap.get? b = some (listOf items2 n2) ∧
        (∀ j (h1 : j < items.size) (h2 : j < items2.size), EqAt A.in1 s items[j] items2[j] (e j)) ∧ (∀ j (h1 : j < items.size) (h2 : j < items2.size), e j = false → LtAt A.in1 s items[j] items2[j] (c j)) ∧
        R (.ok (.ret (.bool (lexA e c (decide (items.size < items2.size)) (min items.size items2.size) 0)))) s) := by
  intro prog w A R s h
  obtain ⟨hp, g, d, tk, os⟩ := s; obtain ⟨hl, hb, he, hc, h⟩ := h
  have f3 := PySem.AutoSeq1.sub_list_list
  wp_walk using PySem.AutoSeq1.wpAny_loadPart' hl, PySem.AutoSeq1.wpAny_loadPart' hb
  exact ⟨plainId_quiet plain_eq_loop _, codeAny_builtin entry_eq_loop (by
    rw [Around.under_plainId plain_eq_loop _]
    exact lt_loop l b items items2 n n2 e c _ 0 rfl prog w A R _ ⟨hl, hb, he, hc, h⟩)⟩

theorem LtAt.lists {A : Around} {s : Shared} {l b : Addr} {items items2 : Array Value} {n n2 : Nat} {e c : Nat → Bool} (hl : s.heap.get? l = some (listOf items n)) (hb : s.heap.get? b = some (listOf items2 n2)) (hu : A.units < cLine)
    (he : ∀ j (h1 : j < items.size) (h2 : j < items2.size), EqAt A.in1 s items[j] items2[j] (e j)) (hc : ∀ j (h1 : j < items.size) (h2 : j < items2.size), e j = false → LtAt A.in1 s items[j] items2[j] (c j)) :
    LtAt A s (.ref l) (.ref b) (lexA e c (decide (items.size < items2.size)) (min items.size items2.size) 0) := fun prog w E Q h =>
  richCompare_meets_room (op := .Lt) ⟨_, hl, rfl⟩ ⟨_, hb, rfl⟩ PySem.F.slot_list_lt PySem.F.entry_list_lt (PySem.F.args_list_lt_2 _ _) (list_ltA l b items items2 n n2 e c) ⟨hl, hb, he, hc, (fun x => nomatch x), h⟩ hu

theorem LtAt.ints {A : Around} {s : Shared} (a b : Int) (t u : Tok) : LtAt A s (.int a t) (.int b u) (decide (a < b)) := fun prog w E Q h => PyProof.Rows.lt_int h
theorem one_list {prog : Program} {w : World} {A : Around} {E : Value → Shared → Prop} {s : Shared} {l b : Addr} {items items2 : Array Value} {n n2 : Nat} {e c : Nat → Bool} {Q : Bool → Shared → Prop} (hl : s.heap.get? l = some (listOf items n)) (hb : s.heap.get? b = some (listOf items2 n2)) (hu : A.units < cLine)
    (he : ∀ j (h1 : j < items.size) (h2 : j < items2.size), EqAt A.in1 s items[j] items2[j] (e j)) (hc : ∀ j (h1 : j < items.size) (h2 : j < items2.size), e j = false → LtAt A.in1 s items[j] items2[j] (c j))
    (h : Q (lexA e c (decide (items.size < items2.size)) (min items.size items2.size) 0) s) : wpAny (model prog w) A (oneLt' true (.ref l) (.ref b)) Q E s := by
  rw [oneLt'_eq]
  simp only [if_true]
  refine wpAny_bind (wpAny_cRoomFor hu ?_)
  refine wpAny_bind (wpAny_callSpecialIfBound?_slot (T := "list") ⟨_, hl, rfl⟩ PySem.F.slot_list_lt ?_)
  refine call_meets PySem.F.slot_list_lt ⟨_, hl, rfl⟩ PySem.F.entry_list_lt (PySem.F.args_list_lt_2 _ _) (list_ltA l b items items2 n n2 e c) ⟨hl, hb, he, hc, ?_⟩
  exact wpAny_truthy_bool h

/-- lexicographic -/
def lexB {α : Type} (eq lt : α → α → Bool) : List α → List α → Bool
  | [], [] => false
  | [], _ :: _ => true
  | _ :: _, [] => false
  | x :: xs, y :: ys => if eq x y = true then lexB eq lt xs ys else lt x y
theorem lexA_lexB {α : Type} (eq lt : α → α → Bool) (e c : Nat → Bool) : ∀ (xs ys : List α) (i : Nat), (∀ j (h1 : j < xs.length) (h2 : j < ys.length), e (i + j) = eq xs[j] ys[j]) → (∀ j (h1 : j < xs.length) (h2 : j < ys.length), e (i + j) = false → c (i + j) = lt xs[j] ys[j]) →
    lexA e c (decide (xs.length < ys.length)) (min xs.length ys.length) i = lexB eq lt xs ys
  | [], [], _, _, _ => rfl
  | [], y :: ys, _, _, _ => by simp [lexA, lexB]
  | x :: xs, [], _, _, _ => by simp [lexA, lexB]
  | x :: xs, y :: ys, i, he, hc => by
    have h0 := he 0 (by simp) (by simp)
    have c0 := hc 0 (by simp) (by simp)
    have ih := lexA_lexB eq lt e c xs ys (i + 1) (fun j h1 h2 => by have := he (j + 1) (by simpa using h1) (by simpa using h2); simpa [Nat.add_assoc, Nat.add_comm 1] using this)
      (fun j h1 h2 q => by have := hc (j + 1) (by simpa using h1) (by simpa using h2); simpa [Nat.add_assoc, Nat.add_comm 1] using this (by simpa [Nat.add_assoc, Nat.add_comm 1] using q))
    simp only [List.length_cons, Nat.add_min_add_right, lexA, lexB]
    rw [show decide (xs.length + 1 < ys.length + 1) = decide (xs.length < ys.length) by simp]
    simp only [Nat.add_zero, List.getElem_cons_zero] at h0 c0
    rw [h0, ih]
    cases q : eq x y with
    | true => rfl
    | false => simpa using c0 (h0.trans q)
theorem all_eq_dec {α : Type} [DecidableEq α] (e : Nat → Bool) (xs ys : List α) (hl : xs.length = ys.length) (he : ∀ j (h1 : j < xs.length) (h2 : j < ys.length), e j = decide (xs[j] = ys[j])) : (List.range xs.length).all e = decide (xs = ys) := by
  by_cases h : xs = ys
  · subst h
    rw [decide_eq_true rfl, List.all_eq_true]
    intro j hj
    have := he j (by simpa using hj) (by simpa using hj)
    simpa using this
  · rw [decide_eq_false h]
    cases q : (List.range xs.length).all e with
    | false => rfl
    | true =>
      rw [List.all_eq_true] at q
      refine absurd (List.ext_getElem hl fun j h1 h2 => ?_) h
      have := he j h1 h2
      rw [q j (by simpa using h1)] at this
      exact of_decide_eq_true this.symm

theorem beq_dec {α : Type} [BEq α] [LawfulBEq α] [DecidableEq α] (x y : α) : (x == y) = decide (x = y) := by
  by_cases h : x = y
  · simp [h]
  · rw [decide_eq_false h]; simpa using h
theorem intsAre_get : ∀ {vs : List Value} {r : List Int} (i : Nat), IntsAre vs r → (h1 : i < vs.length) → (h2 : i < r.length) → ∃ t, vs[i] = .int r[i] t
  | _, _, i, .nil, h1, _ => by simp at h1
  | _, _, 0, .cons x t r, _, _ => ⟨t, rfl⟩
  | _, _, i + 1, .cons x t r, h1, h2 => by
    obtain ⟨u, e⟩ := intsAre_get i r (by simpa using h1) (by simpa using h2)
    exact ⟨u, by simpa using e⟩
theorem intsAre_inj : ∀ {vs : List Value} {r r' : List Int}, IntsAre vs r → IntsAre vs r' → r = r'
  | _, _, _, .nil, .nil => rfl
  | _, _, _, .cons x t r, .cons _ _ r' => by rw [intsAre_inj r r']

def ltI (r r' : List Int) : Bool := lexB (fun a b => decide (a = b)) (fun a b => decide (a < b)) r r'
def ltR (k k' : List (List Int)) : Bool := lexB (fun a b => decide (a = b)) ltI k k'

section
variable {A : Around} {s : Shared} {a b : Addr} {vs us : List Value} {n n' : Nat}
theorem eq_ints {r r' : List Int} (ha : s.heap.get? a = some (listOf vs.toArray n)) (hb : s.heap.get? b = some (listOf us.toArray n')) (hi : IntsAre vs r) (hj : IntsAre us r') (hu : A.units < cLine) : EqAt A s (.ref a) (.ref b) (decide (r = r')) := by
  by_cases hab : a = b
  · subst hab
    rw [ha] at hb
    have e : vs = us := by
      have := congrArg Obj.data (Option.some.inj hb)
      simp only [Data.seq.injEq] at this
      simpa using this.1
    subst e
    rw [intsAre_inj hi hj, decide_eq_true rfl]
    exact EqAt.same _
  · refine EqAt.of_refs hab ?_
    have l1 := hi.length
    have l2 := hj.length
    by_cases hl : vs.length = us.length
    · have := RcAt.lists (A := A) (s := s) (l := a) (b := b) (e := fun j => decide (r[j]? = r'[j]?)) ⟨_, ha, rfl, _, rfl⟩ ⟨_, hb, rfl, _, rfl⟩ (by simpa using hl) hu (fun j h1 h2 => ?_)
      · rw [show (vs.toArray).size = r.length by simp; omega, all_eq_dec _ r r' (by omega) (fun j h1 h2 => by simp [h1, h2])] at this
        exact this
      · simp only [List.size_toArray] at h1 h2
        obtain ⟨t, e1⟩ := intsAre_get j hi h1 (by omega)
        obtain ⟨u, e2⟩ := intsAre_get j hj h2 (by omega)
        rw [List.getElem_toArray, List.getElem_toArray, e1, e2]
        have := EqAt.int_int (A := A.in1) (s := s) r[j] t r'[j] u
        rw [show decide (r[j]? = r'[j]?) = (r[j] == r'[j]) by simp [show j < r.length by omega, show j < r'.length by omega, beq_dec]]
        exact this
    · rw [decide_eq_false (fun q => hl (by rw [l1, l2, q]))]
      exact RcAt.lists_lengths ⟨_, ha, rfl, _, rfl⟩ ⟨_, hb, rfl, _, rfl⟩ (by simpa using hl) hu
theorem lt_ints {r r' : List Int} (ha : s.heap.get? a = some (listOf vs.toArray n)) (hb : s.heap.get? b = some (listOf us.toArray n')) (hi : IntsAre vs r) (hj : IntsAre us r') (hu : A.units < cLine) : LtAt A s (.ref a) (.ref b) (ltI r r') := by
  have l1 := hi.length
  have l2 := hj.length
  have key : ∀ j (h1 : j < vs.toArray.size) (h2 : j < us.toArray.size), ∃ t u, vs.toArray[j] = .int (r.getD j 0) t ∧ us.toArray[j] = .int (r'.getD j 0) u := fun j h1 h2 => by
    simp only [List.size_toArray] at h1 h2
    obtain ⟨t, e1⟩ := intsAre_get j hi h1 (by omega)
    obtain ⟨u, e2⟩ := intsAre_get j hj h2 (by omega)
    exact ⟨t, u, by simp [e1, show j < r.length by omega], by simp [e2, show j < r'.length by omega]⟩
  have := LtAt.lists (A := A) (s := s) (e := fun j => decide (r.getD j 0 = r'.getD j 0)) (c := fun j => decide (r.getD j 0 < r'.getD j 0)) ha hb hu (fun j h1 h2 => ?_) (fun j h1 h2 _ => ?_)
  · rw [List.size_toArray, List.size_toArray, l1, l2, lexA_lexB (fun a b => decide (a = b)) (fun a b => decide (a < b)) _ _ r r' 0 (fun j h1 h2 => by simp [h1, h2]) (fun j h1 h2 _ => by simp [h1, h2])] at this
    exact this
  · obtain ⟨t, u, e1, e2⟩ := key j h1 h2
    rw [e1, e2]
    have := EqAt.int_int (A := A.in1) (s := s) (r.getD j 0) t (r'.getD j 0) u
    rw [beq_dec] at this
    exact this
  · obtain ⟨t, u, e1, e2⟩ := key j h1 h2
    rw [e1, e2]
    exact LtAt.ints _ _ _ _
end

/-- lists of ints, in a heap -/
inductive RanksAt (h : Heap) : List Value → List (List Int) → Prop
  | nil : RanksAt h [] []
  | cons {a : Addr} {vs us : List Value} {r : List Int} {rs : List (List Int)} {n : Nat} : h.get? a = some (listOf vs.toArray n) → IntsAre vs r → RanksAt h us rs → RanksAt h (.ref a :: us) (r :: rs)
theorem RanksAt.keeps {h h' : Heap} (hk : Ext h h') {us : List Value} {rs : List (List Int)} (x : RanksAt h us rs) : RanksAt h' us rs := by
  induction x with
  | nil => exact .nil
  | cons ho hi _ ih => exact .cons (hk _ _ ho) hi ih
theorem RanksAt.length {h : Heap} {us : List Value} {rs : List (List Int)} (x : RanksAt h us rs) : us.length = rs.length := by
  induction x with
  | nil => rfl
  | cons _ _ _ ih => simp [ih]
theorem RanksAt.at {h : Heap} : ∀ {us : List Value} {rs : List (List Int)} (i : Nat), RanksAt h us rs → (h1 : i < us.length) → ∃ a vs n, us[i] = .ref a ∧ h.get? a = some (listOf vs.toArray n) ∧ IntsAre vs (rs.getD i [])
  | _, _, i, .nil, h1 => by simp at h1
  | _, _, 0, .cons ho hi _, _ => ⟨_, _, _, rfl, ho, hi⟩
  | _, _, i + 1, .cons ho hi r, h1 => by
    obtain ⟨a, vs, n, e1, e2, e3⟩ := RanksAt.at i r (by simpa using h1)
    exact ⟨a, vs, n, by simpa using e1, e2, by simpa using e3⟩
theorem RanksAt.inj {h : Heap} : ∀ {us : List Value} {rs rs' : List (List Int)}, RanksAt h us rs → RanksAt h us rs' → rs = rs'
  | _, _, _, .nil, .nil => rfl
  | _, _, _, .cons (vs := vs) (n := n) ho hi r, .cons (vs := vs') (n := n') ho' hi' r' => by
    rw [ho] at ho'
    have e : vs = vs' := by
      have := Option.some.inj ho'
      have := congrArg Obj.data this
      simp only [Data.seq.injEq] at this
      simpa using this.1
    subst e
    rw [intsAre_inj hi hi', r.inj r']

section
variable {A : Around} {s : Shared} {a b : Addr} {us us' : List Value} {n n' : Nat} {k k' : List (List Int)}
theorem ranks_key (hi : RanksAt s.heap us k) (hj : RanksAt s.heap us' k') (j : Nat) (h1 : j < us.toArray.size) (h2 : j < us'.toArray.size) : ∃ p q vs ws m m', us.toArray[j] = .ref p ∧ us'.toArray[j] = .ref q ∧
    s.heap.get? p = some (listOf vs.toArray m) ∧ s.heap.get? q = some (listOf ws.toArray m') ∧ IntsAre vs (k.getD j []) ∧ IntsAre ws (k'.getD j []) := by
  obtain ⟨p, vs, m, e1, e2, e3⟩ := hi.at j (by simpa using h1)
  obtain ⟨q, ws, m', f1, f2, f3⟩ := hj.at j (by simpa using h2)
  exact ⟨p, q, vs, ws, m, m', by simpa using e1, by simpa using f1, e2, f2, e3, f3⟩
theorem eq_ranks (ha : s.heap.get? a = some (listOf us.toArray n)) (hb : s.heap.get? b = some (listOf us'.toArray n')) (hi : RanksAt s.heap us k) (hj : RanksAt s.heap us' k') (hu : A.units + 1 < cLine) : EqAt A s (.ref a) (.ref b) (decide (k = k')) := by
  by_cases hab : a = b
  · subst hab
    rw [ha] at hb
    have e : us = us' := by
      have := congrArg Obj.data (Option.some.inj hb)
      simp only [Data.seq.injEq] at this
      simpa using this.1
    subst e
    rw [hi.inj hj, decide_eq_true rfl]
    exact EqAt.same _
  · refine EqAt.of_refs hab ?_
    have l1 := hi.length
    have l2 := hj.length
    by_cases hl : us.length = us'.length
    · have := RcAt.lists (A := A) (s := s) (l := a) (b := b) (e := fun j => decide (k.getD j [] = k'.getD j [])) ⟨_, ha, rfl, _, rfl⟩ ⟨_, hb, rfl, _, rfl⟩ (by simpa using hl) (by omega) (fun j h1 h2 => ?_)
      · rw [show (us.toArray).size = k.length by simp; omega, all_eq_dec _ k k' (by omega) (fun j h1 h2 => by simp [h1, h2])] at this
        exact this
      · obtain ⟨p, q, vs, ws, m, m', e1, e2, e3, e4, e5, e6⟩ := ranks_key hi hj j h1 h2
        rw [e1, e2]
        exact eq_ints e3 e4 e5 e6 (by rw [units_in1]; omega)
    · rw [decide_eq_false (fun q => hl (by rw [l1, l2, q]))]
      exact RcAt.lists_lengths ⟨_, ha, rfl, _, rfl⟩ ⟨_, hb, rfl, _, rfl⟩ (by simpa using hl) (by omega)
theorem one_ranks {prog : Program} {w : World} {E : Value → Shared → Prop} {Q : Bool → Shared → Prop} (ha : s.heap.get? a = some (listOf us.toArray n)) (hb : s.heap.get? b = some (listOf us'.toArray n')) (hi : RanksAt s.heap us k) (hj : RanksAt s.heap us' k') (hu : A.units + 10 < cLine)
    (h : Q (ltR k k') s) : wpAny (model prog w) A (oneLt' true (.ref a) (.ref b)) Q E s := by
  have l1 := hi.length
  have l2 := hj.length
  refine one_list (e := fun j => decide (k.getD j [] = k'.getD j [])) (c := fun j => ltI (k.getD j []) (k'.getD j [])) ha hb (by omega) (fun j h1 h2 => ?_) (fun j h1 h2 _ => ?_) ?_
  · obtain ⟨p, q, vs, ws, m, m', e1, e2, e3, e4, e5, e6⟩ := ranks_key hi hj j h1 h2
    rw [e1, e2]
    exact eq_ints e3 e4 e5 e6 (by rw [units_in1]; omega)
  · obtain ⟨p, q, vs, ws, m, m', e1, e2, e3, e4, e5, e6⟩ := ranks_key hi hj j h1 h2
    rw [e1, e2]
    exact lt_ints e3 e4 e5 e6 (by rw [units_in1]; omega)
  · rw [List.size_toArray, List.size_toArray, l1, l2, lexA_lexB (fun a b => decide (a = b)) ltI _ _ k k' 0 (fun j h1 h2 => by simp [h1, h2]) (fun j h1 h2 _ => by simp [h1, h2])]
    exact h
end

/-- an item (rank, line), in a heap -/
abbrev tupO (its : Array Value) : Obj := { cls := .type "tuple", data := .seq its }
abbrev Key := List (List Int) × Str
def ItemAt (h : Heap) (v : Value) (k : Key) : Prop := ∃ a r us n t, v = .ref a ∧ h.get? a = some (tupO #[.ref r, .str k.2 t]) ∧ h.get? r = some (listOf us.toArray n) ∧ RanksAt h us k.1
theorem ItemAt.keeps {h h' : Heap} (hk : Ext h h') {v : Value} {k : Key} (x : ItemAt h v k) : ItemAt h' v k := by
  obtain ⟨a, r, us, n, t, e1, e2, e3, e4⟩ := x
  exact ⟨a, r, us, n, t, e1, hk _ _ e2, hk _ _ e3, e4.keeps hk⟩
/-- order of items -/
def ltK (k k' : Key) : Bool := if k.1 = k'.1 then (if k.2 = k'.2 then false else sl k.2 k'.2) else ltR k.1 k'.1

theorem key_lt {prog : Program} {w : World} {A : Around} {E : Value → Shared → Prop} {s : Shared} {v v' : Value} {k k' : Key} {Q : Bool → Shared → Prop} (hi : ItemAt s.heap v k) (hj : ItemAt s.heap v' k') (hu : A.units + 10 < cLine) (h : Q (ltK k k') s) :
    wpAny (model prog w) A (keyLt' (tuples' true) v v') Q E s := by
  obtain ⟨a, r, us, n, t, rfl, e2, e3, e4⟩ := hi
  obtain ⟨b, r', us', n', t', rfl, f2, f3, f4⟩ := hj
  refine kat_lt e2 rfl f2 rfl ?_
  refine kat_cons (eq_ranks e3 f3 e4 f4 (by omega) prog w _ _ ?_)
  unfold ltK at h
  by_cases q1 : k.1 = k'.1
  · rw [decide_eq_true q1]
    rw [if_pos q1] at h
    refine kat_yes (kat_cons (wpAny_eqBool_str ?_))
    by_cases q2 : k.2 = k'.2
    · rw [decide_eq_true q2]
      rw [if_pos q2] at h
      exact kat_yes (kat_nil h)
    · rw [decide_eq_false q2]
      rw [if_neg q2] at h
      exact kat_no (kat_one _ _ (PyProof.Rows.lt_str h))
  · rw [decide_eq_false q1]
    rw [if_neg q1] at h
    exact kat_no (one_ranks e3 f3 e4 f4 hu h)

end Mine
end

section
set_option maxRecDepth 100000
set_option maxHeartbeats 4000000
namespace Mine
local macro_rules | `(tactic| walk_at "go") => `(tactic| repeat' (first | walk1 | (dsimp only; walk1)))
local macro_rules | `(tactic| walk_at "look") => `(tactic| first | assumption | exact rfl | exact if_pos rfl | (refine Eq.trans (if_neg (by decide)) ?_; walk_at "look"))
local macro_rules | `(tactic| walk_at "eval Name") => `(tactic| (refine' ld ?k1 ?k2 ?_; (case k1 => with_reducible assumption); (case k2 => ((try dsimp only); walk_at "look")); k_whole))
local macro_rules | `(tactic| walk_at "exec For Name Call cons nil") => `(tactic| (refine wpAny_For ?_ (fun _ => rfl)))
local macro_rules | `(tactic| walk_at "exec For Name Name cons nil") => `(tactic| (refine wpAny_For ?_ (fun _ => rfl)))
local macro_rules | `(tactic| walk_at "binaryOp Add str str") => `(tactic| (refine PyProof.Rows.add_str ?h ?z; (case z => (simp only [Str.length_append, sizeLine_eq]; omega)); (intro _ _)))
local macro_rules | `(tactic| walk_at "exec While Compare cons nil") => `(tactic| refine stopw ?_)
local macro_rules | `(tactic| walk_at "eval Name") => `(tactic| (refine' nm_loc ?k1 ?k2 ?_ ?k4 ?k5 ?k6; (case k1 => with_reducible assumption); (case k2 => with_reducible assumption); (case k4 => rfl); (case k5 => rfl); (case k6 => decide); k_whole))
/-- a strict total order -/
structure TO {α : Type} (lt : α → α → Bool) : Prop where
  irr : ∀ a, lt a a = false
  tr : ∀ a b c, lt a b = true → lt b c = true → lt a c = true
  tot : ∀ a b, a ≠ b → lt a b = true ∨ lt b a = true
theorem TO.neg {α : Type} {lt : α → α → Bool} (T : TO lt) (a b c : α) (h : lt a c = true) : lt a b = true ∨ lt b c = true := by
  by_cases q : b = c
  · subst q; exact .inl h
  · rcases T.tot b c q with r | r
    · exact .inr r
    · exact .inl (T.tr _ _ _ h r)
theorem TO.asym {α : Type} {lt : α → α → Bool} (T : TO lt) {a b : α} (h : lt a b = true) : lt b a = false := by
  cases q : lt b a with
  | false => rfl
  | true => have := T.tr _ _ _ h q; rw [T.irr] at this; cases this

theorem to_lex {α : Type} [DecidableEq α] {lt : α → α → Bool} (T : TO lt) : TO (lexB (fun a b => decide (a = b)) lt) := by
  refine ⟨fun a => ?_, fun a b c => ?_, fun a b => ?_⟩
  · induction a with
    | nil => rfl
    | cons x xs ih => simp [lexB, ih]
  · induction a generalizing b c with
    | nil =>
      intro h1 h2
      cases c with
      | nil => cases b <;> simp [lexB] at h1 h2
      | cons z zs => rfl
    | cons x xs ih =>
      intro h1 h2
      cases b with
      | nil => simp [lexB] at h1
      | cons y ys =>
        cases c with
        | nil => simp [lexB] at h2
        | cons z zs =>
          simp only [lexB, decide_eq_true_eq] at h1 h2 ⊢
          by_cases q1 : x = y
          · subst q1
            rw [if_pos rfl] at h1
            by_cases q2 : x = z
            · rw [if_pos q2] at h2 ⊢
              exact ih _ _ h1 h2
            · rw [if_neg q2] at h2 ⊢
              exact h2
          · rw [if_neg q1] at h1
            by_cases q2 : y = z
            · subst q2
              rw [if_neg q1]
              exact h1
            · rw [if_neg q2] at h2
              have h3 := T.tr _ _ _ h1 h2
              have q3 : x ≠ z := fun q => by subst q; rw [T.irr] at h3; cases h3
              rw [if_neg q3]
              exact h3
  · induction a generalizing b with
    | nil =>
      intro h
      cases b with
      | nil => exact absurd rfl h
      | cons y ys => exact .inl rfl
    | cons x xs ih =>
      intro h
      cases b with
      | nil => exact .inr rfl
      | cons y ys =>
        simp only [lexB, decide_eq_true_eq]
        by_cases q : x = y
        · subst q
          rw [if_pos rfl, if_pos rfl]
          exact ih ys fun z => h (by rw [z])
        · rw [if_neg q, if_neg (fun z => q z.symm)]
          exact T.tot x y q
theorem to_int : TO (fun (a b : Int) => decide (a < b)) := ⟨fun a => by simp, fun a b c => by simp; omega, fun a b h => by simp; omega⟩
theorem to_nat : TO (fun (a b : Nat) => decide (a < b)) := ⟨fun a => by simp, fun a b c => by simp; omega, fun a b h => by simp; omega⟩
theorem to_ltI : TO ltI := to_lex to_int
theorem to_ltR : TO ltR := to_lex to_ltI

def ltN (a b : List Nat) : Bool := lexB (fun a b => decide (a = b)) (fun a b => decide (a < b)) a b
theorem to_ltN : TO ltN := to_lex to_nat
theorem ltN_eq : ∀ a b : List Nat, decide (a < b) = ltN a b
  | [], [] => by decide
  | [], y :: ys => by simp [ltN, lexB]
  | x :: xs, [] => by simp [ltN, lexB]
  | x :: xs, y :: ys => by
    have ih := ltN_eq xs ys
    unfold ltN lexB
    simp only [decide_eq_true_eq]
    by_cases q : x = y
    · subst q
      rw [if_pos rfl]
      exact (decide_eq_decide.mpr (by simp [List.cons_lt_cons_iff])).trans ih
    · rw [if_neg q]
      exact decide_eq_decide.mpr (by simp [List.cons_lt_cons_iff, q])
theorem sl_eq (x y : Str) : sl x y = ltN x.cps.toList y.cps.toList := ltN_eq _ _
theorem to_sl : TO sl := by
  refine ⟨fun a => ?_, fun a b c => ?_, fun a b h => ?_⟩
  · rw [sl_eq]; exact to_ltN.irr _
  · simp only [sl_eq]; exact to_ltN.tr _ _ _
  · simp only [sl_eq]
    exact to_ltN.tot _ _ fun q => h (str_ext (by simpa using q))
theorem to_ltK : TO ltK := by
  refine ⟨fun a => by simp [ltK], fun a b c h1 h2 => ?_, fun a b h => ?_⟩
  · unfold ltK at *
    by_cases q1 : a.1 = b.1
    · rw [if_pos q1] at h1
      by_cases q3 : a.2 = b.2
      · rw [if_pos q3] at h1; cases h1
      · rw [if_neg q3] at h1
        rw [q1]
        by_cases q2 : b.1 = c.1
        · rw [if_pos q2] at h2 ⊢
          by_cases q4 : b.2 = c.2
          · rw [if_pos q4] at h2; cases h2
          · rw [if_neg q4] at h2
            have := to_sl.tr _ _ _ h1 h2
            rw [if_neg (fun q => by rw [q, to_sl.irr] at this; cases this)]
            exact this
        · rw [if_neg q2] at h2 ⊢
          exact h2
    · rw [if_neg q1] at h1
      by_cases q2 : b.1 = c.1
      · rw [← q2, if_neg q1]
        exact h1
      · rw [if_neg q2] at h2
        have := to_ltR.tr _ _ _ h1 h2
        rw [if_neg (fun q => by rw [q, to_ltR.irr] at this; cases this)]
        exact this
  · unfold ltK
    by_cases q1 : a.1 = b.1
    · rw [if_pos q1, if_pos q1.symm]
      have q2 : a.2 ≠ b.2 := fun q => h (Prod.ext q1 q)
      rw [if_neg q2, if_neg (fun q => q2 q.symm)]
      exact to_sl.tot _ _ q2
    · rw [if_neg q1, if_neg (fun q => q1 q.symm)]
      exact to_ltR.tot _ _ q1

/-- items, in a heap -/
inductive ItemsAt (h : Heap) : List Value → List Key → Prop
  | nil : ItemsAt h [] []
  | cons {v : Value} {vs : List Value} {k : Key} {ks : List Key} : ItemAt h v k → ItemsAt h vs ks → ItemsAt h (v :: vs) (k :: ks)
theorem ItemsAt.keeps {h h' : Heap} (hk : Ext h h') {vs : List Value} {ks : List Key} (x : ItemsAt h vs ks) : ItemsAt h' vs ks := by
  induction x with
  | nil => exact .nil
  | cons hi _ ih => exact .cons (hi.keeps hk) ih
theorem ItemsAt.length {h : Heap} {vs : List Value} {ks : List Key} (x : ItemsAt h vs ks) : vs.length = ks.length := by
  induction x with
  | nil => rfl
  | cons _ _ ih => simp [ih]
theorem ItemsAt.append {h : Heap} {vs vs' : List Value} {ks ks' : List Key} (x : ItemsAt h vs ks) (y : ItemsAt h vs' ks') : ItemsAt h (vs ++ vs') (ks ++ ks') := by
  induction x with
  | nil => exact y
  | cons hi _ ih => exact .cons hi ih
theorem ItemsAt.take {h : Heap} : ∀ {vs : List Value} {ks : List Key} (i : Nat), ItemsAt h vs ks → ItemsAt h (vs.take i) (ks.take i)
  | _, _, _, .nil => by simpa using .nil
  | _, _, 0, .cons _ _ => .nil
  | _, _, i + 1, .cons hi r => .cons hi (r.take i)
theorem ItemsAt.drop {h : Heap} : ∀ {vs : List Value} {ks : List Key} (i : Nat), ItemsAt h vs ks → ItemsAt h (vs.drop i) (ks.drop i)
  | _, _, _, .nil => by simpa using .nil
  | _, _, 0, .cons hi r => .cons hi r
  | _, _, i + 1, .cons _ r => r.drop i
def kd : Key := ([], Str.empty)
theorem ItemsAt.at {h : Heap} : ∀ {vs : List Value} {ks : List Key} (i : Nat), ItemsAt h vs ks → i < vs.length → ItemAt h (vs.getD i .none) (ks.getD i kd)
  | _, _, i, .nil, h1 => by simp at h1
  | _, _, 0, .cons hi _, _ => by simpa using hi
  | _, _, i + 1, .cons _ r, h1 => by simpa using r.at i (by simpa using h1)

/-- in order -/
def Srt (ks : List Key) : Prop := ks.Pairwise fun a b => ltK b a = false
theorem tups_of {h : Heap} {vs : List Value} {ks : List Key} (x : ItemsAt h vs ks) : ∃ fs, KatTups h vs fs ∧ fs.length = vs.length ∧ ∀ v ∈ fs, ∃ r us n, v = .ref r ∧ h.get? r = some (listOf us n) := by
  induction x with
  | nil => exact ⟨[], .nil, rfl, fun v hv => by cases hv⟩
  | cons hi _ ih =>
    obtain ⟨fs, h1, h2, h3⟩ := ih
    obtain ⟨a, r, us, n, t, rfl, e2, e3, e4⟩ := hi
    refine ⟨.ref r :: fs, .cons e2 rfl rfl rfl h1, by simp [h2], fun v hv => ?_⟩
    rcases List.mem_cons.mp hv with rfl | hv
    · exact ⟨r, _, n, rfl, e3⟩
    · exact h3 v hv
theorem ins_map (vs : List Value) (v : Value) (l : Nat) (hl : l ≤ vs.length) : (insP vs.length l).map (fun i => (vs ++ [v]).getD i Value.none) = vs.take l ++ [v] ++ vs.drop l := by
  apply List.ext_getElem?
  intro k
  rw [List.getElem?_map, insP_get _ _ _ hl]
  by_cases h1 : k < l
  · rw [if_pos h1, List.getElem?_append_left (by simp; omega), List.getElem?_append_left (by simp; omega)]
    have q : k < vs.length := by omega
    rw [Option.map_some, List.getD_eq_getElem?_getD, List.getElem?_append_left q]
    simp [h1, q]
  · rw [if_neg h1]
    by_cases h2 : k = l
    · subst h2
      rw [if_pos rfl, List.getElem?_append_left (by simp; omega), List.getElem?_append_right (by simp; omega)]
      simp [hl]
    · rw [if_neg h2, List.getElem?_append_right (by simp; omega)]
      by_cases h3 : k ≤ vs.length
      · rw [if_pos h3]
        have e : k - (vs.take l ++ [v]).length = k - 1 - l := by simp; omega
        rw [e, List.getElem?_drop, show l + (k - 1 - l) = k - 1 by omega]
        have q : k - 1 < vs.length := by omega
        rw [Option.map_some, List.getD_eq_getElem?_getD, List.getElem?_append_left q]
        simp [q]
      · rw [if_neg h3]
        simp
        omega
theorem srt_ins {ks : List Key} {k : Key} {l : Nat} (hs : Srt ks) (hl : l ≤ ks.length) (h1 : ∀ i, i < l → ltK k (ks.getD i kd) = false) (h2 : ∀ i, l ≤ i → i < ks.length → ltK k (ks.getD i kd) = true) : Srt (ks.take l ++ [k] ++ ks.drop l) := by
  unfold Srt at *
  rw [List.append_assoc, List.pairwise_append]
  refine ⟨hs.sublist (List.take_sublist _ _), ?_, ?_⟩
  · rw [List.singleton_append, List.pairwise_cons]
    refine ⟨fun b hb => ?_, hs.sublist (List.drop_sublist _ _)⟩
    obtain ⟨i, hi, rfl⟩ := List.getElem_of_mem hb
    rw [List.length_drop] at hi
    have := h2 (l + i) (by omega) (by omega)
    rw [List.getElem_drop]
    exact to_ltK.asym (by simpa [show l + i < ks.length by omega] using this)
  · intro a ha b hb
    obtain ⟨i, hi, rfl⟩ := List.getElem_of_mem ha
    rw [List.length_take] at hi
    rw [List.getElem_take]
    rcases List.mem_append.mp hb with hb | hb
    · rw [List.mem_singleton.mp hb]
      have := h1 i (by omega)
      simpa [show i < ks.length by omega] using this
    · obtain ⟨j, hj, rfl⟩ := List.getElem_of_mem hb
      rw [List.length_drop] at hj
      rw [List.getElem_drop]
      exact List.pairwise_iff_getElem.mp hs i (l + j) (by omega) (by omega) (by omega)

theorem sort_spec {w : World} {A : Around} {E : Value → Shared → Prop} {s : Shared} {b g : Heap} {L D : Addr} {m : Str → Option Value} {vs : List Value} {v : Value} {ks : List Key} {k : Key} {n : Nat} {Q : Value → Shared → Prop}
    (F : Fr g L s.heap m) (N : News g L s.heap [(D, listOf (vs ++ [v]).toArray n)]) (hbg : Ext b g) (hit : ItemsAt b vs ks) (hik : ItemAt b v k) (hs : Srt ks) (hl : vs.length < 60) (hu : A.units + 30 < cLine) (h1 : 1 ≤ vs.length)
    (h : ∀ h' vs' ks' n', Fr g L h' m → News g L h' [(D, listOf vs'.toArray n')] → ItemsAt b vs' ks' → Srt ks' → ks'.Perm (k :: ks) → (∀ u ∈ vs', u ∈ v :: vs) → Q .none { s with heap := h' }) :
    wpAny (model PP w) A (call (.builtin "list.sort") [.ref D]) Q E s := by
  have hlk := hit.length
  have hall : ItemsAt b (vs ++ [v]) (ks ++ [k]) := hit.append (.cons hik .nil)
  refine kat_lsort (vs := vs ++ [v]) F N (.head (fun _ h => by cases h)) (by simp) (by simp; omega) (by simp; omega) fun e1 h' F' N' => ?_
  obtain ⟨fs, t1, t2, t3⟩ := tups_of (hall.keeps (hbg.trans F'.keep))
  refine kat_kind (T := .type "list") (s := { s with heap := h' }) t1 (by rw [t2]; simp) (fun x hx => ?_) rfl ?_
  · obtain ⟨r, us, nn, rfl, hr⟩ := t3 x hx
    exact show Looks _ h' (typeOf (.ref r)) (listOf us nn).cls from (Looks.ld hr).andThen .now
  · show (kas_sort (vs ++ [v]).length).kasWp (kas_ask PP w A.in1 (tuples' true) (vs ++ [v])) _ _
    rw [show (vs ++ [v]).length = vs.length + 1 by simp]
    refine app_sort (n := vs.length) (lt := fun i j => ltK ((ks ++ [k]).getD i kd) ((ks ++ [k]).getD j kd)) (inv := fun s' => s' = { s with heap := h' }) (fun i j C s' hi hj hs' hC => ?_) h1 (fun i hi => ?_) (fun i j hij hj hlt => ?_) (fun q1 q2 => ?_) rfl (fun p l s' hs' hl' a a2 hp => ?_)
    · subst hs'
      exact key_lt ((hall.at i (by simp; omega)).keeps (hbg.trans F'.keep)) ((hall.at j (by simp; omega)).keeps (hbg.trans F'.keep)) (by rw [units_in1]; omega) (hC _ rfl)
    · have hi' : i + 1 < ks.length := by omega
      have := List.pairwise_iff_getElem.mp hs i (i + 1) (by omega) hi' (by omega)
      simp only [List.getD_eq_getElem?_getD, List.getElem?_append_left hi', List.getElem?_append_left (show i < ks.length by omega)]
      simpa [hi', show i < ks.length by omega] using this
    · have hj' : j < ks.length := by omega
      rcases to_ltK.neg _ ((ks ++ [k]).getD j kd) _ hlt with q | q
      · exact q
      · rcases Nat.lt_or_ge i j with z | z
        · have := List.pairwise_iff_getElem.mp hs i j (by omega) hj' z
          simp only [List.getD_eq_getElem?_getD, List.getElem?_append_left hj', List.getElem?_append_left (show i < ks.length by omega)] at q
          simp only [List.getElem?_eq_getElem hj', List.getElem?_eq_getElem (show i < ks.length by omega), Option.getD_some] at q
          rw [this] at q
          cases q
        · rw [show j = i by omega]
          exact hlt
    · rcases to_ltK.neg _ ((ks ++ [k]).getD 0 kd) _ q2 with q | q
      · exact q
      · rw [q1] at q
        cases q
    · subst hs'
      have ek : ∀ i, i < ks.length → (ks ++ [k]).getD i kd = ks.getD i kd := fun i hi => by simp only [List.getD_eq_getElem?_getD, List.getElem?_append_left hi]
      have en : (ks ++ [k]).getD vs.length kd = k := by rw [hlk]; simp
      have hsrt := srt_ins (k := k) (l := l) hs (by omega) (fun i hi => by have := a i hi; rw [en, ek i (by omega)] at this; exact this) (fun i h1 h2 => by have := a2 i h1 (by omega); rw [en, ek i h2] at this; exact this)
      rw [hp, ins_map vs v l hl']
      refine KasFin.intro F' N' (.head (fun _ h => by cases h)) fun h2 c F2 N2 => ?_
      refine h h2 _ _ c F2 N2 (((hit.take l).append (.cons hik .nil)).append (hit.drop l)) hsrt ?_ (fun u hu => ?_)
      rotate_left
      · rcases List.mem_append.mp hu with hu | hu
        · rcases List.mem_append.mp hu with hu | hu
          · exact .tail _ (List.mem_of_mem_take hu)
          · rw [List.mem_singleton.mp hu]
            exact .head _
        · exact .tail _ (List.mem_of_mem_drop hu)
      have : (ks.take l ++ [k] ++ ks.drop l).Perm (k :: (ks.take l ++ ks.drop l)) := by
        rw [List.append_assoc]
        exact List.perm_middle
      rw [List.take_append_drop] at this
      exact this

/-- the sort of one item -/
theorem sort_one {w : World} {A : Around} {E : Value → Shared → Prop} {s : Shared} {g : Heap} {L D : Addr} {m : Str → Option Value} {v : Value} {n : Nat} {Q : Value → Shared → Prop}
    (F : Fr g L s.heap m) (N : News g L s.heap [(D, listOf #[v] n)])
    (h : ∀ h' n', Fr g L h' m → News g L h' [(D, listOf #[v] n')] → Q .none { s with heap := h' }) :
    wpAny (model PP w) A (call (.builtin "list.sort") [.ref D]) Q E s := by
  have z := N _ (.head _)
  have ho : s.heap.get? D = some (listOf #[v] n) := z.1
  refine wpAny_call_entry slot_list_sort ⟨_, ho, rfl⟩ entry_list_sort ?_ (args_list_sort _)
  rw [list_sort_plain]
  refine wpAny_bind (listItems_at ho rfl ?_)
  refine wpAny_bind (listUpdate_at ho rfl ?_ (by show 1 ≤ _; rw [sizeLine_eq]; decide) (Nat.zero_le _))
  obtain ⟨e1, ho1⟩ : ∃ e1, (s.heap.update D (Obj.mapSeq fun _ => (#[] : Array Value))).get? D = some (seqObj "list" #[] e1) := ⟨_, get?_update_seq ho fun _ => #[]⟩
  have F1 : Fr g L (s.heap.update D (Obj.mapSeq fun _ => (#[] : Array Value))) m := F.change (Heap.SameBut.update ..) z.2.1 z.2.2
  generalize s.heap.update D (Obj.mapSeq fun _ => (#[] : Array Value)) = h1 at ho1 F1
  refine wpAny_bind (seqEpoch_at ho1 rfl ?_)
  refine wpAny_bind (wpAny_newTuple ?_ (by show 1 ≤ _; rw [sizeLine_eq]; decide))
  refine wpAny_bind (wpAny_newList ?_ (Nat.zero_le _))
  refine wpAny_holding ?_
  dsimp only
  have F2 := (F1.push (seqObj "tuple" #[v] 0)).push (seqObj "list" #[] 0)
  have ho2 : ((h1.push (seqObj "tuple" #[v] 0)).push (seqObj "list" #[] 0)).get? D = some (seqObj "list" #[] e1) := Heap.get?_push_of_some _ (Heap.get?_push_of_some _ ho1)
  show wpAny (model PP w) _ _ _ E { s with heap := (h1.push (seqObj "tuple" #[v] 0)).push (seqObj "list" #[] 0) }
  generalize (h1.push (seqObj "tuple" #[v] 0)).push (seqObj "list" #[] 0) = h2 at ho2 F2
  have h12 : (#[v] : Array Value).size < 2 := by simp
  rw [if_pos h12, if_pos h12]
  refine wpAny_bind (wpAny_pure ?_)
  rw [StateT.run_pure]
  refine wpAny_bind (wpAny_pure ?_)
  dsimp only
  refine wpAny_bind (seqEpoch_at ho2 rfl ?_)
  have em : Array.map (fun x => x.snd) (arrOf (SortSt.mk' general' (#[v].zip #[v]) #[] 7 none)) = #[v] := by
    show Array.map (fun (x : Keyed) => x.snd) (#[v].zip #[v]) = #[v]
    simp
  rw [em]
  refine wpAny_bind (listUpdate_at ho2 rfl ?_ (Nat.zero_le _) (by show 1 ≤ _; rw [sizeLine_eq]; decide))
  simp only [bne_self_eq_false, Bool.false_eq_true, if_false]
  obtain ⟨c2, hc2⟩ : ∃ c2, (h2.update D (Obj.mapSeq fun _ => #[v])).get? D = some (seqObj "list" #[v] c2) := ⟨_, get?_update_seq ho2 fun _ => #[v]⟩
  exact wpAny_pure ⟨_, rfl, h _ c2 (F2.change (Heap.SameBut.update ..) z.2.1 z.2.2) (news_one hc2 z.2.1 z.2.2)⟩

end Mine
end

section
set_option maxRecDepth 100000
set_option maxHeartbeats 4000000
namespace Mine
local macro_rules | `(tactic| walk_at "go") => `(tactic| repeat' (first | walk1 | (dsimp only; walk1)))
local macro_rules | `(tactic| walk_at "look") => `(tactic| first | assumption | exact rfl | exact if_pos rfl | (refine Eq.trans (if_neg (by decide)) ?_; walk_at "look"))
local macro_rules | `(tactic| walk_at "eval Name") => `(tactic| (refine' ld ?k1 ?k2 ?_; (case k1 => with_reducible assumption); (case k2 => ((try dsimp only); walk_at "look")); k_whole))
local macro_rules | `(tactic| walk_at "exec For Name Call cons nil") => `(tactic| (refine wpAny_For ?_ (fun _ => rfl)))
local macro_rules | `(tactic| walk_at "exec For Name Name cons nil") => `(tactic| (refine wpAny_For ?_ (fun _ => rfl)))
local macro_rules | `(tactic| walk_at "binaryOp Add str str") => `(tactic| (refine PyProof.Rows.add_str ?h ?z; (case z => (simp only [Str.length_append, sizeLine_eq]; omega)); (intro _ _)))
local macro_rules | `(tactic| walk_at "exec While Compare cons nil") => `(tactic| refine stopw ?_)
local macro_rules | `(tactic| walk_at "eval Name") => `(tactic| (refine' nm_loc ?k1 ?k2 ?_ ?k4 ?k5 ?k6; (case k1 => with_reducible assumption); (case k2 => with_reducible assumption); (case k4 => rfl); (case k5 => rfl); (case k6 => decide); k_whole))
local macro_rules | `(tactic| walk_at "call builtin:list.append") => `(tactic| refine stopw ?_)
local macro_rules | `(tactic| walk_at "call builtin:list.sort") => `(tactic| refine stopw ?_)
local macro_rules | `(tactic| walk_at "call builtin:list.pop") => `(tactic| refine stopw ?_)
local macro_rules | `(tactic| walk_at "compareOp Eq ref ref") => `(tactic| refine stopw ?_)
local macro_rules | `(tactic| walk_at "subscriptTail") => `(tactic| refine stopw ?_)
local macro_rules | `(tactic| walk_at "subscriptTail Name Constant ref int") => `(tactic| refine stopw ?_)

theorem sort_any {w : World} {A : Around} {E : Value → Shared → Prop} {s : Shared} {b g : Heap} {L D : Addr} {m : Str → Option Value} {vs : List Value} {v : Value} {ks : List Key} {k : Key} {n : Nat} {Q : Value → Shared → Prop}
    (F : Fr g L s.heap m) (N : News g L s.heap [(D, listOf (vs ++ [v]).toArray n)]) (hbg : Ext b g) (hit : ItemsAt b vs ks) (hik : ItemAt b v k) (hs : Srt ks) (hl : vs.length < 60) (hu : A.units + 30 < cLine)
    (h : ∀ h' vs' ks' n', Fr g L h' m → News g L h' [(D, listOf vs'.toArray n')] → ItemsAt b vs' ks' → Srt ks' → ks'.Perm (k :: ks) → (∀ u ∈ vs', u ∈ v :: vs) → Q .none { s with heap := h' }) :
    wpAny (model PP w) A (call (.builtin "list.sort") [.ref D]) Q E s := by
  cases hit with
  | nil => exact sort_one F N fun h' n' F' N' => h h' [v] [k] n' F' N' (.cons hik .nil) (by simp [Srt]) (.refl _) (fun u hu => hu)
  | cons hi hr => exact sort_spec F N hbg (.cons hi hr) hik hs hl hu (by simp) h

/-- append, then sort -/
theorem app_item {w : World} {A : Around} {E : Value → Shared → Prop} {s : Shared} {g : Heap} {L D : Addr} {m : Str → Option Value} {vs : List Value} {v : Value} {n : Nat} {Q : Value → Shared → Prop}
    (F : Fr g L s.heap m) (N : News g L s.heap [(D, listOf vs.toArray n)]) (hl : vs.length < 60)
    (h : ∀ h' n', Fr g L h' m → News g L h' [(D, listOf (vs ++ [v]).toArray n')] → Q .none { s with heap := h' }) :
    wpAny (model PP w) A (call (.builtin "list.append") [.ref D, v]) Q E s := by
  have z := N _ (.head _)
  refine append_at z.1 (by simp; omega) fun h2 k2 hs2 ho2 => ?_
  exact h h2 k2 (fr_mut F hs2.extBut z.2.2 z.2.1) (news_one (by rw [ho2]; simp) z.2.1 z.2.2)

def AnsR (kind : Nat) (ks : List Key) (k : Key) (ks' : List Key) (res : List (Option Str)) : Prop :=
  Srt ks' ∧ ((kind < 5 ∧ ks'.Perm (k :: ks) ∧ res = [none]) ∨ (5 ≤ kind ∧ kind ≤ 7 ∧ ks = [] ∧ ks' = [] ∧ res = []) ∨ (5 ≤ kind ∧ kind < 7 ∧ ∃ k0, ks = k0 :: ks' ∧ res = [some k0.2]) ∨
    (kind = 7 ∧ ∃ k0 r, ks = k0 :: r ∧ ks'.Perm (k :: r) ∧ res = [some k0.2]) ∨ (8 ≤ kind ∧ ∃ k0, Srt (k0 :: ks') ∧ (k0 :: ks').Perm (k :: ks) ∧ res = [some k0.2]))

theorem answer_spec {w : World} {mg mb : Str → Option Value} {A : Around} {E : Value → Shared → Prop} {s : Shared} {b : Heap} {D : Addr} {vs : List Value} {v : Value} {ks : List Key} {k : Key} {n kind : Nat} {tk : Tok} {Q : Value → Shared → Prop}
    (G : Gd w mg mb b) (hb : Ext b s.heap) (hD : b.get? D = none) (hoD : s.heap.get? D = some (listOf vs.toArray n)) (R : Room 0 A) (hit : ItemsAt b vs ks) (hik : ItemAt b v k) (hs : Srt ks) (hl : vs.length < 50) (hk : kind < 10)
    (h : ∀ r h' tk items nr vs' n' ks' res, ExtB D s.heap h' → s.heap.get? r = none → h'.get? r = some (listOf items.toArray nr) → ResIs items res → h'.get? D = some (listOf vs'.toArray n') → ItemsAt b vs' ks' → AnsR kind ks k ks' res → (∀ u ∈ vs', u ∈ v :: vs) → Q (.ref r) { s with heap := h', toks := tk }) :
    wpAny (model PP w) A (call (.ref 140) [.ref D, .int kind tk, v]) Q E s := by
  refine' enterH (binds := [(Str.ofString "kept", .ref D), (Str.ofString "kind", .int kind tk), (Str.ofString "item", v)]) G hb hD hoD R ?ho ?hc ?hb ?hl ?_ ?c1 ?c2 ?c3 ?c4
  case ho => exact rfl
  case hc => exact rfl
  case hb => exact BindsTo.of_eq rfl
  case hl => exact locs rfl
  case c1 => decide
  case c2 => rfl
  case c3 => rfl
  case c4 => rfl
  intro g L' h₁ G2 hg hgD F N
  have KX : (hd.heap_39 w.params).In g := G2.X
  have TX := G2.T
  have hbg : Ext b g := fun p o e => hg p o (fun q => by subst q; rw [hD] at e; cases e) (hb p o e)
  have hu := R.u
  try dsimp only
  have fresh : ∀ p, g.get? p = none → p ≠ D → s.heap.get? p = none := fun p e q => by
    cases z : s.heap.get? p with
    | none => rfl
    | some o => rw [hg p o q z] at e; cases e
  walk_at "go"
  · unfold StopW
    refine app_item F N (by omega) fun h2 n2 F2 N2 => ?_
    clear F N
    walk_at "go"
    unfold StopW
    refine sort_any (by assumption) (by assumption) hbg hit hik hs (by omega) (by simp only [units_deeper, cLine]; omega) fun h3 vs3 ks3 n3 F3 N3 hit3 hs3 hp3 hm3 => ?_
    clear F2 N2
    walk_at "go"
    rename Fr g L' _ _ => F4
    rename News g L' _ _ => N4
    skip
    refine h _ _ _ [.none] _ vs3 n3 ks3 _ (fun p o hp e => F4.keep p o (hg p o hp e)) (fresh _ (N4.fresh (.head _)) (Nat.ne_of_gt (by first | assumption | exact And.right (by assumption)))) (N4.get (.head _)) .none (N4.get (.tail _ (.head _))) hit3 ⟨hs3, .inl ⟨by omega, hp3, rfl⟩⟩ hm3
  · unfold StopW
    refine app_item F N (by omega) fun h2 n2 F2 N2 => ?_
    clear F N
    walk_at "go"
    unfold StopW
    refine sort_any (by assumption) (by assumption) hbg hit hik hs (by omega) (by simp only [units_deeper, cLine]; omega) fun h3 vs3 ks3 n3 F3' N3' hit3 hs1 hperm hm3 => ?_
    have hlen1 : vs3.length < 60 := by rw [hit3.length, hperm.length_eq, List.length_cons, ← hit.length]; omega
    clear F2 N2
    walk_at "go"
    unfold StopW
    rename Fr g L' _ _ => F3
    rename News g L' _ _ => N3
    cases hit3 with
    | nil =>
      refine SeqAt.eq_listAt (N3.isList (.tail _ (.head _))) (N3.isList (.head _)) rfl (by simp only [units_deeper, cLine]; omega) (e := fun _ => true) (fun j h1 h2 => by simp at h1) ?_
      walk_at "go"
      exact absurd hperm.length_eq (by simp)
    | cons hi0 hir =>
      rename_i v0 vs0 k0 ks0
      refine SeqAt.eq_list_lengthsAt (N3.isList (.tail _ (.head _))) (N3.isList (.head _)) (by simp) (by simp only [units_deeper, cLine]; omega) ?_
      replace N3 : News g L' _ [(D, _)] := fun p hp => N3 p (.tail _ hp)
      walk_at "go"
      unfold StopW
      rename Fr g L' _ _ => F5
      rename News g L' _ _ => N5
      refine kl_popAt F5 N5 (k := 0) (p := []) (q := vs0) (y := v0) rfl (by simp [seqIndex?]) rfl (news' := [(D, listOf ([] ++ vs0).toArray _)]) (.head (fun _ h => by cases h)) (by rw [sizeLine_eq]; simp at hlen1 ⊢; omega) fun h6 F6 N6 => ?_
      clear F5 N5; (try clear F3); (try clear N3)
      have hs0 := (List.pairwise_cons.mp hs1).2
      walk_at "go"
      · exact absurd (by assumption : (kind : Int) = 7) (by omega)
      · skip
        unfold StopW
        obtain ⟨a0, r0, us0, n0, t0, rfl, e2, e3, e4⟩ := id hi0
        rename Fr g L' _ _ => F7
        refine item_tuple ⟨_, F7.keep _ _ (hbg _ _ e2), rfl, _, rfl⟩ (by decide) (by decide) (j := 1) rfl rfl ?_
        walk_at "go"
        rename Fr g L' _ _ => F8
        rename News g L' _ _ => N8
        skip
        refine h _ _ _ [.str _ _] _ vs0 _ ks0 _ (fun p o hp e => F8.keep p o (hg p o hp e)) (fresh _ (N8.fresh (.head _)) (Nat.ne_of_gt (by first | assumption | exact And.right (by assumption)))) (N8.get (.head _)) (.one _ _) (N8.get (.tail _ (.head _))) hir ⟨hs0, .inr (.inr (.inr (.inr ⟨by omega, k0, hs1, hperm, rfl⟩)))⟩ (fun u hu => hm3 u (.tail _ hu))
  · have hs1 := hs
    have hlen1 : vs.length < 60 := by omega
    unfold StopW
    rename Fr g L' _ _ => F3
    rename News g L' _ _ => N3
    cases hit with
    | nil =>
      refine SeqAt.eq_listAt (N3.isList (.tail _ (.head _))) (N3.isList (.head _)) rfl (by simp only [units_deeper, cLine]; omega) (e := fun _ => true) (fun j h1 h2 => by simp at h1) ?_
      walk_at "go"
      rename Fr g L' _ _ => F4
      rename News g L' _ _ => N4
      skip
      exact h _ _ _ [] _ [] n [] [] (fun p o hp e => F4.keep p o (hg p o hp e)) (fresh _ (N4.fresh (.head _)) (Nat.ne_of_gt (by first | assumption | exact And.right (by assumption)))) (N4.get (.head _)) .nil (N4.get (.tail _ (.tail _ (.head _)))) .nil ⟨List.Pairwise.nil, .inr (.inl ⟨by omega, by omega, rfl, rfl, rfl⟩)⟩ (fun u hu => by cases hu)
    | cons hi0 hir =>
      rename_i v0 vs0 k0 ks0
      refine SeqAt.eq_list_lengthsAt (N3.isList (.tail _ (.head _))) (N3.isList (.head _)) (by simp) (by simp only [units_deeper, cLine]; omega) ?_
      replace N3 : News g L' _ [(D, _)] := fun p hp => N3 p (.tail _ hp)
      walk_at "go"
      unfold StopW
      rename Fr g L' _ _ => F5
      rename News g L' _ _ => N5
      refine kl_popAt F5 N5 (k := 0) (p := []) (q := vs0) (y := v0) rfl (by simp [seqIndex?]) rfl (news' := [(D, listOf ([] ++ vs0).toArray _)]) (.head (fun _ h => by cases h)) (by rw [sizeLine_eq]; simp at hlen1 ⊢; omega) fun h6 F6 N6 => ?_
      clear F5 N5; (try clear F3); (try clear N3)
      have hs0 := (List.pairwise_cons.mp hs1).2
      walk_at "go"
      · rename (kind : Int) = 7 => h7
        unfold StopW
        refine app_item (vs := vs0) (by assumption) (by assumption) (by simp at hlen1; omega) fun h7' n7 F7 N7 => ?_
        (try clear F6); (try clear N6)
        walk_at "go"
        unfold StopW
        refine sort_any (by assumption) (by assumption) hbg hir hik hs0 (by simp at hlen1; omega) (by simp only [units_deeper, cLine]; omega) fun h9 vs9 ks9 n9 F9 N9 hit9 hs9 hp9 hm9 => ?_
        (try clear F7); (try clear N7)
        walk_at "go"
        unfold StopW
        obtain ⟨a0, r0, us0, n0, t0, rfl, e2, e3, e4⟩ := id hi0
        rename Fr g L' _ _ => F7
        refine item_tuple ⟨_, F7.keep _ _ (hbg _ _ e2), rfl, _, rfl⟩ (by decide) (by decide) (j := 1) rfl rfl ?_
        walk_at "go"
        rename Fr g L' _ _ => F8
        rename News g L' _ _ => N8
        skip
        refine h _ _ _ [.str _ _] _ vs9 n9 ks9 _ (fun p o hp e => F8.keep p o (hg p o hp e)) (fresh _ (N8.fresh (.head _)) (Nat.ne_of_gt (by first | assumption | exact And.right (by assumption)))) (N8.get (.head _)) (.one _ _) (N8.get (.tail _ (.head _))) hit9 ⟨hs9, .inr (.inr (.inr (.inl ⟨by omega, k0, ks0, rfl, hp9, rfl⟩)))⟩ (fun u hu => by
          rcases List.mem_cons.mp (hm9 u hu) with h | h
          · exact h ▸ .head _
          · exact .tail _ (.tail _ h))
      · rename (kind : Int) ≠ 7 => h7
        unfold StopW
        obtain ⟨a0, r0, us0, n0, t0, rfl, e2, e3, e4⟩ := id hi0
        rename Fr g L' _ _ => F7
        refine item_tuple ⟨_, F7.keep _ _ (hbg _ _ e2), rfl, _, rfl⟩ (by decide) (by decide) (j := 1) rfl rfl ?_
        walk_at "go"
        rename Fr g L' _ _ => F8
        rename News g L' _ _ => N8
        skip
        refine h _ _ _ [.str _ _] _ vs0 _ ks0 _ (fun p o hp e => F8.keep p o (hg p o hp e)) (fresh _ (N8.fresh (.head _)) (Nat.ne_of_gt (by first | assumption | exact And.right (by assumption)))) (N8.get (.head _)) (.one _ _) (N8.get (.tail _ (.head _))) hir ⟨hs0, .inr (.inr (.inl ⟨by omega, by omega, k0, rfl, rfl⟩))⟩ (fun u hu => .tail _ (.tail _ hu))

end Mine
end

section
set_option maxRecDepth 100000
set_option maxHeartbeats 4000000
namespace Mine
local macro_rules | `(tactic| walk_at "go") => `(tactic| repeat' (first | walk1 | (dsimp only; walk1)))
local macro_rules | `(tactic| walk_at "look") => `(tactic| first | assumption | exact rfl | exact if_pos rfl | (refine Eq.trans (if_neg (by decide)) ?_; walk_at "look"))
local macro_rules | `(tactic| walk_at "eval Name") => `(tactic| (refine' ld ?k1 ?k2 ?_; (case k1 => with_reducible assumption); (case k2 => ((try dsimp only); walk_at "look")); k_whole))
local macro_rules | `(tactic| walk_at "exec For Name Call cons nil") => `(tactic| (refine wpAny_For ?_ (fun _ => rfl)))
local macro_rules | `(tactic| walk_at "exec For Name Name cons nil") => `(tactic| (refine wpAny_For ?_ (fun _ => rfl)))
local macro_rules | `(tactic| walk_at "binaryOp Add str str") => `(tactic| (refine PyProof.Rows.add_str ?h ?z; (case z => (simp only [Str.length_append, sizeLine_eq]; omega)); (intro _ _)))
local macro_rules | `(tactic| walk_at "exec While Compare cons nil") => `(tactic| refine stopw ?_)
local macro_rules | `(tactic| walk_at "eval Name") => `(tactic| (refine' nm_loc ?k1 ?k2 ?_ ?k4 ?k5 ?k6; (case k1 => with_reducible assumption); (case k2 => with_reducible assumption); (case k4 => rfl); (case k5 => rfl); (case k6 => decide); k_whole))
/-- a call of a function with cells, that never raises -/
theorem enterC {w : World} {mg mb : Str → Option Value} {A : Around} {E : Value → Shared → Prop} {s : Shared} {name qual : Str} {params : Arguments} {body : List Stmt} {scope : Scope} {dV kV doc pm cdv ct oc : Value} {an od : Option Addr} {osl : Array (Option Value)} {f : Addr} {args : List Value} {binds : List (Str × Value)} {Q : Value → Shared → Prop}
    (G : Gd w mg mb s.heap) {k : Nat} (R : Room k A)
    (ho : (KK w).lookup f = some ⟨oc, od, .func (fnOf name qual params body scope dV kV doc pm an cdv ct), osl⟩) (hcd : codeIn (KK w) cdv qual = true)
    (hbind : BindsTo s (fnOf name qual params body scope dV kV doc pm an cdv ct) ⟨args, []⟩ binds)
    (hkind : ∀ n, ∀ x ∈ binds, scope.names.lookup x.1 = some .local ∨ (scope.names.lookup x.1 = some .cell ∧ ((cellsFrom n scope.names []).lookup x.1).isSome = true))
    (hnd : ((cellsFrom 0 scope.names []).map (·.1)).Nodup)
    (h : ∀ L' h₁ tk cells, L' = s.heap.objs.size → Fr s.heap L' h₁ (bindL (envOfC qual scope L' f cdv).kindOf binds fun _ => none) → News s.heap L' h₁ cells →
      CellsAre (bindC (envOfC qual scope L' f cdv).kindOf binds fun _ => none) (cellsFrom (L' + 1) scope.names []) cells →
      wpAny (model PP w) (A.deeper (envOfC qual scope L' f cdv)) (execs body (envOfC qual scope L' f cdv))
        (fun fl s' => Q (match fl with | .ret v => v | _ => .none) s') (fun _ _ => False) { s with heap := h₁, toks := tk })
    (hco : scope.isCoroutine = false) (hgen : scope.isGenerator = false) (hk : scope.kind = .function) :
    wpAny (model PP w) A (call (.ref f) args) Q E s := by
  refine wpAny_call (codeAny_call_function (by have := R.d; simp only [recursionLimit]; omega) (G.X _ _ ho) rfl hco hgen rfl (codeRec_of G.X hcd) (hbind _ _ _ _ ?_))
  refine wpAny_newFunctionEnv_cells hk (hkind _) fun env' he s' x => ?_
  subst he
  refine ⟨G.T.nolimit.keeps x.toInCall.keep, codeAny_func ?_⟩
  obtain ⟨h₁, tk, rfl, _⟩ := x.done
  have hk₁ := x.toInCall.keep
  obtain ⟨cells, NC, Y⟩ := Cl.news (h₀ := s.heap) (Nat.le_refl _) fun n c hm => ⟨x.cell n c (lookup_of_mem_nodup (cellsFrom_names scope.names 0 (s.heap.objs.size + 1) [] [] rfl ▸ hnd) hm), x.above n c hm⟩
  exact wpAny_mono (h s.heap.objs.size h₁ tk cells rfl ⟨x.toInCall.ns, hk₁, Nat.le_refl _⟩ NC Y) (fun _ _ q => q) fun _ _ q => q.elim


end Mine
end

section
set_option maxRecDepth 100000
set_option maxHeartbeats 4000000
namespace Mine
local macro_rules | `(tactic| walk_at "go") => `(tactic| repeat' (first | walk1 | (dsimp only; walk1)))
local macro_rules | `(tactic| walk_at "look") => `(tactic| first | assumption | exact rfl | exact if_pos rfl | (refine Eq.trans (if_neg (by decide)) ?_; walk_at "look"))
local macro_rules | `(tactic| walk_at "eval Name") => `(tactic| (refine' ld ?k1 ?k2 ?_; (case k1 => with_reducible assumption); (case k2 => ((try dsimp only); walk_at "look")); k_whole))
local macro_rules | `(tactic| walk_at "exec For Name Call cons nil") => `(tactic| (refine wpAny_For ?_ (fun _ => rfl)))
local macro_rules | `(tactic| walk_at "exec For Name Name cons nil") => `(tactic| (refine wpAny_For ?_ (fun _ => rfl)))
local macro_rules | `(tactic| walk_at "binaryOp Add str str") => `(tactic| (refine PyProof.Rows.add_str ?h ?z; (case z => (simp only [Str.length_append, sizeLine_eq]; omega)); (intro _ _)))
local macro_rules | `(tactic| walk_at "exec While Compare cons nil") => `(tactic| refine stopw ?_)
local macro_rules | `(tactic| walk_at "eval Name") => `(tactic| (refine' nm_loc ?k1 ?k2 ?_ ?k4 ?k5 ?k6; (case k1 => with_reducible assumption); (case k2 => with_reducible assumption); (case k4 => rfl); (case k5 => rfl); (case k6 => decide); k_whole))
/-- a comprehension over a list of texts, at its source -/
theorem comp_strs {w : World} {A : Around} {E : Value → Shared → Prop} {s : Shared} {env : Env} {elt : Expr} {x : Str} {scope : Scope} {cl : List (Str × Addr)} {l : Addr} {vs : List Value} {ws : List Str} {nl : Nat} {Q : Value → Shared → Prop} (f : Str → Str)
    (hh : A.handled = none) (hl : s.heap.get? l = some (listOf vs.toArray nl)) (hsa : StrsAre vs ws) (hlen : ws.length ≤ 100)
    (helt : ∀ C y tx s₃ m₃ E', y ∈ ws → s₃.heap.Ns C m₃ → m₃ x = some (.str y tx) → Ext s.heap s₃.heap → wpAny (model PP w) A (eval elt (compEnvC scope cl C env)) (fun v s₄ => (∃ u, v = .str (f y) u) ∧ Keeps s₃ s₄) E' s₃)
    (h : ∀ D h' tk ys n, Ext s.heap h' → s.heap.get? D = none → h'.get? D = some (listOf ys.toArray n) → StrsAre ys (ws.map f) → Q (.ref D) { s with heap := h', toks := tk }) :
    wpAny (model PP w) A (pyIter (.ref l)) (fun it s₂ => ∃ I fp wr n P St, it = .ref I ∧ Walks PP w A I fp wr n P St ∧ n ≤ sizeLine ∧ St 0 s₂.heap ∧ (∀ b ∈ fp, b < s₂.heap.objs.size) ∧
      QuietOnC PP w A env scope cl x [] elt wr P (fun _ => true) (fun v y => ∃ z t u, v = Value.str z t ∧ y = Value.str (f z) u) s₂ ∧
      (∀ D h' tk ys (vs : List Value), s₂.heap.get? D = none → h'.IsList D ys → h'.PlainList D ys → vs.length = n → (∀ j v, vs[j]? = some v → P j v) → Paired (fun v y => ∃ z t u, v = Value.str z t ∧ y = Value.str (f z) u) (vs.filter fun _ => true) ys.toList →
        (∀ b o, b ∉ wr → s₂.heap.get? b = some o → h'.get? b = some o) → Q (.ref D) { s₂ with heap := h', toks := tk })) E s := by
  have hlist : s.heap.IsList l vs.toArray := ⟨_, hl, rfl, _, rfl⟩
  have hlz : l ≠ s.heap.objs.size := Nat.ne_of_lt (Heap.lt_size hl)
  refine wpAny_pyIter_list hlist ?_
  refine ⟨s.heap.objs.size, _, _, _, _, _, rfl, Walks.list (prog := PP) (w := w) hh _ l hlz vs.toArray, ?z, ⟨⟨_, Heap.get?_push_size _ rfl, rfl, rfl⟩, hlist.push _⟩, ?fp, ⟨?t, ?e⟩, ?fin⟩
  case z =>
    rw [sizeLine_eq, List.size_toArray, strsAre_len hsa]
    omega
  case fp =>
    intro b hb
    show b < (Heap.push _ _).objs.size
    rw [Heap.size_push]
    rcases List.mem_cons.mp hb with rfl | hb
    · exact Nat.lt_succ_self _
    · rw [List.mem_singleton.mp hb]
      exact Nat.lt_succ_of_lt (Heap.lt_size hl)
  case t =>
    intro C i v s₃ m₃ E' hC hP hn hm hk _
    exact wpAny_pure ⟨rfl, _, _, rfl, fun _ _ e => e⟩
  case e =>
    intro C i v s₃ m₃ E' hC hP _ hn hm hk _
    obtain ⟨y, ty, rfl, hyi⟩ := strsAre_get i hsa (by simpa using hP)
    refine wpAny_mono (helt C y ty s₃ m₃ E' (List.mem_of_getElem? hyi) hn hm fun b o e => hk b o (fun q => ?_) (Heap.get?_push_of_some _ e)) (fun v s₄ hv => ?_) fun _ _ e => e
    · rw [List.mem_singleton.mp q] at e
      exact absurd (Heap.lt_size e) (Nat.lt_irrefl _)
    · obtain ⟨⟨u, rfl⟩, hk⟩ := hv
      exact ⟨⟨y, ty, u, rfl, rfl⟩, hk⟩
  case fin =>
    intro D h' tk ys vs' hD hl' hp' hlen' hP' hF' hk'
    obtain ⟨k, ho⟩ := hp'
    rw [List.filter_eq_self.mpr (fun _ _ => rfl)] at hF'
    have keep : Ext s.heap h' := fun b o e => hk' b o (fun q => by
      rw [List.mem_singleton.mp q] at e
      exact absurd (Heap.lt_size e) (Nat.lt_irrefl _)) (Heap.get?_push_of_some _ e)
    refine h D h' tk ys.toList k keep ?_ (by rw [Array.toArray_toList]; exact ho) ?_
    · cases q : s.heap.get? D with
      | none => rfl
      | some o => exact absurd ((Heap.get?_push_of_some _ q).symm.trans hD) (by simp)
    · have e : vs' = vs := by
        apply List.ext_getElem?
        intro j
        cases q : vs'[j]? with
        | some v => have := hP' j v q; simpa using this.symm
        | none =>
          have h1 := List.getElem?_eq_none_iff.mp q
          rw [hlen', List.size_toArray] at h1
          rw [List.getElem?_eq_none h1]
      subst e
      clear hP' hlen' hl' ho helt hl hlist h hlen
      generalize ys.toList = ys' at hF'
      induction hsa generalizing ys' with
      | nil => cases hF'; exact .nil
      | cons y t r ih =>
        cases hF' with
        | cons hab r' =>
          obtain ⟨z, t', u, e1, rfl⟩ := hab
          cases e1
          exact .cons _ _ (ih _ r')

/-- a comprehension over a list of texts -/
theorem listcomp_strs {w : World} {A : Around} {E : Value → Shared → Prop} {s : Shared} {env : Env} {elt iter : Expr} {x : Str} {px pos : Pos} {scope : Scope} {cl : List (Str × Addr)} {l : Addr} {vs : List Value} {ws : List Str} {nl : Nat} {Q : Value → Shared → Prop} (f : Str → Str)
    (hh : A.handled = none) (hl : s.heap.get? l = some (listOf vs.toArray nl)) (hsa : StrsAre vs ws) (hlen : ws.length ≤ 100)
    (hclos : closureFor scope env = pure cl) (hcell : ∀ y ∈ scope.names, y.2 ≠ .cell) (hkind : scope.kind = .function)
    (hnames : ∀ y ∈ scope.names, y.2 = .local → scope.names.lookup y.1 = some .local) (hx : scope.names.lookup x = some .local)
    (hiter : wpAny (model PP w) A (eval iter env) (fun xv s₁ => xv = .ref l ∧ s₁ = s) E s) (hs : ∀ x, foldedSetIterable iter env x = pure x)
    (helt : ∀ C y tx s₃ m₃ E', y ∈ ws → s₃.heap.Ns C m₃ → m₃ x = some (.str y tx) → Ext s.heap s₃.heap → wpAny (model PP w) A (eval elt (compEnvC scope cl C env)) (fun v s₄ => (∃ u, v = .str (f y) u) ∧ Keeps s₃ s₄) E' s₃)
    (h : ∀ D h' tk ys n, Ext s.heap h' → s.heap.get? D = none → h'.get? D = some (listOf ys.toArray n) → StrsAre ys (ws.map f) → Q (.ref D) { s with heap := h', toks := tk }) :
    wpAny (model PP w) A (eval (.ListComp elt [⟨.Name x px, iter, [], 0⟩] scope pos) env) Q E s := by
  refine wpAny_ListComp_free (fun _ => true) (fun v y => ∃ z t u, v = Value.str z t ∧ y = Value.str (f z) u) hclos hcell hkind hnames hx (wpAny_mono hiter (fun xv s₁ h₁ => ?_) fun _ _ e => e) hs
  obtain ⟨rfl, rfl⟩ := h₁
  exact comp_strs f hh hl hsa hlen helt h

end Mine
end

section
set_option maxRecDepth 100000
set_option maxHeartbeats 4000000
namespace Mine
local macro_rules | `(tactic| walk_at "go") => `(tactic| repeat' (first | walk1 | (dsimp only; walk1)))
local macro_rules | `(tactic| walk_at "look") => `(tactic| first | assumption | exact rfl | exact if_pos rfl | (refine Eq.trans (if_neg (by decide)) ?_; walk_at "look"))
local macro_rules | `(tactic| walk_at "eval Name") => `(tactic| (refine' ld ?k1 ?k2 ?_; (case k1 => with_reducible assumption); (case k2 => ((try dsimp only); walk_at "look")); k_whole))
local macro_rules | `(tactic| walk_at "exec For Name Call cons nil") => `(tactic| (refine wpAny_For ?_ (fun _ => rfl)))
local macro_rules | `(tactic| walk_at "exec For Name Name cons nil") => `(tactic| (refine wpAny_For ?_ (fun _ => rfl)))
local macro_rules | `(tactic| walk_at "binaryOp Add str str") => `(tactic| (refine PyProof.Rows.add_str ?h ?z; (case z => (simp only [Str.length_append, sizeLine_eq]; omega)); (intro _ _)))
local macro_rules | `(tactic| walk_at "exec While Compare cons nil") => `(tactic| refine stopw ?_)
local macro_rules | `(tactic| walk_at "eval Name") => `(tactic| (refine' nm_loc ?k1 ?k2 ?_ ?k4 ?k5 ?k6; (case k1 => with_reducible assumption); (case k2 => with_reducible assumption); (case k4 => rfl); (case k5 => rfl); (case k6 => decide); k_whole))
local macro_rules | `(tactic| walk_at "eval ListComp") => `(tactic| refine stopw ?_)
local macro_rules | `(tactic| walk_at "call ref") => `(tactic| refine stopw ?_)

/-- an item, in a ledger -/
def ItemIn (stuff : List (Addr × Obj)) (v : Value) (k : Key) : Prop := ∃ a r us n t, v = .ref a ∧ (a, tupO #[.ref r, .str k.2 t]) ∈ stuff ∧ (r, listOf us.toArray n) ∈ stuff ∧ RanksIn stuff us k.1
inductive ItemsIn (stuff : List (Addr × Obj)) : List Value → List Key → Prop
  | nil : ItemsIn stuff [] []
  | cons {v : Value} {vs : List Value} {k : Key} {ks : List Key} : ItemIn stuff v k → ItemsIn stuff vs ks → ItemsIn stuff (v :: vs) (k :: ks)
theorem RanksIn.atH {stuff : List (Addr × Obj)} {h : Heap} (hs : ∀ p ∈ stuff, h.get? p.1 = some p.2) {us : List Value} {rs : List (List Int)} (x : RanksIn stuff us rs) : RanksAt h us rs := by
  induction x with
  | nil => exact .nil
  | cons hm hi _ ih => exact .cons (hs _ hm) hi ih
theorem ItemIn.atH {stuff : List (Addr × Obj)} {h : Heap} (hs : ∀ p ∈ stuff, h.get? p.1 = some p.2) {v : Value} {k : Key} (x : ItemIn stuff v k) : ItemAt h v k := by
  obtain ⟨a, r, us, n, t, e1, e2, e3, e4⟩ := x
  exact ⟨a, r, us, n, t, e1, hs _ e2, hs _ e3, e4.atH hs⟩
theorem ItemsIn.atH {stuff : List (Addr × Obj)} {h : Heap} (hs : ∀ p ∈ stuff, h.get? p.1 = some p.2) {vs : List Value} {ks : List Key} (x : ItemsIn stuff vs ks) : ItemsAt h vs ks := by
  induction x with
  | nil => exact .nil
  | cons hi _ ih => exact .cons (hi.atH hs) ih
theorem ItemIn.mono {stuff stuff' : List (Addr × Obj)} (hs : ∀ p ∈ stuff, p ∈ stuff') {v : Value} {k : Key} (x : ItemIn stuff v k) : ItemIn stuff' v k := by
  obtain ⟨a, r, us, n, t, e1, e2, e3, e4⟩ := x
  exact ⟨a, r, us, n, t, e1, hs _ e2, hs _ e3, e4.mono hs⟩
theorem ItemsIn.mono {stuff stuff' : List (Addr × Obj)} (hs : ∀ p ∈ stuff, p ∈ stuff') {vs : List Value} {ks : List Key} (x : ItemsIn stuff vs ks) : ItemsIn stuff' vs ks := by
  induction x with
  | nil => exact .nil
  | cons hi _ ih => exact .cons (hi.mono hs) ih

def lineS (t : Nat) (ws : List Str) : Str := Txt.join " " (ws.map (spellF t))

end Mine
end

section
set_option maxRecDepth 100000
set_option maxHeartbeats 4000000
namespace Mine
local macro_rules | `(tactic| walk_at "go") => `(tactic| repeat' (first | walk1 | (dsimp only; walk1)))
local macro_rules | `(tactic| walk_at "look") => `(tactic| first | assumption | exact rfl | exact if_pos rfl | (refine Eq.trans (if_neg (by decide)) ?_; walk_at "look"))
local macro_rules | `(tactic| walk_at "eval Name") => `(tactic| (refine' ld ?k1 ?k2 ?_; (case k1 => with_reducible assumption); (case k2 => ((try dsimp only); walk_at "look")); k_whole))
local macro_rules | `(tactic| walk_at "exec For Name Call cons nil") => `(tactic| (refine wpAny_For ?_ (fun _ => rfl)))
local macro_rules | `(tactic| walk_at "exec For Name Name cons nil") => `(tactic| (refine wpAny_For ?_ (fun _ => rfl)))
local macro_rules | `(tactic| walk_at "binaryOp Add str str") => `(tactic| (refine PyProof.Rows.add_str ?h ?z; (case z => (simp only [Str.length_append, sizeLine_eq]; omega)); (intro _ _)))
local macro_rules | `(tactic| walk_at "exec While Compare cons nil") => `(tactic| refine stopw ?_)
local macro_rules | `(tactic| walk_at "eval Name") => `(tactic| (refine' nm_loc ?k1 ?k2 ?_ ?k4 ?k5 ?k6; (case k1 => with_reducible assumption); (case k2 => with_reducible assumption); (case k4 => rfl); (case k5 => rfl); (case k6 => decide); k_whole))
section
variable {w : World} {mg mb : Str → Option Value} {A : Around} {E : Value → Shared → Prop} {s : Shared} {env : Env} {m : Str → Option Value} {x : Str} {tx tt : Tok} {p1 p2 p3 p4 p5 p6 : Pos} {kk t : Nat} {c : Addr} {o : Obj} {Q : Value → Shared → Prop}
theorem nm_free {y : Str} {v : Value} {pos : Pos} (hc : env.cells.lookup y = some c) (ho : s.heap.get? c = some o) (hd : o.data = .cell (some v)) (h : Q v s) (hk : env.scope.kind = .function) (hl : env.kindOf y = some .free) (hb : (y == ("__debug__" : Str)) = false) (hcd : (y == ("__classdict__" : Str)) = false) :
    wpAny (model PP w) A (eval (.Name y pos) env) Q E s := wpAny_Name (wpAny_loadName_free hk hl hc ⟨o, ho, hd⟩ h hcd) hb

theorem quoted_elt (G : Gd w mg mb s.heap) (R : Room 1 A) (hx : x.length ≤ 10) (ht : t ≤ 2) (hn : s.heap.Ns env.locals m) (hm : m (Str.ofString "word") = some (.str x tx))
    (hc : env.cells.lookup (Str.ofString "times") = some c) (ho : s.heap.get? c = some o) (hd : o.data = .cell (some (.int ((t : Int) + 1) tt)))
    (h1 : env.globals = mainGlobals) (h2 : env.scope.kind = .function) (h3 : env.kindOf (Str.ofString "_law_quoted") = some .globalImplicit) (h4 : env.kindOf (Str.ofString "word") = some .local) (h5 : env.kindOf (Str.ofString "times") = some .cell)
    (h : ∀ u h' tk, Ext s.heap h' → Q (.str (itF quoteF t x) u) { s with heap := h', toks := tk }) :
    wpAny (model PP w) A (eval ((Expr.Name (Str.ofString "_law_quoted") p1).Call [Expr.Name (Str.ofString "word") p2, (Expr.Name (Str.ofString "times") p3).BinOp Operator.Sub (Expr.Constant (Const.int 1) kk p4) p5] [] p6) env) Q E s := by
  walk1
  refine nm_glob (v := .ref 121) G rfl ?_ h1 h2 h3 (by decide)
  have hf := G.X 121 _ rfl
  obtain ⟨of, fd, ef, df⟩ : ∃ o fd, s.heap.get? 121 = some o ∧ o.data = .func fd := ⟨_, _, hf, rfl⟩
  refine callWith_def df ?_
  walk_at "go"
  refine nm_loc hn hm ?_ h2 h4 (by decide)
  walk_at "go"
  refine nm_cell hc ho hd ?_ h2 h5 (by decide)
  walk_at "go"
  rw [show (t : Int) + 1 - 1 = (t : Int) by omega]
  exact quoted_spec ⟨G.X, G.T⟩ R hx ht fun u h' tk hk => h u h' tk hk

theorem spelled_elt (G : Gd w mg mb s.heap) (R : Room 1 A) (hx : x.length ≤ 10) (ht : t ≤ 3) (hn : s.heap.Ns env.locals m) (hm : m (Str.ofString "word") = some (.str x tx))
    (hc : env.cells.lookup (Str.ofString "times") = some c) (ho : s.heap.get? c = some o) (hd : o.data = .cell (some (.int t tt)))
    (h1 : env.globals = mainGlobals) (h2 : env.scope.kind = .function) (h3 : env.kindOf (Str.ofString "_law_spelled") = some .globalImplicit) (h4 : env.kindOf (Str.ofString "word") = some .local) (h5 : env.kindOf (Str.ofString "times") = some .cell)
    (h : ∀ u h' tk, Ext s.heap h' → Q (.str (spellF t x) u) { s with heap := h', toks := tk }) :
    wpAny (model PP w) A (eval ((Expr.Name (Str.ofString "_law_spelled") p1).Call [Expr.Name (Str.ofString "word") p2, Expr.Name (Str.ofString "times") p3] [] p6) env) Q E s := by
  walk1
  refine nm_glob (v := .ref 114) G rfl ?_ h1 h2 h3 (by decide)
  have hf := G.X 114 _ rfl
  obtain ⟨of, fd, ef, df⟩ : ∃ o fd, s.heap.get? 114 = some o ∧ o.data = .func fd := ⟨_, _, hf, rfl⟩
  refine callWith_def df ?_
  walk_at "go"
  refine nm_loc hn hm ?_ h2 h4 (by decide)
  walk_at "go"
  refine nm_cell hc ho hd ?_ h2 h5 (by decide)
  walk_at "go"
  exact spelled_spec G R hx ht h
end

end Mine
end

section
set_option maxRecDepth 100000
set_option maxHeartbeats 4000000
namespace Mine
theorem swap_perm' {xs : List Str} {i j : Nat} (hi : i < xs.length) (hj : j < xs.length) : ((xs.set i (xs.getD j Str.empty)).set j (xs.getD i Str.empty)).Perm xs := by
  have := List.set_set_perm hi hj
  simpa [List.getD_eq_getElem?_getD, hi, hj] using this
theorem sw_get {xs : List Str} {i j k : Nat} (hi : i < xs.length) (hj : j < xs.length) : ((xs.set i (xs.getD j Str.empty)).set j (xs.getD i Str.empty)).getD k Str.empty = if k = j then xs.getD i Str.empty else if k = i then xs.getD j Str.empty else xs.getD k Str.empty := by
  by_cases h1 : k = j
  · subst h1
    rw [if_pos rfl, getD_set_eq (by simpa using hj)]
  · rw [if_neg h1, getD_set_ne (fun q => h1 q.symm)]
    by_cases h2 : k = i
    · subst h2
      rw [if_pos rfl, getD_set_eq hi]
    · rw [if_neg h2, getD_set_ne (fun q => h2 q.symm)]

def Heapy (xs : List Str) : Prop := ∀ k, 1 ≤ k → k < xs.length → sl (xs.getD k Str.empty) (xs.getD ((k - 1) / 2) Str.empty) = false

theorem sl_trans_ge {a b c : Str} (h1 : sl a b = false) (h2 : sl b c = false) : sl a c = false := by
  cases q : sl a c with
  | false => rfl
  | true =>
    rcases to_sl.neg a b c q with r | r
    · rw [r] at h1; cases h1
    · rw [r] at h2; cases h2

structure HD (xs : List Str) (pos : Nat) : Prop where
  a : ∀ k, 1 ≤ k → k < xs.length → k ≠ pos → sl (xs.getD k Str.empty) (xs.getD ((k - 1) / 2) Str.empty) = false
  b : ∀ k, 1 ≤ k → k < xs.length → (k - 1) / 2 = pos → 1 ≤ pos → sl (xs.getD k Str.empty) (xs.getD ((pos - 1) / 2) Str.empty) = false

theorem sdF_heapy : ∀ (pos : Nat) (xs : List Str), pos < xs.length → HD xs pos → Heapy (sdF xs pos) ∧ (sdF xs pos).Perm xs := by
  intro pos
  induction pos using Nat.strongRecOn with
  | ind pos ih =>
    intro xs hp H
    rw [sdF]
    by_cases h0 : pos = 0
    · rw [if_pos h0]
      exact ⟨fun k h1 h2 => H.a k h1 h2 (by omega), .refl _⟩
    · rw [if_neg h0]
      by_cases hlt : sl (xs.getD pos Str.empty) (xs.getD ((pos - 1) / 2) Str.empty) = true
      · rw [if_pos hlt]
        have hq : (pos - 1) / 2 < xs.length := by omega
        have hsym := to_sl.asym hlt
        have := ih ((pos - 1) / 2) (by omega) ((xs.set pos (xs.getD ((pos - 1) / 2) Str.empty)).set ((pos - 1) / 2) (xs.getD pos Str.empty)) (by simpa using hq) ⟨fun k h1 h2 h3 => ?_, fun k h1 h2 h3 h4 => ?_⟩
        · exact ⟨this.1, this.2.trans (swap_perm' hp hq)⟩
        · simp only [List.length_set] at h2
          rw [sw_get hp hq, sw_get hp hq, if_neg h3]
          by_cases k1 : k = pos
          · subst k1
            rw [if_pos rfl, if_pos rfl]
            exact hsym
          · rw [if_neg k1]
            by_cases k2 : (k - 1) / 2 = (pos - 1) / 2
            · rw [if_pos k2]
              have h5 := H.a k h1 h2 k1
              rw [k2] at h5
              cases q : sl (xs.getD k Str.empty) (xs.getD pos Str.empty) with
              | false => rfl
              | true => rw [to_sl.tr _ _ _ q hlt] at h5; cases h5
            · rw [if_neg k2]
              by_cases k3 : (k - 1) / 2 = pos
              · rw [if_pos k3]
                exact H.b k h1 h2 k3 (by omega)
              · rw [if_neg k3]
                exact H.a k h1 h2 k1
        · simp only [List.length_set] at h2
          have e1 : k ≠ (pos - 1) / 2 := by omega
          have e2 : ((pos - 1) / 2 - 1) / 2 ≠ (pos - 1) / 2 := by omega
          have e3 : ((pos - 1) / 2 - 1) / 2 ≠ pos := by omega
          rw [sw_get hp hq, sw_get hp hq, if_neg e1, if_neg e2, if_neg e3]
          have h5 := H.a ((pos - 1) / 2) h4 hq (by omega)
          by_cases k1 : k = pos
          · rw [if_pos k1]
            exact h5
          · rw [if_neg k1]
            have h6 := H.a k h1 h2 k1
            rw [h3] at h6
            exact sl_trans_ge h6 h5
      · rw [if_neg hlt]
        refine ⟨fun k h1 h2 => ?_, .refl _⟩
        by_cases k1 : k = pos
        · subst k1
          simpa using hlt
        · exact H.a k h1 h2 k1

structure HU (xs : List Str) (pos : Nat) : Prop where
  a : ∀ k, 1 ≤ k → k < xs.length → k ≠ pos → (k - 1) / 2 ≠ pos → sl (xs.getD k Str.empty) (xs.getD ((k - 1) / 2) Str.empty) = false
  b : ∀ k, 1 ≤ k → k < xs.length → (k - 1) / 2 = pos → 1 ≤ pos → sl (xs.getD k Str.empty) (xs.getD ((pos - 1) / 2) Str.empty) = false

theorem chF_par (xs : List Str) (pos : Nat) : (chF xs pos - 1) / 2 = pos := by unfold chF; split <;> omega
theorem chF_least {xs : List Str} {pos k : Nat} (h1 : 1 ≤ k) (h2 : k < xs.length) (hk : (k - 1) / 2 = pos) (hc : k ≠ chF xs pos) : sl (xs.getD k Str.empty) (xs.getD (chF xs pos) Str.empty) = false := by
  have : k = 2 * pos + 1 ∨ k = 2 * pos + 2 := by omega
  unfold chF at hc ⊢
  split at hc
  · rename_i h
    rw [if_pos h]
    rcases this with rfl | rfl
    · exact h.2
    · exact absurd rfl hc
  · rename_i h
    rw [if_neg h]
    rcases this with rfl | rfl
    · exact absurd rfl hc
    · cases q : sl (xs.getD (2 * pos + 1) Str.empty) (xs.getD (2 * pos + 2) Str.empty) with
      | false => exact absurd ⟨h2, q⟩ h
      | true => exact to_sl.asym q

theorem suF_heapy : ∀ (n pos : Nat) (xs : List Str), xs.length - pos = n → pos < xs.length → HU xs pos → Heapy (suF xs pos) ∧ (suF xs pos).Perm xs := by
  intro n
  induction n using Nat.strongRecOn with
  | ind n ih =>
    intro pos xs hn hp H
    rw [suF]
    by_cases h : 2 * pos + 1 < xs.length
    · rw [dif_pos h]
      have hc := chF_lt h
      have hg := chF_gt xs pos
      have hpar := chF_par xs pos
      have hleast := @chF_least xs pos
      generalize chF xs pos = c at hc hg hpar hleast
      have := ih (xs.length - c) (by omega) c ((xs.set pos (xs.getD c Str.empty)).set c (xs.getD pos Str.empty)) (by simp) (by simpa using hc) ⟨fun k h1 h2 h3 h4 => ?_, fun k h1 h2 h3 h4 => ?_⟩
      · exact ⟨this.1, this.2.trans (swap_perm' hp hc)⟩
      · simp only [List.length_set] at h2
        rw [sw_get hp hc, sw_get hp hc, if_neg h3, if_neg h4]
        by_cases k1 : k = pos
        · subst k1
          rw [if_pos rfl, if_neg (by omega)]
          exact H.b c (by omega) hc hpar (by omega)
        · rw [if_neg k1]
          by_cases k2 : (k - 1) / 2 = pos
          · rw [if_pos k2]
            exact hleast h1 h2 k2 h3
          · rw [if_neg k2]
            exact H.a k h1 h2 k1 k2
      · simp only [List.length_set] at h2
        rw [sw_get hp hc, sw_get hp hc, if_neg (by omega), if_neg (by omega), if_neg (by omega), hpar, if_pos rfl]
        have := H.a k h1 h2 (by omega) (by omega)
        rw [h3] at this
        exact this
    · rw [dif_neg h]
      exact sdF_heapy pos xs hp ⟨fun k h1 h2 h3 => H.a k h1 h2 h3 (by omega), fun k h1 h2 h3 _ => by omega⟩

theorem root_least {xs : List Str} (H : Heapy xs) : ∀ i, i < xs.length → sl (xs.getD i Str.empty) (xs.getD 0 Str.empty) = false := by
  intro i
  induction i using Nat.strongRecOn with
  | ind i ih =>
    intro hi
    by_cases h0 : i = 0
    · subst h0
      exact to_sl.irr _
    · exact sl_trans_ge (H i (by omega) hi) (ih ((i - 1) / 2) (by omega) (by omega))
theorem root_least' {xs : List Str} (H : Heapy xs) {x : Str} (hx : x ∈ xs) : sl x (xs.getD 0 Str.empty) = false := by
  obtain ⟨i, hi, rfl⟩ := List.getElem_of_mem hx
  have := root_least H i hi
  simpa [hi] using this

theorem su_root {xs : List Str} (H : Heapy xs) (h0 : 0 < xs.length) (x : Str) : Heapy (suF (xs.set 0 x) 0) ∧ (suF (xs.set 0 x) 0).Perm (xs.set 0 x) :=
  suF_heapy _ 0 _ rfl (by simpa using h0) ⟨fun k h1 h2 h3 h4 => by
    rw [getD_set_ne (by omega), getD_set_ne (by omega)]
    exact H k h1 (by simpa using h2), fun k _ _ _ h4 => by omega⟩

theorem least_eq {l l' : List Str} {x y : Str} (h : (x :: l).Perm (y :: l')) (hx : ∀ z ∈ x :: l, sl z x = false) (hy : ∀ z ∈ y :: l', sl z y = false) : x = y ∧ l.Perm l' := by
  have e : x = y := by
    by_cases q : x = y
    · exact q
    · rcases to_sl.tot x y q with r | r
      · rw [hy x (h.mem_iff.mp (.head _))] at r; cases r
      · rw [hx y (h.mem_iff.mpr (.head _))] at r; cases r
  subst e
  exact ⟨rfl, h.cons_inv⟩
theorem set0_perm {xs : List Str} (h0 : 0 < xs.length) (x : Str) : (xs.getD 0 Str.empty :: xs.set 0 x).Perm (x :: xs) := by
  cases xs with
  | nil => simp at h0
  | cons y ys =>
    simp only [List.set_cons_zero, List.getD_cons_zero]
    exact .swap _ _ _
theorem head0_perm {xs : List Str} (h0 : 0 < xs.length) : xs = xs.getD 0 Str.empty :: xs.tail := by
  cases xs with
  | nil => simp at h0
  | cons y ys => rfl
theorem heapy_take {xs ys : List Str} {x : Str} (H : Heapy (ys ++ [x])) : Heapy ys := fun k h1 h2 => by
  have := H k h1 (by simp; omega)
  simp only [List.getD_eq_getElem?_getD, List.getElem?_append_left h2, List.getElem?_append_left (show (k - 1) / 2 < ys.length by omega)] at this ⊢
  exact this
theorem heapy_nil : Heapy [] := fun k _ h => by simp at h

/-- the order of the keys at hand is the order of their lines -/
def OrdK (V : Key → Prop) : Prop := ∀ k k', V k → V k' → ltK k k' = sl k.2 k'.2
structure Inv (V : Key → Prop) (xs : List Str) (ks : List Key) : Prop where
  p : xs.Perm (ks.map (·.2))
  h : Heapy xs
  s : Srt ks
  v : ∀ k ∈ ks, V k
theorem inv0 (V : Key → Prop) : Inv V [] [] := ⟨.refl _, heapy_nil, .nil, fun k h => by cases h⟩

theorem srt_least {V : Key → Prop} (O : OrdK V) {k0 : Key} {r : List Key} (hs : Srt (k0 :: r)) (hv : ∀ k ∈ k0 :: r, V k) : ∀ z ∈ k0.2 :: r.map (·.2), sl z k0.2 = false := by
  intro z hz
  rcases List.mem_cons.mp hz with rfl | hz
  · exact to_sl.irr _
  · obtain ⟨k, hk, rfl⟩ := List.mem_map.mp hz
    have := (List.pairwise_cons.mp hs).1 k hk
    rw [O _ _ (hv _ (.tail _ hk)) (hv _ (.head _))] at this
    exact this

theorem step_ok {V : Key → Prop} (O : OrdK V) {kind : Nat} {xs : List Str} {ks ks' : List Key} {k : Key} {res : List (Option Str)} (I : Inv V xs ks) (hk : V k) (A : AnsR kind ks k ks' res) : (callF kind xs k.2).2 = res ∧ Inv V (callF kind xs k.2).1 ks' := by
  obtain ⟨hs', hA⟩ := A
  have mapP : ∀ {a b : List Key}, a.Perm b → (a.map (·.2)).Perm (b.map (·.2)) := fun h => h.map _
  rcases hA with ⟨h5, hp, rfl⟩ | ⟨h5, h7, rfl, rfl, rfl⟩ | ⟨h5, h7, k0, rfl, rfl⟩ | ⟨rfl, k0, r, rfl, hp, rfl⟩ | ⟨h8, k0, hs0, hp, rfl⟩
  · unfold callF
    rw [if_pos h5]
    have HH : HD (xs ++ [k.2]) xs.length := ⟨fun i h1 h2 h3 => by
      have h4 : i < xs.length := by simp at h2; omega
      have := I.h i h1 h4
      simp only [List.getD_eq_getElem?_getD, List.getElem?_append_left h4, List.getElem?_append_left (show (i - 1) / 2 < xs.length by omega)] at this ⊢
      exact this, fun i h1 h2 h3 h4 => by simp at h2; omega⟩
    have := sdF_heapy xs.length (xs ++ [k.2]) (by simp) HH
    refine ⟨rfl, ?_, this.1, hs', fun q hq => ?_⟩
    · refine this.2.trans (List.perm_append_singleton _ _ |>.trans ?_)
      exact (I.p.cons _).trans (mapP hp).symm
    · rcases List.mem_cons.mp (hp.mem_iff.mp hq) with rfl | hq
      · exact hk
      · exact I.v q hq
  · have hx : xs = [] := List.Perm.eq_nil I.p
    subst hx
    unfold callF
    rw [if_neg (by omega)]
    by_cases h : kind < 7
    · rw [if_pos h, if_pos (show ([] : List Str).length = 0 from rfl)]
      exact ⟨rfl, inv0 V⟩
    · rw [if_neg h, if_pos (by omega), if_pos (show ([] : List Str).length = 0 from rfl)]
      exact ⟨rfl, inv0 V⟩
  · have hl : 0 < xs.length := by rw [I.p.length_eq]; simp
    unfold callF
    rw [if_neg (by omega), if_pos h7, if_neg (by omega)]
    have hx : xs = xs.dropLast ++ [xs.getLastD Str.empty] := by
      rw [List.getLastD_eq_getLast?, List.getLast?_eq_some_getLast (by intro q; rw [q] at hl; simp at hl)]
      exact (List.dropLast_concat_getLast _).symm
    have hroot := least_eq (x := xs.getD 0 Str.empty) (l := xs.tail) (by rw [← head0_perm hl]; exact I.p) (fun z hz => root_least' I.h (by rw [head0_perm hl]; exact hz)) (srt_least O I.s I.v)
    generalize xs.dropLast = ys at hx
    generalize xs.getLastD Str.empty = x at hx
    subst hx
    have Hy := heapy_take (xs := []) I.h
    unfold popF
    by_cases hy : ys.length = 0
    · rw [if_pos hy]
      have : ys = [] := List.length_eq_zero_iff.mp hy
      subst this
      refine ⟨by rw [← hroot.1]; rfl, ?_, heapy_nil, hs', fun q hq => I.v q (.tail _ hq)⟩
      exact hroot.2
    · rw [if_neg hy]
      have hy' : 0 < ys.length := by omega
      have e0 : (ys ++ [x]).getD 0 Str.empty = ys.getD 0 Str.empty := by
        simp only [List.getD_eq_getElem?_getD, List.getElem?_append_left hy']
      have := su_root Hy hy' x
      refine ⟨by rw [← hroot.1, e0], ?_, this.1, hs', fun q hq => I.v q (.tail _ hq)⟩
      refine this.2.trans ?_
      have p1 := (set0_perm hy' x).trans ((List.perm_append_singleton x ys).symm.trans I.p)
      rw [← e0, hroot.1] at p1
      exact p1.cons_inv
  · have hl : 0 < xs.length := by rw [I.p.length_eq]; simp
    unfold callF
    rw [if_neg (by omega), if_neg (by omega), if_pos (by omega), if_neg (by omega)]
    have hroot := least_eq (x := xs.getD 0 Str.empty) (l := xs.tail) (by rw [← head0_perm hl]; exact I.p) (fun z hz => root_least' I.h (by rw [head0_perm hl]; exact hz)) (srt_least O I.s I.v)
    have := su_root I.h hl k.2
    refine ⟨by rw [← hroot.1], ?_, this.1, hs', fun q hq => ?_⟩
    · refine this.2.trans ?_
      have p1 := (set0_perm hl k.2).trans (I.p.cons k.2)
      rw [hroot.1] at p1
      have p2 : (k.2 :: k0.2 :: r.map (·.2)).Perm (k0.2 :: k.2 :: r.map (·.2)) := .swap _ _ _
      exact (p1.trans p2).cons_inv.trans (mapP hp).symm
    · rcases List.mem_cons.mp (hp.mem_iff.mp hq) with rfl | hq
      · exact hk
      · exact I.v q (.tail _ hq)
  · have hv : ∀ q ∈ k0 :: ks', V q := fun q hq => by
      rcases List.mem_cons.mp (hp.mem_iff.mp hq) with rfl | hq
      · exact hk
      · exact I.v q hq
    have hl0 := srt_least O hs0 hv
    have pl : (k0.2 :: ks'.map (·.2)).Perm (k.2 :: xs) := (mapP hp).trans (I.p.symm.cons _)
    unfold callF
    rw [if_neg (by omega), if_neg (by omega), if_neg (by omega)]
    unfold pushpopF
    by_cases hc : 0 < xs.length ∧ sl (xs.getD 0 Str.empty) k.2 = true
    · rw [if_pos hc]
      have hroot := least_eq (x := xs.getD 0 Str.empty) (l := xs.set 0 k.2) ((set0_perm hc.1 k.2).trans pl.symm) (fun z hz => by
        rcases List.mem_cons.mp ((set0_perm hc.1 k.2).mem_iff.mp hz) with rfl | hz
        · exact to_sl.asym hc.2
        · exact root_least' I.h hz) hl0
      have := su_root I.h hc.1 k.2
      exact ⟨by rw [← hroot.1], this.2.trans hroot.2, this.1, hs', fun q hq => hv q (.tail _ hq)⟩
    · rw [if_neg hc]
      have hroot := least_eq (x := k.2) (l := xs) pl.symm (fun z hz => by
        rcases List.mem_cons.mp hz with rfl | hz
        · exact to_sl.irr _
        · have h0 : 0 < xs.length := List.length_pos_of_mem hz
          have h1 : sl (xs.getD 0 Str.empty) k.2 = false := by
            cases q : sl (xs.getD 0 Str.empty) k.2 with
            | false => rfl
            | true => exact absurd ⟨h0, q⟩ hc
          exact sl_trans_ge (root_least' I.h hz) h1) hl0
      exact ⟨by rw [← hroot.1], hroot.2, I.h, hs', fun q hq => hv q (.tail _ hq)⟩

/-- lines in order, the same lines: the same list -/
theorem sorted_eq : ∀ {l l' : List Str}, l.Perm l' → l.Pairwise (fun a b => sl b a = false) → l'.Pairwise (fun a b => sl b a = false) → l = l'
  | [], l', h, _, _ => (List.Perm.eq_nil h.symm).symm
  | x :: l, [], h, _, _ => by cases List.Perm.eq_nil h
  | x :: l, y :: l', h, h1, h2 => by
    have q1 := List.pairwise_cons.mp h1
    have q2 := List.pairwise_cons.mp h2
    have := least_eq h (fun z hz => by
      rcases List.mem_cons.mp hz with rfl | hz
      · exact to_sl.irr _
      · exact q1.1 z hz) (fun z hz => by
      rcases List.mem_cons.mp hz with rfl | hz
      · exact to_sl.irr _
      · exact q2.1 z hz)
    rw [this.1, sorted_eq this.2 q1.2 q2.2]
theorem srt_lines {V : Key → Prop} (O : OrdK V) {ks : List Key} (hs : Srt ks) (hv : ∀ k ∈ ks, V k) : (ks.map (·.2)).Pairwise (fun a b => sl b a = false) := by
  induction ks with
  | nil => exact .nil
  | cons k r ih =>
    have q := List.pairwise_cons.mp hs
    refine List.pairwise_cons.mpr ⟨fun z hz => ?_, ih q.2 fun k hk => hv k (.tail _ hk)⟩
    exact srt_least O hs hv z (.tail _ hz)

end Mine
end

section
set_option maxRecDepth 100000
set_option maxHeartbeats 4000000
namespace Mine
theorem tw_full {p : Nat → Bool} : ∀ {l : List Nat}, (l.takeWhile p).length = l.length → ∀ x ∈ l, p x = true
  | [], _, x, h => by cases h
  | y :: l, h, x, hx => by
    rw [List.takeWhile_cons] at h
    by_cases q : p y = true
    · rw [if_pos q] at h
      rcases List.mem_cons.mp hx with rfl | hx
      · exact q
      · exact tw_full (by simpa using h) x hx
    · rw [if_neg q] at h; simp at h
theorem tw_all {p : Nat → Bool} : ∀ {l : List Nat}, (∀ x ∈ l, p x = true) → (l.takeWhile p).length = l.length
  | [], _ => rfl
  | y :: l, h => by
    rw [List.takeWhile_cons, if_pos (h y (.head _)), List.length_cons, List.length_cons, tw_all fun x hx => h x (.tail _ hx)]
theorem tw_le {p : Nat → Bool} : ∀ (l : List Nat), (l.takeWhile p).length ≤ l.length
  | [] => Nat.le_refl _
  | y :: l => by
    rw [List.takeWhile_cons]
    split
    · have := tw_le (p := p) l
      simpa using this
    · simp
theorem tw_stop {p : Nat → Bool} : ∀ (l : List Nat), (l.takeWhile p).length < l.length → ∃ x ∈ l.drop (l.takeWhile p).length, p x = false
  | [], h => by simp at h
  | y :: l, h => by
    rw [List.takeWhile_cons] at h ⊢
    by_cases q : p y = true
    · rw [if_pos q] at h ⊢
      simpa using tw_stop l (by simpa using h)
    · rw [if_neg q]
      exact ⟨y, by simp, by simpa using q⟩

theorem strip_nil (x y : Str) : Txt.stripChars x y = Str.ofString "" ↔ ∀ c ∈ x.cps.toList, y.cps.contains c = true := by
  have e : (Txt.stripChars x y).cps.toList = (x.cps.toList.drop (stripLo y.cps.contains true x)).take (stripHi y.cps.contains true x (stripLo y.cps.contains true x) - stripLo y.cps.contains true x) := by
    rw [Txt.stripChars, PyProof.Rows.stripBy_eq]
    simp [Builtin.Str.strSub]
  have en : Txt.stripChars x y = Str.ofString "" ↔ (Txt.stripChars x y).cps.toList = [] := ⟨fun h => by rw [h]; decide, fun h => str_ext (by rw [h]; decide)⟩
  rw [en, e]
  unfold stripHi stripLo
  rw [if_pos rfl, if_pos rfl, len_cps]
  constructor
  · intro h
    by_cases q : (x.cps.toList.takeWhile y.cps.contains).length < x.cps.toList.length
    · exfalso
      obtain ⟨c, hc, hp⟩ := tw_stop _ q
      have q2 : (((x.cps.toList.drop (x.cps.toList.takeWhile y.cps.contains).length).reverse).takeWhile y.cps.contains).length < (x.cps.toList.drop (x.cps.toList.takeWhile y.cps.contains).length).reverse.length := by
        rcases Nat.lt_or_ge (((x.cps.toList.drop (x.cps.toList.takeWhile y.cps.contains).length).reverse).takeWhile y.cps.contains).length (x.cps.toList.drop (x.cps.toList.takeWhile y.cps.contains).length).reverse.length with r | r
        · exact r
        · have := tw_full (Nat.le_antisymm (tw_le _) r) c (List.mem_reverse.mpr hc)
          rw [this] at hp
          cases hp
      have := congrArg List.length h
      simp only [List.length_take, List.length_drop, List.length_nil, List.length_reverse] at this q2
      omega
    · exact tw_full (Nat.le_antisymm (tw_le _) (Nat.le_of_not_lt q))
  · intro h
    rw [tw_all h]
    simp

theorem bare_iff (x : Str) : bareF x = true ↔ x.cps.toList ≠ [] ∧ ∀ c ∈ x.cps.toList, c = 97 ∨ c = 37 := by
  have e1 : (Str.ofString "a%").cps = #[97, 37] := by decide
  have e2 : (x = Str.ofString "") ↔ x.cps.toList = [] := ⟨fun h => by rw [h]; decide, fun h => str_ext (by rw [h]; decide)⟩
  unfold bareF
  rw [Bool.and_eq_true, bne_iff_ne, beq_iff_eq, strip_nil, e1, Ne, e2]
  refine and_congr Iff.rfl (forall_congr' fun c => imp_congr Iff.rfl ?_)
  simp

/-- signs, t times quoted -/
def encA (A : List Nat) (c : Nat) : List Nat := if c = 39 then A else [c]
def At : Nat → List Nat
  | 0 => [39]
  | t + 1 => rep (At t)
def Pt : Nat → List Nat
  | 0 => []
  | t + 1 => [39] ++ rep (Pt t)
def St' : Nat → List Nat
  | 0 => []
  | t + 1 => rep (St' t) ++ [39]
theorem rep_enc (A l : List Nat) : rep (l.flatMap (encA A)) = l.flatMap (encA (rep A)) := by
  induction l with
  | nil => rfl
  | cons c r ih =>
    rw [List.flatMap_cons, List.flatMap_cons, rep_append, ih]
    congr 1
    unfold encA
    split
    · rfl
    · rename_i h
      simp [rep, e1, h]
theorem enc_id (l : List Nat) : l.flatMap (encA [39]) = l := by
  induction l with
  | nil => rfl
  | cons c r ih =>
    rw [List.flatMap_cons, ih]
    unfold encA
    split
    · rename_i h; rw [h]; rfl
    · rfl
theorem itW_cps (x : Str) : ∀ t, (itF wrapS t x).cps.toList = Pt t ++ x.cps.toList.flatMap (encA (At t)) ++ St' t
  | 0 => by
    show x.cps.toList = [] ++ _ ++ []
    rw [show At 0 = [39] from rfl, enc_id]
    simp
  | t + 1 => by
    show (wrapS (itF wrapS t x)).cps.toList = _
    rw [wrapS_cps, itW_cps x t, rep_append, rep_append, rep_enc]
    simp [Pt, St', At]

theorem ltN_nil (y : Nat) (b : List Nat) : ltN [] (y :: b) = true := rfl
theorem ltN_lt {x y : Nat} (a b : List Nat) (h : x < y) : ltN (x :: a) (y :: b) = true := by
  unfold ltN lexB
  rw [if_neg (by simp; omega)]
  simpa using h
theorem ltN_same (x : Nat) (a b : List Nat) : ltN (x :: a) (x :: b) = ltN a b := by
  unfold ltN
  rw [lexB, if_pos (by simp)]
theorem ltN_app (p a b : List Nat) : ltN (p ++ a) (p ++ b) = ltN a b := by
  induction p with
  | nil => rfl
  | cons x p ih => rw [List.cons_append, List.cons_append, ltN_same, ih]
theorem ltI_cons {x y : Int} {a b : List Int} : ltI (x :: a) (y :: b) = if x = y then ltI a b else decide (x < y) := by
  unfold ltI
  rw [lexB]
  simp only [decide_eq_true_eq]

def Tl (l : List Nat) : Prop := l = [] ∨ ∃ r, l = 32 :: r
abbrev dbl (l : List Nat) : List Int := l.map (fun (c : Nat) => 2 * (c : Int))

theorem wl {A S : List Nat} {e : Int} (he : e % 2 = 1) (hA : ∃ A', A = 39 :: A')
    (h1 : ∀ c' rest u, Tl u → e < 2 * ((c' : Nat) : Int) → ltN (S ++ u) (encA A c' ++ rest) = true)
    (h2 : ∀ c rest v, Tl v → 2 * ((c : Nat) : Int) < e → ltN (encA A c ++ rest) (S ++ v) = true) :
    ∀ (a b u v : List Nat), Tl u → Tl v → ltI (dbl a ++ [e]) (dbl b ++ [e]) = true → ltN (a.flatMap (encA A) ++ (S ++ u)) (b.flatMap (encA A) ++ (S ++ v)) = true
  | [], [], u, v, hu, hv, h => by
    exfalso
    simp only [dbl, List.map_nil, List.nil_append] at h
    rw [to_ltI.irr] at h
    cases h
  | [], c' :: b, u, v, hu, hv, h => by
    simp only [dbl, List.map_nil, List.nil_append, List.map_cons, List.cons_append] at h
    rw [ltI_cons, if_neg (by omega)] at h
    rw [List.flatMap_nil, List.nil_append, List.flatMap_cons, List.append_assoc]
    exact h1 c' _ u hu (of_decide_eq_true h)
  | c :: a, [], u, v, hu, hv, h => by
    simp only [dbl, List.map_nil, List.nil_append, List.map_cons, List.cons_append] at h
    rw [ltI_cons, if_neg (by omega)] at h
    rw [List.flatMap_nil, List.nil_append, List.flatMap_cons, List.append_assoc]
    exact h2 c _ v hv (of_decide_eq_true h)
  | c :: a, c' :: b, u, v, hu, hv, h => by
    simp only [dbl, List.map_cons, List.cons_append] at h
    rw [ltI_cons] at h
    rw [List.flatMap_cons, List.flatMap_cons, List.append_assoc, List.append_assoc]
    by_cases q : c = c'
    · subst q
      rw [if_pos rfl] at h
      rw [ltN_app]
      exact wl he hA h1 h2 a b u v hu hv h
    · rw [if_neg (by omega)] at h
      have hlt : c < c' := by have := of_decide_eq_true h; omega
      obtain ⟨A', rfl⟩ := hA
      unfold encA
      by_cases q1 : c = 39
      · rw [if_pos q1, if_neg (by omega)]
        exact ltN_lt _ _ (by omega)
      · rw [if_neg q1]
        by_cases q2 : c' = 39
        · rw [if_pos q2]
          exact ltN_lt _ _ (by omega)
        · rw [if_neg q2]
          exact ltN_lt _ _ hlt

theorem wl_t {t : Nat} (ht1 : 1 ≤ t) (ht3 : t ≤ 3) (a b u v : List Nat) (hu : Tl u) (hv : Tl v) (h : ltI (dbl a ++ [if t = 1 then 77 else 79]) (dbl b ++ [if t = 1 then 77 else 79]) = true) :
    ltN (a.flatMap (encA (At t)) ++ (St' t ++ u)) (b.flatMap (encA (At t)) ++ (St' t ++ v)) = true := by
  have : t = 1 ∨ t = 2 ∨ t = 3 := by omega
  rcases this with rfl | rfl | rfl
  · refine wl (e := 77) (A := At 1) (by decide) ⟨(At 1).tail, by decide⟩ (fun c' rest u hu h => ?_) (fun c rest v hv h => ?_) a b u v hu hv h
    · skip
      show ltN (39 :: u) _ = true
      unfold encA
      by_cases q : c' = 39
      · rw [if_pos q]
        show ltN (39 :: u) (39 :: 34 :: _) = true
        rw [ltN_same]
        rcases hu with rfl | ⟨r, rfl⟩
        · exact ltN_nil _ _
        · exact ltN_lt _ _ (by decide)
      · rw [if_neg q]
        exact ltN_lt _ _ (by omega)
    · skip
      show ltN _ (39 :: v) = true
      unfold encA
      rw [if_neg (by omega)]
      exact ltN_lt _ _ (by omega)
  · refine wl (e := 79) (A := At 2) (by decide) ⟨(At 2).tail, by decide⟩ (fun c' rest u hu h => ?_) (fun c rest v hv h => ?_) a b u v hu hv h
    · skip
      show ltN (39 :: _) _ = true
      unfold encA
      rw [if_neg (by omega)]
      exact ltN_lt _ _ (by omega)
    · skip
      unfold encA
      by_cases q : c = 39
      · rw [if_pos q]
        rw [show At 2 = [39, 34, 39, 34, 39] ++ 34 :: [39, 34, 39, 34, 39, 34, 39, 34, 39, 34, 39] by decide, show St' 2 = [39, 34, 39, 34, 39] ++ [39] by decide, List.append_assoc, List.append_assoc, ltN_app]
        exact ltN_lt _ _ (by decide)
      · rw [if_neg q]
        show ltN (c :: rest) (39 :: _) = true
        exact ltN_lt _ _ (by omega)
  · refine wl (e := 79) (A := At 3) (by decide) ⟨(At 3).tail, by decide⟩ (fun c' rest u hu h => ?_) (fun c rest v hv h => ?_) a b u v hu hv h
    · skip
      show ltN (39 :: _) _ = true
      unfold encA
      rw [if_neg (by omega)]
      exact ltN_lt _ _ (by omega)
    · skip
      unfold encA
      by_cases q : c = 39
      · rw [if_pos q]
        have eA : ∃ r, At 3 = At 2 ++ 34 :: r := ⟨(At 3).drop ((At 2).length + 1), by decide⟩
        have eS : ∃ r, St' 3 = At 2 ++ 39 :: r := ⟨(St' 3).drop ((At 2).length + 1), by decide⟩
        obtain ⟨r, eA⟩ := eA
        obtain ⟨r', eS⟩ := eS
        rw [eA, eS, List.append_assoc, List.append_assoc, ltN_app]
        exact ltN_lt _ _ (by decide)
      · rw [if_neg q]
        show ltN (c :: rest) (39 :: _) = true
        exact ltN_lt _ _ (by omega)

theorem wb : ∀ (a b u v : List Nat), (∀ c ∈ b, 32 < c) → Tl u → ltI (dbl a) (dbl b) = true → ltN (a ++ u) (b ++ v) = true
  | [], [], u, v, _, _, h => by
    rw [to_ltI.irr] at h
    cases h
  | [], c' :: b, u, v, hb, hu, h => by
    rcases hu with rfl | ⟨r, rfl⟩
    · exact ltN_nil _ _
    · exact ltN_lt _ _ (hb c' (.head _))
  | c :: a, [], u, v, _, _, h => by cases h
  | c :: a, c' :: b, u, v, hb, hu, h => by
    simp only [dbl, List.map_cons] at h
    rw [ltI_cons] at h
    rw [List.cons_append, List.cons_append]
    by_cases q : c = c'
    · subst q
      rw [if_pos rfl] at h
      rw [ltN_same]
      exact wb a b u v (fun x hx => hb x (.tail _ hx)) hu h
    · rw [if_neg (by omega)] at h
      have := of_decide_eq_true h
      exact ltN_lt _ _ (by omega)

/-- a word's spelling -/
abbrev spC (t : Nat) (x : Str) : List Nat := (spellF t x).cps.toList
theorem sp_bare {t : Nat} {x : Str} (h : bareF x = true) : spC t x = x.cps.toList := by unfold spC spellF; rw [if_pos h]
theorem sp_non {t : Nat} {x : Str} (h : ¬ bareF x = true) : spC t x = Pt t ++ x.cps.toList.flatMap (encA (At t)) ++ St' t := by unfold spC spellF; rw [if_neg h, itW_cps]
theorem rk_bare {t : Nat} {x : Str} (h : bareF x = true) : rankW t x = dbl x.cps.toList := by unfold rankW; rw [if_pos h]
theorem rk_non {t : Nat} {x : Str} (h : ¬ bareF x = true) : rankW t x = 78 :: (dbl x.cps.toList ++ [if t = 1 then 77 else 79]) := by unfold rankW; rw [if_neg h]; rfl
theorem pt_cons {t : Nat} (h : 1 ≤ t) : ∃ p, Pt t = 39 :: p := by
  cases t with
  | zero => omega
  | succ n => exact ⟨_, rfl⟩
theorem dbl_inj : ∀ {a b : List Nat}, dbl a = dbl b → a = b
  | [], [], _ => rfl
  | [], y :: b, h => by cases h
  | x :: a, [], h => by cases h
  | x :: a, y :: b, h => by
    simp only [dbl, List.map_cons, List.cons.injEq] at h
    rw [dbl_inj h.2, show x = y by omega]
theorem bare_cons {x : Str} (h : bareF x = true) : ∃ c r, x.cps.toList = c :: r ∧ (c = 97 ∨ c = 37) := by
  obtain ⟨h1, h2⟩ := (bare_iff x).mp h
  cases q : x.cps.toList with
  | nil => exact absurd q h1
  | cons c r => exact ⟨c, r, rfl, h2 c (by rw [q]; exact .head _)⟩

theorem rank_inj {t : Nat} {x y : Str} (h : rankW t x = rankW t y) : x = y := by
  by_cases hx : bareF x = true
  · by_cases hy : bareF y = true
    · rw [rk_bare hx, rk_bare hy] at h
      exact str_ext (dbl_inj h)
    · rw [rk_bare hx, rk_non hy] at h
      obtain ⟨c, r, e, hc⟩ := bare_cons hx
      rw [e] at h
      simp only [dbl, List.map_cons, List.cons.injEq] at h
      omega
  · by_cases hy : bareF y = true
    · rw [rk_non hx, rk_bare hy] at h
      obtain ⟨c, r, e, hc⟩ := bare_cons hy
      rw [e] at h
      simp only [dbl, List.map_cons, List.cons.injEq] at h
      omega
    · rw [rk_non hx, rk_non hy] at h
      have := (List.cons.inj h).2
      exact str_ext (dbl_inj (List.append_cancel_right this))

theorem wlt {t : Nat} (ht1 : 1 ≤ t) (ht3 : t ≤ 3) {x y : Str} {u v : List Nat} (hu : Tl u) (hv : Tl v) (h : ltI (rankW t x) (rankW t y) = true) : ltN (spC t x ++ u) (spC t y ++ v) = true := by
  by_cases hx : bareF x = true
  · by_cases hy : bareF y = true
    · rw [rk_bare hx, rk_bare hy] at h
      rw [sp_bare hx, sp_bare hy]
      refine wb _ _ _ _ (fun c hc => ?_) hu h
      have := ((bare_iff y).mp hy).2 c hc
      omega
    · rw [rk_bare hx, rk_non hy] at h
      obtain ⟨c, r, e, hc⟩ := bare_cons hx
      obtain ⟨p, ep⟩ := pt_cons ht1
      rw [sp_bare hx, sp_non hy, e, ep]
      rw [e] at h
      simp only [dbl, List.map_cons] at h
      rw [ltI_cons, if_neg (by omega)] at h
      have := of_decide_eq_true h
      exact ltN_lt _ _ (by omega)
  · by_cases hy : bareF y = true
    · rw [rk_non hx, rk_bare hy] at h
      obtain ⟨c, r, e, hc⟩ := bare_cons hy
      obtain ⟨p, ep⟩ := pt_cons ht1
      rw [sp_non hx, sp_bare hy, e, ep]
      rw [e] at h
      simp only [dbl, List.map_cons] at h
      rw [ltI_cons, if_neg (by omega)] at h
      have := of_decide_eq_true h
      exact ltN_lt _ _ (by omega)
    · rw [rk_non hx, rk_non hy, ltI_cons, if_pos rfl] at h
      rw [sp_non hx, sp_non hy, List.append_assoc, List.append_assoc, List.append_assoc, List.append_assoc, ltN_app]
      exact wl_t ht1 ht3 _ _ u v hu hv h

/-- a row's line -/
def lnC (t : Nat) : List Str → List Nat
  | [] => []
  | x :: r => spC t x ++ (match r with | [] => [] | _ :: _ => 32 :: lnC t r)
theorem line_cps (t : Nat) : ∀ ws : List Str, (lineS t ws).cps.toList = lnC t ws := by
  intro ws
  rw [show lineS t ws = Str.join " " (ws.map (spellF t)) from StrLaws.glued_eq_join _ _]
  induction ws with
  | nil => rfl
  | cons x r ih =>
    cases r with
    | nil => simp [lnC, Str.join, spC]
    | cons y r =>
      show (spellF t x ++ (" " : Str) ++ Str.join " " ((y :: r).map (spellF t))).cps.toList = spC t x ++ 32 :: lnC t (y :: r)
      rw [cps_append, cps_append, ih, show ((" " : Str)).cps.toList = [32] from by decide]
      simp
theorem sp_ne {t : Nat} (ht1 : 1 ≤ t) (x : Str) : ∃ c r, spC t x = c :: r := by
  by_cases hx : bareF x = true
  · obtain ⟨c, r, e, _⟩ := bare_cons hx
    exact ⟨c, r, by rw [sp_bare hx, e]⟩
  · obtain ⟨p, ep⟩ := pt_cons ht1
    exact ⟨39, _, by rw [sp_non hx, ep]; rfl⟩
theorem tl_tail (t : Nat) (r : List Str) : Tl (match r with | [] => [] | _ :: _ => 32 :: lnC t r) := by
  cases r with
  | nil => exact .inl rfl
  | cons y r => exact .inr ⟨_, rfl⟩
theorem ltR_cons {x y : List Int} {a b : List (List Int)} : ltR (x :: a) (y :: b) = if x = y then ltR a b else ltI x y := by
  unfold ltR
  rw [lexB]
  simp only [decide_eq_true_eq]

theorem line_lt {t : Nat} (ht1 : 1 ≤ t) (ht3 : t ≤ 3) : ∀ a b : List Str, ltR (a.map (rankW t)) (b.map (rankW t)) = true → ltN (lnC t a) (lnC t b) = true
  | [], [], h => by cases h
  | [], y :: b, _ => by
    obtain ⟨c, r, e⟩ := sp_ne ht1 y
    show ltN [] (spC t y ++ _) = true
    rw [e]
    rfl
  | x :: a, [], h => by cases h
  | x :: a, y :: b, h => by
    rw [List.map_cons, List.map_cons, ltR_cons] at h
    by_cases q : rankW t x = rankW t y
    · rw [if_pos q] at h
      have ih := line_lt ht1 ht3 a b h
      obtain rfl := rank_inj q
      show ltN (spC t x ++ _) (spC t x ++ _) = true
      rw [ltN_app]
      cases a with
      | nil =>
        cases b with
        | nil => cases h
        | cons y' b' => exact ltN_nil _ _
      | cons x' a' =>
        cases b with
        | nil => cases h
        | cons y' b' =>
          show ltN (32 :: lnC t (x' :: a')) (32 :: lnC t (y' :: b')) = true
          rw [ltN_same]
          exact ih
    · rw [if_neg q] at h
      exact wlt ht1 ht3 (tl_tail t a) (tl_tail t b) h

/-- a row's key -/
def keyOf (t : Nat) (ws : List Str) : Key := (ws.map (rankW t), lineS t ws)
def Vt (t : Nat) (k : Key) : Prop := ∃ ws, k = keyOf t ws
theorem ordK {t : Nat} (ht1 : 1 ≤ t) (ht3 : t ≤ 3) : OrdK (Vt t) := by
  rintro _ _ ⟨a, rfl⟩ ⟨b, rfl⟩
  unfold ltK keyOf
  dsimp only
  by_cases q1 : a.map (rankW t) = b.map (rankW t)
  · rw [if_pos q1]
    by_cases q2 : lineS t a = lineS t b
    · rw [if_pos q2, q2, to_sl.irr]
    · rw [if_neg q2]
  · rw [if_neg q1]
    have key : ∀ a b : List Str, ltR (a.map (rankW t)) (b.map (rankW t)) = true → sl (lineS t a) (lineS t b) = true := fun a b h => by
      rw [sl_eq, line_cps, line_cps]
      exact line_lt ht1 ht3 a b h
    rcases to_ltR.tot _ _ q1 with r | r
    · rw [r, key _ _ r]
    · rw [to_ltR.asym r, to_sl.asym (key _ _ r)]

theorem quote_bare {x : Str} (h : bareF x = true) : quoteF x = x := by
  unfold quoteF
  obtain ⟨h1, h2⟩ := (bare_iff x).mp h
  rw [if_pos]
  rw [Bool.and_eq_true]
  refine ⟨?_, List.all_eq_true.mpr fun c hc => ?_⟩
  · rw [len_cps]
    simpa using h1
  · rcases h2 c hc with rfl | rfl <;> decide
theorem quote_non {x : Str} (ho : okS x) (h : ¬ bareF x = true) : quoteF x = wrapS x := by
  unfold quoteF
  rw [if_neg]
  intro q
  rw [Bool.and_eq_true, List.all_eq_true] at q
  refine h ((bare_iff x).mpr ⟨fun e => ?_, fun c hc => ?_⟩)
  · have := q.1
    rw [len_cps, e] at this
    cases this
  · have h1 := ho c hc
    have h2 := q.2 c hc
    have : ∀ c ∈ alpha, safeC c = true → c = 97 ∨ c = 37 := by decide
    exact this c h1 h2
theorem quote_wrap (x : Str) : quoteF (wrapS x) = wrapS (wrapS x) := by
  unfold quoteF
  rw [if_neg]
  intro q
  rw [Bool.and_eq_true, List.all_eq_true] at q
  have := q.2 39 (by rw [wrapS_cps]; exact .head _)
  revert this
  decide
theorem itQ_spell {x : Str} (ho : okS x) : ∀ t, itF quoteF (t + 1) x = spellF (t + 1) x := by
  intro t
  unfold spellF
  by_cases h : bareF x = true
  · rw [if_pos h]
    induction t with
    | zero => exact quote_bare h
    | succ t ih =>
      show quoteF (itF quoteF (t + 1) x) = x
      rw [ih, quote_bare h]
  · rw [if_neg h]
    induction t with
    | zero => exact quote_non ho h
    | succ t ih =>
      show quoteF (itF quoteF (t + 1) x) = wrapS (itF wrapS (t + 1) x)
      rw [ih]
      exact quote_wrap _
theorem join_line {t : Nat} {ws : List Str} (ho : ∀ x ∈ ws, okS x) : Txt.join " " ((ws.map (itF quoteF t)).map quoteF) = lineS (t + 1) ws := by
  unfold lineS
  rw [List.map_map]
  congr 1
  exact List.map_congr_left fun x hx => itQ_spell (ho x hx) t

end Mine
end

section
set_option maxRecDepth 100000
set_option maxHeartbeats 4000000
namespace Mine
theorem rising_pw : ∀ (p : Str) (l : List Str), risingS p l = true → (p :: l).Pairwise (fun a b => sl b a = false)
  | p, [], _ => List.pairwise_singleton _ _
  | p, x :: r, h => by
    have h' : (!Spec.ltCps x.cps.toList p.cps.toList && risingS x r) = true := h
    rw [Bool.and_eq_true, Bool.not_eq_true', ltCps_eq] at h'
    have ih := rising_pw x r h'.2
    have h0 : sl x p = false := h'.1
    refine List.pairwise_cons.mpr ⟨fun y hy => ?_, ih⟩
    rcases List.mem_cons.mp hy with rfl | hy
    · exact h0
    · exact sl_trans_ge ((List.pairwise_cons.mp ih).1 y hy) h0
theorem sorted_pw : ∀ {l : List Str}, sortedS l = true → l.Pairwise (fun a b => sl b a = false)
  | [], _ => .nil
  | x :: r, h => rising_pw x r h
theorem dues_of {h : Heap} {vs : List Value} {ks : List Key} (x : ItemsAt h vs ks) : ∃ ds : List Value, ds.length = vs.length ∧ StrsAre ds (ks.map (·.2)) ∧ ∀ (i : Nat) v, vs[i]? = some v → ∃ T v₁ v₂, v = .ref T ∧ h.IsTuple T #[v₁, v₂] ∧ ds[i]? = some v₂ := by
  induction x with
  | nil => exact ⟨[], rfl, .nil, fun i v e => by simp at e⟩
  | cons hi _ ih =>
    obtain ⟨ds, h1, h2, h3⟩ := ih
    obtain ⟨a, r, us, n, t, rfl, e2, e3, e4⟩ := hi
    refine ⟨.str _ t :: ds, by simp [h1], .cons _ t h2, fun i v e => ?_⟩
    cases i with
    | zero =>
      rw [List.getElem?_cons_zero] at e
      cases e
      exact ⟨a, _, _, rfl, ⟨_, e2, rfl, _, rfl⟩, rfl⟩
    | succ i => exact h3 i v (by simpa using e)
theorem ansR_len {kind : Nat} {ks ks' : List Key} {k : Key} {res : List (Option Str)} (h : AnsR kind ks k ks' res) : ks'.length ≤ ks.length + 1 := by
  rcases h.2 with ⟨_, hp, _⟩ | ⟨_, _, rfl, rfl, _⟩ | ⟨_, _, k0, rfl, _⟩ | ⟨_, k0, r, rfl, hp, _⟩ | ⟨_, k0, _, hp, _⟩
  · simpa using Nat.le_of_eq hp.length_eq
  · simp
  · simp; omega
  · have := hp.length_eq
    simp at this ⊢
    omega
  · have := hp.length_eq
    simp at this
    omega

end Mine
end

section
set_option maxRecDepth 100000
set_option maxHeartbeats 4000000
namespace Mine
local macro_rules | `(tactic| walk_at "go") => `(tactic| repeat' (first | walk1 | (dsimp only; walk1)))
local macro_rules | `(tactic| walk_at "look") => `(tactic| first | assumption | exact rfl | exact if_pos rfl | (refine Eq.trans (if_neg (by decide)) ?_; walk_at "look"))
local macro_rules | `(tactic| walk_at "eval Name") => `(tactic| (refine' ld ?k1 ?k2 ?_; (case k1 => with_reducible assumption); (case k2 => ((try dsimp only); walk_at "look")); k_whole))
local macro_rules | `(tactic| walk_at "exec For Name Call cons nil") => `(tactic| (refine wpAny_For ?_ (fun _ => rfl)))
local macro_rules | `(tactic| walk_at "exec For Name Name cons nil") => `(tactic| (refine wpAny_For ?_ (fun _ => rfl)))
local macro_rules | `(tactic| walk_at "binaryOp Add str str") => `(tactic| (refine PyProof.Rows.add_str ?h ?z; (case z => (simp only [Str.length_append, sizeLine_eq]; omega)); (intro _ _)))
local macro_rules | `(tactic| walk_at "exec While Compare cons nil") => `(tactic| refine stopw ?_)
local macro_rules | `(tactic| walk_at "eval Name") => `(tactic| (refine' nm_loc ?k1 ?k2 ?_ ?k4 ?k5 ?k6; (case k1 => with_reducible assumption); (case k2 => with_reducible assumption); (case k4 => rfl); (case k5 => rfl); (case k6 => decide); k_whole))
/-- a comprehension over a list of pairs: the second of each -/
theorem comp_pairs {w : World} {A : Around} {E : Value → Shared → Prop} {s : Shared} {env : Env} {iter : Expr} {x x₂ : Str} {px px₂ tp pe pos : Pos} {kk : Nat} {scope : Scope} {cl : List (Str × Addr)} {l : Addr} {vs ss : List Value} {nl : Nat} {Q : Value → Shared → Prop}
    (hh : A.handled = none) (hl : s.heap.get? l = some (listOf vs.toArray nl)) (hlen : vs.length ≤ 1000) (hsl : ss.length = vs.length)
    (hp : ∀ (i : Nat) v, vs[i]? = some v → ∃ T v₁ v₂, v = .ref T ∧ s.heap.IsTuple T #[v₁, v₂] ∧ ss[i]? = some v₂)
    (hclos : closureFor scope env = pure cl) (hcell : ∀ y ∈ scope.names, y.2 ≠ .cell) (hkind : scope.kind = .function)
    (hnames : ∀ y ∈ scope.names, y.2 = .local → scope.names.lookup y.1 = some .local) (hx : scope.names.lookup x = some .local) (hx₂ : scope.names.lookup x₂ = some .local) (hxx : ¬ x = x₂) (hdbg : (x₂ == ("__debug__" : Str)) = false)
    (hiter : wpAny (model PP w) A (eval iter env) (fun xv s₁ => xv = .ref l ∧ s₁ = s) E s) (hs : ∀ x, foldedSetIterable iter env x = pure x)
    (h : ∀ D h' tk n, Ext s.heap h' → s.heap.get? D = none → h'.get? D = some (listOf ss.toArray n) → Q (.ref D) { s with heap := h', toks := tk }) :
    wpAny (model PP w) A (eval (.ListComp (.Name x₂ pe) [⟨.Tuple [.Name x px, .Name x₂ px₂] kk tp, iter, [], 0⟩] scope pos) env) Q E s := by
  rw [eval_ListComp]
  refine wpAny_comprehension_free (use := none) rfl hs hclos hkind hnames (wpAny_mono hiter (fun xv s₁ h₁ => ?_) fun _ _ e => e)
  obtain ⟨rfl, rfl⟩ := h₁
  have hlist : s₁.heap.IsList l vs.toArray := ⟨_, hl, rfl, _, rfl⟩
  have hlz : l ≠ s₁.heap.objs.size := Nat.ne_of_lt (Heap.lt_size hl)
  refine wpAny_pyIter_list hlist ?_
  have W := Walks.list (prog := PP) (w := w) hh s₁.heap.objs.size l hlz vs.toArray
  have hst0 : (fun (i : Nat) (h : Heap) => h.IsListIter s₁.heap.objs.size l i ∧ h.IsList l vs.toArray) 0 (s₁.heap.push { cls := .type "list_iterator", dict := none, data := .fields #[.ref l, .int 0 0] }) := ⟨⟨_, Heap.get?_push_size _ rfl, rfl, rfl⟩, hlist.push _⟩
  have up0 : Ext s₁.heap (s₁.heap.push { cls := .type "list_iterator", dict := none, data := .fields #[.ref l, .int 0 0] }) := fun b o e => Heap.get?_push_of_some _ e
  have sz0 : (s₁.heap.push { cls := .type "list_iterator", dict := none, data := .fields #[.ref l, .int 0 0] }).objs.size = s₁.heap.objs.size + 1 := Heap.size_push ..
  generalize hH0 : s₁.heap.push { cls := .type "list_iterator", dict := none, data := .fields #[.ref l, .int 0 0] } = H0 at hst0 up0 sz0
  generalize hIz : s₁.heap.objs.size = I at W hst0 sz0 hlz
  have ltI : ∀ b o, s₁.heap.get? b = some o → @LT.lt Nat _ b I := fun b o e => hIz ▸ Heap.lt_size e
  refine wpAny_newObj_type (wpAny_newFunctionEnv hcell (by intro y hy; simp at hy) (fun h₁ hns₁ hsb₁ => ?_) hkind)
  dsimp only at hns₁ hsb₁ ⊢
  generalize hH2 : H0.push { cls := .type "list", dict := none, data := .seq ([] : List Value).toArray } = H2 at hns₁ hsb₁ ⊢
  have hC : H2.objs.size = I + 2 := by rw [← hH2, Heap.size_push, sz0]
  have hD : H0.objs.size = I + 1 := sz0
  have old1 : ∀ b o, @LT.lt Nat _ b (I + 1) → H0.get? b = some o → h₁.get? b = some o := fun b o hb e => hsb₁.extBut b o (by rw [hC]; exact Nat.ne_of_lt (by omega)) (Heap.get?_push_of_some _ (hH2 ▸ Heap.get?_push_of_some _ e))
  have hacc0 : H2.get? (I + 1) = some (listOf #[] 0) := by
    rw [← hH2, ← hD]
    exact Heap.get?_push_size _ rfl
  have hacc : h₁.get? (I + 1) = some (listOf #[] 0) := hsb₁.extBut _ _ (by rw [hC]; exact Nat.ne_of_lt (by omega)) (Heap.get?_push_of_some _ hacc0)
  have hst₁ : h₁.IsListIter I l 0 ∧ h₁.IsList l vs.toArray := W.frame _ _ _ hst0 fun b hb o e => by
    refine old1 b o ?_ e
    rcases List.mem_cons.mp hb with rfl | hb
    · exact Nat.lt_succ_self _
    · rw [List.mem_singleton.mp hb]
      exact Nat.lt_succ_of_lt (ltI _ _ hl)
  rw [hC] at hns₁ hsb₁
  have ek : (compEnvC scope cl (I + 2) env).scope.kind = .function := by simp [compEnvC, relabel, hkind]
  have loop : ∀ s₃ : Shared, s₃ = { s₁ with heap := h₁, toks := s₁.toks + ([] : List (Str × Value)).length } →
      codeAny (model PP w) A (.compLoop (.ListComp (.Name x₂ pe) [⟨.Tuple [.Name x px, .Name x₂ px₂] kk tp, iter, [], 0⟩] scope pos) 0 (.ref I) (.ref (I + 1)) (compEnvC scope cl (I + 2) env))
        (compPost (model PP w) A E none Q (.ref (I + 1)) (I + 2)) s₃ := by
    rintro s₃ rfl
    refine PyProof.Rows.LCp.codeAny_compLoop_pair
      (fun k s' => ∃ h' tk i m' nn, s' = { s₁ with heap := h', toks := tk } ∧ i ≤ vs.length ∧ k = vs.length + 1 - i ∧ (h'.IsListIter I l i ∧ h'.IsList l vs.toArray) ∧ h'.Ns (I + 2) m' ∧ h'.get? (I + 1) = some (listOf (ss.take i).toArray nn) ∧ Ext s₁.heap h') ?_ (vs.length + 1)
      ⟨h₁, _, 0, _, 0, rfl, Nat.zero_le _, rfl, hst₁, hns₁, by simpa using hacc, fun b o e => old1 b o (Nat.lt_succ_of_lt (ltI b o e)) (up0 b o e)⟩
    rintro k s' ⟨h', tk, i, m', nn, rfl, hi, rfl, hst', hn', hD', hk'⟩
    by_cases hlt : i < vs.length
    · refine W.item i _ _ _ (by simpa using hlt) hst' fun v h₂ tk₂ hPv hst₂ hk₂ => ?_
      obtain ⟨T, v₁, v₂, rfl, hT, hss⟩ := hp i v (by simpa using hPv)
      have up2 : Ext s₁.heap h₂ := fun b o e => hk₂ b o (fun q => absurd (List.mem_singleton.mp q) (Nat.ne_of_lt (ltI b o e))) (hk' b o e)
      refine wpAny_letOwnedTupleGo_listiter hst₂.1 ?_
      refine kcp_assign (env := compEnvC scope cl (I + 2) env) (m := m') hh (hT.at fun o e => up2 _ o e) (lookup_relabel_local hx) (lookup_relabel_local hx₂) (by simp [compEnvC, relabel, hkind]) (hn'.at' fun o e => hk₂ _ o (fun q => absurd (List.mem_singleton.mp q) (Nat.ne_of_gt (by omega))) e) fun h₃ tk₃ hn₃ hs₃ => ?_
      have hs₃' : ∀ b o, b ≠ I + 2 → h₂.get? b = some o → h₃.get? b = some o := hs₃
      refine nm_loc hn₃ (v := v₂) (by simp) ?_ ek (lookup_relabel_local hx₂) hdbg
      have hD3 : h₃.get? (I + 1) = some (listOf (ss.take i).toArray nn) := hs₃' _ _ (Nat.ne_of_lt (by omega)) (hk₂ _ _ (fun q => absurd (List.mem_singleton.mp q) (Nat.ne_of_gt (by omega))) hD')
      refine append_at hD3 (by simp; omega) fun h₅ k₅ hs₅ hD₅ => ?_
      have hst₃ : h₃.IsListIter I l (i + 1) ∧ h₃.IsList l vs.toArray := W.frame _ _ _ hst₂ fun b hb o e => hs₃' b o (by
        rcases List.mem_cons.mp hb with rfl | hb
        · exact Nat.ne_of_lt (by omega)
        · rw [List.mem_singleton.mp hb]
          have := ltI _ _ hl
          exact Nat.ne_of_lt (by omega)) e
      refine ⟨vs.length + 1 - (i + 1), by omega, h₅, _, i + 1, _, k₅, rfl, hlt, rfl, W.frame _ _ _ hst₃ fun b hb o e => hs₅.extBut b o ?_ e, hn₃.sameBut hs₅ (show (I + 2 : Nat) ≠ I + 1 by omega), ?_, fun b o e => hs₅.extBut b o ?_ (hs₃' b o ?_ (up2 b o e))⟩
      · rcases List.mem_cons.mp hb with rfl | hb
        · exact Nat.ne_of_lt (by omega)
        · rw [List.mem_singleton.mp hb]
          have := ltI _ _ hl
          exact Nat.ne_of_lt (by omega)
      · rw [hD₅, List.take_add_one, hss]
        simp
      · have := ltI b o e
        exact Nat.ne_of_lt (by omega)
      · have := ltI b o e
        exact Nat.ne_of_lt (by omega)
    · obtain rfl : i = vs.length := Nat.le_antisymm hi (Nat.not_lt.mp hlt)
      refine W.done _ _ _ (by simpa using hst') fun h₂ tk₂ hk₂ => ?_
      have hk2 : ∀ b o, @LT.lt Nat _ b I ∨ @LT.lt Nat _ I b → h'.get? b = some o → h₂.get? b = some o := fun b o hb e => hk₂ b o (fun q => absurd (List.mem_singleton.mp q) (by
        rcases hb with hb | hb
        · exact Nat.ne_of_lt hb
        · exact Nat.ne_of_gt hb)) e
      refine ⟨m', hn'.at' fun o e => hk2 _ o (.inr (by omega)) e, fun h'' hs'' => ?_⟩
      refine h (I + 1) h'' _ nn (fun b o e => hs''.extBut b o ?_ (hk2 b o (.inl (ltI b o e)) (hk' b o e))) ?_ ?_
      · have := ltI b o e
        exact Nat.ne_of_lt (by omega)
      · exact Heap.get?_none_of_le (by rw [hIz]; exact Nat.le_succ _)
      · refine hs''.extBut _ _ (Nat.ne_of_lt (by omega)) (hk2 _ _ (.inr (by omega)) ?_)
        rw [hD', ← hsl, List.take_length]
  rw [hC]
  rw [show H0.objs.size = I + 1 from hD]
  exact codeAny_compStart_list (loop _ rfl) (W.self 0 _ _ _ hst₁ (loop _ rfl))

end Mine
end

section
set_option maxRecDepth 100000
set_option maxHeartbeats 4000000
namespace Mine
local macro_rules | `(tactic| walk_at "go") => `(tactic| repeat' (first | walk1 | (dsimp only; walk1)))
local macro_rules | `(tactic| walk_at "look") => `(tactic| first | assumption | exact rfl | exact if_pos rfl | (refine Eq.trans (if_neg (by decide)) ?_; walk_at "look"))
local macro_rules | `(tactic| walk_at "eval Name") => `(tactic| (refine' ld ?k1 ?k2 ?_; (case k1 => with_reducible assumption); (case k2 => ((try dsimp only); walk_at "look")); k_whole))
local macro_rules | `(tactic| walk_at "exec For Name Call cons nil") => `(tactic| (refine wpAny_For ?_ (fun _ => rfl)))
local macro_rules | `(tactic| walk_at "exec For Name Name cons nil") => `(tactic| (refine wpAny_For ?_ (fun _ => rfl)))
local macro_rules | `(tactic| walk_at "binaryOp Add str str") => `(tactic| (refine PyProof.Rows.add_str ?h ?z; (case z => (simp only [Str.length_append, sizeLine_eq]; omega)); (intro _ _)))
local macro_rules | `(tactic| walk_at "exec While Compare cons nil") => `(tactic| refine stopw ?_)
local macro_rules | `(tactic| walk_at "eval Name") => `(tactic| (refine' nm_loc ?k1 ?k2 ?_ ?k4 ?k5 ?k6; (case k1 => with_reducible assumption); (case k2 => with_reducible assumption); (case k4 => rfl); (case k5 => rfl); (case k6 => decide); k_whole))
local macro_rules | `(tactic| walk_at "subscriptTail") => `(tactic| refine stopw ?_)
local macro_rules | `(tactic| walk_at "subscriptTail Name Name ref int") => `(tactic| refine stopw ?_)
local macro_rules | `(tactic| walk_at "subscriptTail Name BinOp ref int") => `(tactic| refine stopw ?_)
section
variable {w : World} {mg mb : Str → Option Value} {A : Around} {E : Value → Shared → Prop} {s : Shared} {env : Env} {m : Str → Option Value} {tk : Tok} {p1 p2 p3 p4 p5 p6 p7 p8 p9 p10 p11 : Pos} {k1 k2 n k : Nat} {c H : Addr} {o : Obj} {vs : List Value} {xs : List Str} {Q : Bool → Shared → Prop}
theorem bad_test (hH : s.heap.get? H = some (listOf vs.toArray n)) (hsa : StrsAre vs xs) (hl : xs.length ≤ 1000) (hy : Heapy xs) (hk1 : 1 ≤ k) (hk2 : k < xs.length) (hn : s.heap.Ns env.locals m) (hm : m (Str.ofString "k") = some (.int k tk))
    (hc : env.cells.lookup (Str.ofString "heap") = some c) (ho : s.heap.get? c = some o) (hd : o.data = .cell (some (.ref H)))
    (h2 : env.scope.kind = .function) (h4 : env.kindOf (Str.ofString "k") = some .local) (h5 : env.kindOf (Str.ofString "heap") = some .cell)
    (h : ∀ tk', Q false { s with toks := tk' }) :
    wpAny (model PP w) A (isTrue (((Expr.Name (Str.ofString "heap") p1).Subscript (Expr.Name (Str.ofString "k") p2) p3).Compare [CmpOp.Lt] [(Expr.Name (Str.ofString "heap") p4).Subscript (((Expr.Name (Str.ofString "k") p5).BinOp Operator.Sub (Expr.Constant (Const.int 1) k1 p6) p7).BinOp Operator.FloorDiv (Expr.Constant (Const.int 2) k2 p8) p9) p10] p11) env
      (eval (((Expr.Name (Str.ofString "heap") p1).Subscript (Expr.Name (Str.ofString "k") p2) p3).Compare [CmpOp.Lt] [(Expr.Name (Str.ofString "heap") p4).Subscript (((Expr.Name (Str.ofString "k") p5).BinOp Operator.Sub (Expr.Constant (Const.int 1) k1 p6) p7).BinOp Operator.FloorDiv (Expr.Constant (Const.int 2) k2 p8) p9) p10] p11) env)) Q E s := by
  have hlist : s.heap.IsList H vs.toArray := ⟨_, hH, rfl, _, rfl⟩
  have e2 : ((k : Int) - 1).fdiv 2 = (((k - 1) / 2 : Nat) : Int) := by
    rw [Int.fdiv_eq_ediv_of_nonneg _ (by decide)]
    omega
  have e3 : sl (xs.getD k Str.empty) (xs.getD ((k - 1) / 2) Str.empty) = false := hy k hk1 hk2
  obtain ⟨hp, gs, dr, tk0, os⟩ := s
  dsimp only at hn ho hlist h
  walk_at "go"
  refine nm_cell hc ho hd ?_ h2 h5 (by decide)
  walk_at "go"
  refine nm_loc hn hm ?_ h2 h4 (by decide)
  walk_at "go"
  (try unfold StopW)
  refine item_strsA hlist hsa (Int.natCast_nonneg _) (by omega) (by omega) (fun u => ?_) (by with_unfolding_all rfl) (by intro _; with_unfolding_all rfl)
  dsimp only [Int.toNat_natCast]
  walk_at "go"
  refine nm_cell hc ho hd ?_ h2 h5 (by decide)
  walk_at "go"
  refine nm_loc hn hm ?_ h2 h4 (by decide)
  walk_at "go"
  (try unfold StopW)
  rw [e2]
  refine item_strsA hlist hsa (Int.natCast_nonneg _) (by omega) (by omega) (fun u2 => ?_) (by with_unfolding_all rfl) (by intro _; with_unfolding_all rfl)
  simp only [Int.toNat_natCast]
  refine PyProof.Rows.lt_str ?_
  rw [show decide ((xs.getD k Str.empty).cps.toList < (xs.getD ((k - 1) / 2) Str.empty).cps.toList) = false from e3]
  walk_at "go"
  exact h _
end

end Mine
end

section
set_option maxRecDepth 100000
set_option maxHeartbeats 4000000
namespace Mine
local macro_rules | `(tactic| walk_at "go") => `(tactic| repeat' (first | walk1 | (dsimp only; walk1)))
local macro_rules | `(tactic| walk_at "look") => `(tactic| first | assumption | exact rfl | exact if_pos rfl | (refine Eq.trans (if_neg (by decide)) ?_; walk_at "look"))
local macro_rules | `(tactic| walk_at "eval Name") => `(tactic| (refine' ld ?k1 ?k2 ?_; (case k1 => with_reducible assumption); (case k2 => ((try dsimp only); walk_at "look")); k_whole))
local macro_rules | `(tactic| walk_at "exec For Name Call cons nil") => `(tactic| (refine wpAny_For ?_ (fun _ => rfl)))
local macro_rules | `(tactic| walk_at "exec For Name Name cons nil") => `(tactic| (refine wpAny_For ?_ (fun _ => rfl)))
local macro_rules | `(tactic| walk_at "binaryOp Add str str") => `(tactic| (refine PyProof.Rows.add_str ?h ?z; (case z => (simp only [Str.length_append, sizeLine_eq]; omega)); (intro _ _)))
local macro_rules | `(tactic| walk_at "exec While Compare cons nil") => `(tactic| refine stopw ?_)
local macro_rules | `(tactic| walk_at "eval Name") => `(tactic| (refine' nm_loc ?k1 ?k2 ?_ ?k4 ?k5 ?k6; (case k1 => with_reducible assumption); (case k2 => with_reducible assumption); (case k4 => rfl); (case k5 => rfl); (case k6 => decide); k_whole))
theorem rsize1 (n : Nat) : Builtin.Range.rangeSize 1 n 1 = ((n - 1 : Nat) : Int) := by
  unfold Builtin.Range.rangeSize
  rw [if_pos (by decide)]
  by_cases h : (1 : Int) < n
  · rw [if_pos h]
    omega
  · rw [if_neg h]
    omega
theorem rsmall1 (n : Nat) (h : n ≤ 1000) : Builtin.Range.small 1 n 1 = true := by
  unfold Builtin.Range.small
  rw [rsize1, fitsL 1 (by omega) (by omega), fitsL n (by omega) (by omega), if_pos (by decide), fitsL _ (by omega) (by omega)]
  simp [fitsL n (by omega) (by omega)]

theorem walks_lt {w : World} {A : Around} {I : Addr} {fp wr : List Addr} {n : Nat} {P : Nat → Value → Prop} {St : Nat → Heap → Prop} (W : Walks PP w A I fp wr n P St) : Walks PP w A I fp wr n (fun i v => i < n ∧ P i v) St where
  sub := W.sub
  frame := W.frame
  item := fun i s Q E hi st hQ => W.item i s Q E hi st fun v h' tk hp => hQ v h' tk ⟨hi, hp⟩
  done := W.done
  self := W.self

/-- a comprehension over range(1, n) whose test is always False -/
theorem comp_range_none {w : World} {A : Around} {E : Value → Shared → Prop} {s : Shared} {env : Env} {elt test : Expr} {x : Str} {scope : Scope} {cl : List (Str × Addr)} {r : Addr} {n : Nat} {t u v : Tok} {Q : Value → Shared → Prop}
    (hh : A.handled = none) (hr : IsRange s.heap r 1 n 1 t u v) (hn : n ≤ 1000)
    (htest : ∀ C (k : Nat) tk s₃ m₃ E' (Q' : Bool → Shared → Prop), 1 ≤ k → k < n → s₃.heap.Ns C m₃ → m₃ x = some (.int k tk) → Ext s.heap s₃.heap → (∀ tk', Q' false { s₃ with toks := tk' }) → wpAny (model PP w) A (isTrue test (compEnvC scope cl C env) (eval test (compEnvC scope cl C env))) Q' E' s₃)
    (h : ∀ D h' tk nn, Ext s.heap h' → s.heap.get? D = none → h'.get? D = some (listOf #[] nn) → Q (.ref D) { s with heap := h', toks := tk }) :
    wpAny (model PP w) A (pyIter (.ref r)) (fun it s₂ => ∃ I fp wr n P St, it = .ref I ∧ Walks PP w A I fp wr n P St ∧ n ≤ sizeLine ∧ St 0 s₂.heap ∧ (∀ b ∈ fp, b < s₂.heap.objs.size) ∧
      QuietOnC PP w A env scope cl x [test] elt wr P (fun _ => false) (fun _ _ => True) s₂ ∧
      (∀ D h' tk ys (vs : List Value), s₂.heap.get? D = none → h'.IsList D ys → h'.PlainList D ys → vs.length = n → (∀ j v, vs[j]? = some v → P j v) → Paired (fun _ _ => True) (vs.filter fun _ => false) ys.toList →
        (∀ b o, b ∉ wr → s₂.heap.get? b = some o → h'.get? b = some o) → Q (.ref D) { s₂ with heap := h', toks := tk })) E s := by
  refine wpAny_pyIter_range hr (rsmall1 n hn) ?_
  rw [rsize1]
  refine ⟨s.heap.objs.size, _, _, _, _, _, rfl, walks_lt (Walks.range (prog := PP) (w := w) hh _ 1 1 (n - 1)), ?z, ?st, ?fp, ⟨?t, ?e⟩, ?fin⟩
  case z =>
    rw [sizeLine_eq]
    omega
  case st =>
    have e1 : (1 : Int) + ((0 : Nat) : Int) * 1 = 1 := by simp
    have e2 : ((n - 1 : Nat) : Int) - ((0 : Nat) : Int) = ((n - 1 : Nat) : Int) := by simp
    rw [e1, e2]
    exact Heap.get?_push_size _ rfl
  case fp =>
    intro b hb
    rw [List.mem_singleton.mp hb]
    show _ < (Heap.push _ _).objs.size
    rw [Heap.size_push]
    exact Nat.lt_succ_self _
  case t =>
    intro C i v s₃ m₃ E' hC hP hns hm hk _
    obtain ⟨hi, tk, rfl⟩ := hP
    refine wpAny_tests_one ?_
    have e : (1 : Int) + (i : Int) * 1 = ((i + 1 : Nat) : Int) := by omega
    rw [e] at hm
    refine htest C (i + 1) tk s₃ m₃ E' _ (by omega) (by omega) hns hm (fun b o e => hk b o (fun q => ?_) (Heap.get?_push_of_some _ e)) fun tk' => ⟨rfl, _, _, rfl, fun _ _ e => e⟩
    rw [List.mem_singleton.mp q] at e
    exact absurd (Heap.lt_size e) (Nat.lt_irrefl _)
  case e =>
    intro C i v s₃ m₃ E' hC hP hf
    cases hf
  case fin =>
    intro D h' tk ys vs' hD hl' hp' hlen' hP' hF' hk'
    obtain ⟨k, ho⟩ := hp'
    rw [List.filter_eq_nil_iff.mpr (fun _ _ => by simp)] at hF'
    have ey : ys = #[] := by
      have : ys.toList = [] := by
        generalize ys.toList = l at hF'
        cases hF'
        rfl
      exact Array.toList_inj.mp this
    subst ey
    refine h D h' tk k (fun b o e => hk' b o (fun q => ?_) (Heap.get?_push_of_some _ e)) ?_ ho
    · rw [List.mem_singleton.mp q] at e
      exact absurd (Heap.lt_size e) (Nat.lt_irrefl _)
    · cases q : s.heap.get? D with
      | none => rfl
      | some o => exact absurd ((Heap.get?_push_of_some _ q).symm.trans hD) (by simp)

structure RangeAt (s : Shared) (n : Nat) (xv : Value) (s₁ : Shared) : Prop where
  k : Ext s.heap s₁.heap
  g : s₁ = { s with heap := s₁.heap, toks := s₁.toks }
  r : ∃ r t u v, xv = .ref r ∧ IsRange s₁.heap r 1 n 1 t u v

theorem listcomp_range_none {w : World} {A : Around} {E : Value → Shared → Prop} {s : Shared} {env : Env} {elt iter test : Expr} {x : Str} {px pos : Pos} {scope : Scope} {cl : List (Str × Addr)} {n : Nat} {Q : Value → Shared → Prop}
    (hh : A.handled = none) (hn : n ≤ 1000)
    (hclos : closureFor scope env = pure cl) (hcell : ∀ y ∈ scope.names, y.2 ≠ .cell) (hkind : scope.kind = .function)
    (hnames : ∀ y ∈ scope.names, y.2 = .local → scope.names.lookup y.1 = some .local) (hx : scope.names.lookup x = some .local)
    (hiter : wpAny (model PP w) A (eval iter env) (RangeAt s n) E s) (hs : ∀ x, foldedSetIterable iter env x = pure x)
    (htest : ∀ C (k : Nat) tk s₃ m₃ E' (Q' : Bool → Shared → Prop), 1 ≤ k → k < n → s₃.heap.Ns C m₃ → m₃ x = some (.int k tk) → Ext s.heap s₃.heap → (∀ tk', Q' false { s₃ with toks := tk' }) → wpAny (model PP w) A (isTrue test (compEnvC scope cl C env) (eval test (compEnvC scope cl C env))) Q' E' s₃)
    (h : ∀ D h' tk nn, Ext s.heap h' → s.heap.get? D = none → h'.get? D = some (listOf #[] nn) → Q (.ref D) { s with heap := h', toks := tk }) :
    wpAny (model PP w) A (eval (.ListComp elt [⟨.Name x px, iter, [test], 0⟩] scope pos) env) Q E s := by
  refine wpAny_ListComp_free (fun _ => false) (fun _ _ => True) hclos hcell hkind hnames hx (wpAny_mono hiter (fun xv s₁ h₁ => ?_) fun _ _ e => e) hs
  obtain ⟨hk, hg, r, t, u, v, rfl, hr⟩ := h₁
  refine comp_range_none hh hr hn (fun C k tk s₃ m₃ E' Q' h1 h2 h3 h4 h5 h6 => htest C k tk s₃ m₃ E' Q' h1 h2 h3 h4 (hk.trans h5) h6) fun D h' tk nn h1 h2 h3 => ?_
  have := h D h' tk nn (hk.trans h1) (by
    cases q : s.heap.get? D with
    | none => rfl
    | some o => rw [hk _ _ q] at h2; cases h2) h3
  rw [hg]
  exact this

end Mine
end

section
set_option maxRecDepth 100000
set_option maxHeartbeats 4000000
namespace Mine
local macro_rules | `(tactic| walk_at "go") => `(tactic| repeat' (first | walk1 | (dsimp only; walk1)))
local macro_rules | `(tactic| walk_at "look") => `(tactic| first | assumption | exact rfl | exact if_pos rfl | (refine Eq.trans (if_neg (by decide)) ?_; walk_at "look"))
local macro_rules | `(tactic| walk_at "eval Name") => `(tactic| (refine' ld ?k1 ?k2 ?_; (case k1 => with_reducible assumption); (case k2 => ((try dsimp only); walk_at "look")); k_whole))
local macro_rules | `(tactic| walk_at "exec For Name Call cons nil") => `(tactic| (refine wpAny_For ?_ (fun _ => rfl)))
local macro_rules | `(tactic| walk_at "exec For Name Name cons nil") => `(tactic| (refine wpAny_For ?_ (fun _ => rfl)))
local macro_rules | `(tactic| walk_at "binaryOp Add str str") => `(tactic| (refine PyProof.Rows.add_str ?h ?z; (case z => (simp only [Str.length_append, sizeLine_eq]; omega)); (intro _ _)))
local macro_rules | `(tactic| walk_at "exec While Compare cons nil") => `(tactic| refine stopw ?_)
local macro_rules | `(tactic| walk_at "eval Name") => `(tactic| (refine' nm_loc ?k1 ?k2 ?_ ?k4 ?k5 ?k6; (case k1 => with_reducible assumption); (case k2 => with_reducible assumption); (case k4 => rfl); (case k5 => rfl); (case k6 => decide); k_whole))
local macro_rules | `(tactic| walk_at "call builtin:sorted") => `(tactic| refine stopw ?_)
local macro_rules | `(tactic| walk_at "compareOp NotEq ref ref") => `(tactic| refine stopw ?_)
local macro_rules | `(tactic| walk_at "eval ListComp") => `(tactic| refine stopw ?_)
local macro_rules | `(tactic| walk_at "call ref") => `(tactic| refine stopw ?_)

theorem intsAre_get' : ∀ {vs : List Value} {r : List Int} (i : Nat) {v : Value}, IntsAre vs r → vs[i]? = some v → ∃ x t, v = .int x t
  | _, _, i, v, .nil, h => by simp at h
  | _, _, 0, v, .cons y t r, h => ⟨y, t, by simpa using h.symm⟩
  | _, _, i + 1, v, .cons y t r, h => intsAre_get' i r (by simpa using h)

theorem news_more {b h h' : Heap} {L r : Addr} {m : Str → Option Value} {news : List (Addr × Obj)} {o : Obj} (F : Fr b L h m) (N : News b L h news) (hk : Ext h h') (h0 : h.get? r = none) (ho : h'.get? r = some o) : News b L h' ((r, o) :: news) := fun p hp => by
  rcases List.mem_cons.mp hp with rfl | hp
  · refine ⟨ho, fun q => ?_, ?_⟩
    · obtain ⟨oL, _, _, hoL, _⟩ := F.ns
      rw [← q, h0] at hoL
      cases hoL
    · cases q : b.get? r with
      | none => rfl
      | some o' => rw [F.keep _ _ q] at h0; cases h0
  · exact ⟨hk _ _ (N p hp).1, (N p hp).2⟩

theorem news_mut {b h h' : Heap} {L H : Addr} {pre post : List (Addr × Obj)} {o o' : Obj} (N : News b L h (pre ++ (H, o) :: post)) (hk : ExtB H h h') (ho : h'.get? H = some o') (h1 : ∀ p ∈ pre, p.1 ≠ H) (h2 : ∀ p ∈ post, p.1 ≠ H) : News b L h' (pre ++ (H, o') :: post) := fun p hp => by
  rcases List.mem_append.mp hp with hp | hp
  · have := N p (List.mem_append_left _ hp)
    exact ⟨hk _ _ (h1 p hp) this.1, this.2⟩
  · rcases List.mem_cons.mp hp with rfl | hp
    · have := N (H, o) (List.mem_append_right _ (.head _))
      exact ⟨ho, this.2⟩
    · have := N p (List.mem_append_right _ (.tail _ hp))
      exact ⟨hk _ _ (h2 p hp) this.1, this.2⟩

theorem itQ_small (x : Str) (hx : x.length ≤ 4) : ∀ i, i ≤ 2 → (itF quoteF i x).length ≤ 200
  | 0, _ => by show x.length ≤ _; omega
  | 1, _ => by
    have := quoteF_len x
    show (quoteF x).length ≤ _
    omega
  | 2, _ => by
    have h1 := quoteF_len x
    have := quoteF_len (quoteF x)
    show (quoteF (quoteF x)).length ≤ _
    omega
  | i + 3, h => by omega

theorem news_apps {b h h' : Heap} {L : Addr} {m : Str → Option Value} {ps : List (Addr × Obj)} (F : Fr b L h m) (hp : ∀ p ∈ ps, h'.get? p.1 = some p.2 ∧ h.get? p.1 = none) : News b L h' ps := fun p hm => by
  obtain ⟨h1, h2⟩ := hp p hm
  refine ⟨h1, fun q => ?_, ?_⟩
  · obtain ⟨oL, _, _, hoL, _⟩ := F.ns
    rw [← q, h2] at hoL
    cases hoL
  · cases q : b.get? p.1 with
    | none => rfl
    | some o' => rw [F.keep _ _ q] at h2; cases h2
theorem news_cat {b h : Heap} {L : Addr} {ps qs : List (Addr × Obj)} (x : News b L h ps) (y : News b L h qs) : News b L h (ps ++ qs) := fun p hp => (List.mem_append.mp hp).elim (x p) (y p)
theorem ne_of_fresh {h : Heap} {p q : Addr} {o : Obj} (h1 : h.get? p = none) (h2 : h.get? q = some o) : p ≠ q := fun e => by rw [e, h2] at h1; cases h1

theorem spell_small (x : Str) (hx : x.length ≤ 4) (t : Nat) (ht : t ≤ 3) : (spellF t x).length ≤ 1000 := by
  unfold spellF
  split
  · omega
  · have : t = 0 ∨ t = 1 ∨ t = 2 ∨ t = 3 := by omega
    have w0 := wrapS_len x
    have w1 := wrapS_len (wrapS x)
    have w2 := wrapS_len (wrapS (wrapS x))
    rcases this with rfl | rfl | rfl | rfl
    · show x.length ≤ _; omega
    · show (wrapS x).length ≤ _; omega
    · show (wrapS (wrapS x)).length ≤ _; omega
    · show (wrapS (wrapS (wrapS x))).length ≤ _; omega
theorem sum_small : ∀ (l : List Str) (N : Nat), (∀ y ∈ l, y.length ≤ N) → (l.map (·.length)).sum ≤ l.length * N
  | [], N, _ => by simp
  | y :: r, N, h => by
    have := sum_small r N fun z hz => h z (.tail _ hz)
    have h0 := h y (.head _)
    simp only [List.map_cons, List.sum_cons, List.length_cons, Nat.succ_mul]
    omega

theorem ne_eqlists {prog : Program} {w : World} {A : Around} {E : Value → Shared → Prop} {s : Shared} {l b : Addr} {items items2 : Array Value} {Q : Value → Shared → Prop} (hl : s.heap.IsList l items) (hb : s.heap.IsList b items2) (hsz : items.size = items2.size) (hu : A.units < cLine)
    (he : ∀ j (h1 : j < items.size) (h2 : j < items2.size), SeqAt.EqAt A.in1 s items[j] items2[j] true) (h : Q (.bool false) s) : wpAny (model prog w) A (compareOp .NotEq (.ref l) (.ref b)) Q E s := by
  have := SeqAt.RcNeAt.lists (e := fun _ => true) hl hb hsz hu he prog w E Q
  rw [show (List.range items.size).all (fun _ => true) = true by simp] at this
  exact this h
theorem ne_res {prog : Program} {w : World} {A : Around} {E : Value → Shared → Prop} {s : Shared} {l b : Addr} {xs ys : List Value} {res : List (Option Str)} {Q : Value → Shared → Prop} (hl : s.heap.IsList l xs.toArray) (hb : s.heap.IsList b ys.toArray) (hx : ResIs xs res) (hy : ResIs ys res) (hu : A.units < cLine)
    (h : Q (.bool false) s) : wpAny (model prog w) A (compareOp .NotEq (.ref l) (.ref b)) Q E s := by
  cases hx with
  | nil => cases hy; exact ne_eqlists hl hb rfl hu (fun j h1 _ => by simp at h1) h
  | none =>
    cases hy
    refine ne_eqlists hl hb rfl hu (fun j h1 h2 => ?_) h
    have : j = 0 := by simpa using h1
    subst this
    exact SeqAt.EqAt.same _
  | one y t =>
    cases hy
    refine ne_eqlists hl hb rfl hu (fun j h1 h2 => ?_) h
    have : j = 0 := by simpa using h1
    subst this
    have := SeqAt.EqAt.str_str (A := A.in1) (s := s) y t y
    simpa using this _
theorem ne_strs {prog : Program} {w : World} {A : Around} {E : Value → Shared → Prop} {s : Shared} {l b : Addr} {xs ys : List Value} {ss : List Str} {Q : Value → Shared → Prop} (hl : s.heap.IsList l xs.toArray) (hb : s.heap.IsList b ys.toArray) (hx : StrsAre xs ss) (hy : StrsAre ys ss) (hu : A.units < cLine)
    (h : Q (.bool false) s) : wpAny (model prog w) A (compareOp .NotEq (.ref l) (.ref b)) Q E s := by
  have l1 := strsAre_len hx
  have l2 := strsAre_len hy
  refine ne_eqlists hl hb (by simp; omega) hu (fun j h1 h2 => ?_) h
  simp only [List.size_toArray] at h1 h2
  obtain ⟨x, t, e1, e2⟩ := strsAre_get j hx (List.getElem?_eq_getElem h1)
  obtain ⟨y, u, f1, f2⟩ := strsAre_get j hy (List.getElem?_eq_getElem h2)
  rw [e2] at f2
  cases f2
  rw [List.getElem_toArray, List.getElem_toArray, e1, f1]
  have := SeqAt.EqAt.str_str (A := A.in1) (s := s) x t x
  simpa using this _
theorem listOf_inj {xs ys : Array Value} {n m : Nat} (h : some (listOf xs n) = some (listOf ys m)) : xs = ys := by
  have := congrArg Obj.data (Option.some.inj h)
  simp only [Data.seq.injEq] at this
  exact this.1
theorem itemAt_inj {h : Heap} {v : Value} {k k' : Key} (x : ItemAt h v k) (y : ItemAt h v k') : k = k' := by
  obtain ⟨a, r, us, n, t, rfl, e2, e3, e4⟩ := x
  obtain ⟨a', r', us', n', t', e1, f2, f3, f4⟩ := y
  cases e1
  rw [e2] at f2
  have h1 := congrArg Obj.data (Option.some.inj f2)
  simp only [Data.seq.injEq] at h1
  have h2 := congrArg Array.toList h1.1
  simp only [List.cons.injEq, Value.ref.injEq, Value.str.injEq] at h2
  obtain ⟨rfl, ⟨h3, _⟩, _⟩ := h2
  rw [e3] at f3
  have h4 := congrArg Array.toList (listOf_inj f3)
  simp only at h4
  subst h4
  exact Prod.ext (e4.inj f4) h3
theorem ItemsIn.mem {stuff : List (Addr × Obj)} {vs : List Value} {ks : List Key} (x : ItemsIn stuff vs ks) : ∀ u ∈ vs, ∃ k, ItemIn stuff u k := by
  induction x with
  | nil => intro u hu; cases hu
  | cons hi _ ih =>
    intro u hu
    rcases List.mem_cons.mp hu with rfl | hu
    · exact ⟨_, hi⟩
    · exact ih u hu
theorem ItemsIn.of {stuff : List (Addr × Obj)} {h : Heap} {vs : List Value} {ks : List Key} (hs : ∀ p ∈ stuff, h.get? p.1 = some p.2) (x : ItemsAt h vs ks) (hm : ∀ u ∈ vs, ∃ k, ItemIn stuff u k) : ItemsIn stuff vs ks := by
  induction x with
  | nil => exact .nil
  | cons hi _ ih =>
    obtain ⟨k', hk⟩ := hm _ (.head _)
    rw [itemAt_inj hi (hk.atH hs)]
    exact .cons hk (ih fun u hu => hm u (.tail _ hu))
theorem filter_two {e1 e2 : Env} {p q : Addr} (h1 : e1.frame = some p) (h2 : e2.frame = some q) : [e1, e2].filterMap (fun e => e.frame) = [p, q] := by
  rw [List.filterMap_cons, h1, List.filterMap_cons, h2]
  rfl
theorem mem_p2 {α : Type} {a1 a2 a3 a4 a5 a6 a7 p : α} {S : List α} (hp : p ∈ [a1, a2, a4, a5, a6] ++ S) : p ∈ [a1, a2, a3, a4, a5, a6, a7] ++ S := by
  rcases List.mem_append.mp hp with hp | hp
  · refine List.mem_append_left _ ?_
    rcases List.mem_cons.mp hp with h | hp
    · exact h ▸ .head _
    rcases List.mem_cons.mp hp with h | hp
    · exact h ▸ .tail _ (.head _)
    rcases List.mem_cons.mp hp with h | hp
    · exact h ▸ .tail _ (.tail _ (.tail _ (.head _)))
    rcases List.mem_cons.mp hp with h | hp
    · exact h ▸ .tail _ (.tail _ (.tail _ (.tail _ (.head _))))
    · exact List.mem_singleton.mp hp ▸ .tail _ (.tail _ (.tail _ (.tail _ (.tail _ (.head _)))))
  · exact List.mem_append_right _ hp
theorem news_sub {b h : Heap} {L : Addr} {l l' : List (Addr × Obj)} (N : News b L h l) (hs : ∀ p ∈ l', p ∈ l) : News b L h l' := fun p hp => N p (hs p hp)
theorem mem_pick {α : Type} {a1 a2 a3 a4 a5 a6 a7 a8 b1 b2 b3 c p : α} {S R : List α} (hp : p ∈ [a1, a2, a3, a4, a5, a6, a7] ++ (a8 :: (S ++ (c :: R)))) : p ∈ a8 :: b1 :: (([b2, b3, a1, a2, a3, a4, a5] ++ a6 :: a7 :: S) ++ (c :: R)) := by
  rcases List.mem_append.mp hp with hp | hp
  · refine .tail _ (.tail _ (List.mem_append_left _ ?_))
    rcases List.mem_cons.mp hp with h | hp
    · exact h ▸ .tail _ (.tail _ (.head _))
    rcases List.mem_cons.mp hp with h | hp
    · exact h ▸ .tail _ (.tail _ (.tail _ (.head _)))
    rcases List.mem_cons.mp hp with h | hp
    · exact h ▸ .tail _ (.tail _ (.tail _ (.tail _ (.head _))))
    rcases List.mem_cons.mp hp with h | hp
    · exact h ▸ .tail _ (.tail _ (.tail _ (.tail _ (.tail _ (.head _)))))
    rcases List.mem_cons.mp hp with h | hp
    · exact h ▸ .tail _ (.tail _ (.tail _ (.tail _ (.tail _ (.tail _ (.head _))))))
    rcases List.mem_cons.mp hp with h | hp
    · exact h ▸ .tail _ (.tail _ (.tail _ (.tail _ (.tail _ (.tail _ (.tail _ (.head _)))))))
    · exact List.mem_singleton.mp hp ▸ .tail _ (.tail _ (.tail _ (.tail _ (.tail _ (.tail _ (.tail _ (.tail _ (.head _))))))))
  · rcases List.mem_cons.mp hp with h | hp
    · exact h ▸ .head _
    · refine .tail _ (.tail _ ?_)
      rcases List.mem_append.mp hp with hp | hp
      · exact List.mem_append_left _ (.tail _ (.tail _ (.tail _ (.tail _ (.tail _ (.tail _ (.tail _ (.tail _ (.tail _ hp)))))))))
      · exact List.mem_append_right _ hp
theorem allLt_mem {d : Nat} {l : List (Addr × Obj)} (h : AllLt d l) {p : Addr × Obj} (hp : p ∈ l) : @LT.lt Nat _ p.1 d := by
  induction l with
  | nil => cases hp
  | cons q r ih =>
    unfold AllLt at h
    cases hp with
    | head => exact h.1
    | tail _ hp => exact ih h.2 hp
theorem fr_keepS {b h h' : Heap} {L L₁ H : Addr} {m : Str → Option Value} (F : Fr b L h m) (K : KeepS [L, L₁] H h h') (h1 : b.get? L₁ = none) (h2 : b.get? H = none) : Fr b L h' m := by
  obtain ⟨oL, es, ep, hoL, hd, hr⟩ := F.ns
  obtain ⟨sl, e⟩ := K.on L oL (.head _) hoL (fun vs q => by rw [hd] at q; cases q)
  refine ⟨⟨{ oL with slots := sl }, es, ep, e, hd, hr⟩, fun p o q => K.off p o (fun z => ?_) (fun z => ?_) (F.keep p o q), F.above⟩
  · rcases List.mem_cons.mp z with rfl | z
    · rw [Heap.get?_none_of_le F.above] at q; cases q
    · rw [List.mem_singleton.mp z, h1] at q; cases q
  · rw [z, h2] at q; cases q
theorem news_keepS {b h h' : Heap} {L L₁ H : Addr} {l : List (Addr × Obj)} (N : News b L h l) (K : KeepS [L, L₁] H h h') (hl : ∀ p ∈ l, p.1 ≠ H ∧ p.1 ≠ L₁) : News b L h' l := fun p hp => by
  obtain ⟨h1, h2, h3⟩ := N p hp
  refine ⟨K.off _ _ (fun z => ?_) (hl p hp).1 h1, h2, h3⟩
  rcases List.mem_cons.mp z with z | z
  · exact h2 z
  · exact (hl p hp).2 (List.mem_singleton.mp z)

/-- the loop's invariant -/
def KJ (b : Heap) (L H D c1 c2 L₁ l z : Addr) (t : Nat) (tt : Tok) (ps0 : Array Value) (os0 : OsState) (i : Nat) (s : Shared) : Prop :=
  ∃ m o1 o2 o₁ vsh n1 xs vsk n2 ks stuff more, Fr b L s.heap m ∧
    News b L s.heap ([(D, listOf vsk.toArray n2), (H, listOf vsh.toArray n1), (c2, o2), (c1, o1), (38, tabO (ps0 ++ more)), (L₁, o₁)] ++ stuff) ∧
    m (Str.ofString "kept") = some (.ref D) ∧ m (Str.ofString "deeds") = some (.ref l) ∧ o1.data = .cell (some (.int t tt)) ∧ o2.data = .cell (some (.ref H)) ∧ (∀ vs, o₁.data ≠ .fields vs) ∧ TriplesOk (ps0 ++ more).toList ∧
    StrsAre vsh xs ∧ ItemsIn stuff vsk ks ∧ (∀ p ∈ stuff, p.1 ≠ D ∧ p.1 ≠ H ∧ p.1 ≠ 38 ∧ p.1 ≠ L₁ ∧ p.1 ≠ z) ∧ AllBare s.gens ∧ s.os = os0 ∧ Inv (Vt t) xs ks ∧ xs.length ≤ i ∧ ks.length ≤ i

theorem kept_spec {w : World} {mg mb : Str → Option Value} {A : Around} {E : Value → Shared → Prop} {s : Shared} {b : Heap} {bm : Addr} {ob o₁ : Obj} {ps0 : Array Value} {envl : Env} {l L₁ : Addr} {vs : List Value} {ns : List Int} {nl t : Nat} {tt : Tok} {Q : Value → Shared → Prop}
    (G : Gd w mg mb b) (M : BMod b mainGlobals mg bm ob) (hb : Ext b s.heap) (hbs : b.objs.size ≤ s.heap.objs.size) (h38 : b.get? 38 = none) (hL₁ : b.get? L₁ = none) (hT : s.heap.get? 38 = some (tabO ps0)) (ht0 : TriplesOk ps0.toList) (hgs : AllBare s.gens)
    (R : Room 5 A) (hA : A.frames = some [envl]) (hfl : envl.frame = some L₁) (hmod : envl.scope.kind ≠ .module) (hoL₁ : s.heap.get? L₁ = some o₁) (hd₁ : ∀ vs, o₁.data ≠ .fields vs)
    (hl : b.get? l = some (listOf vs.toArray nl)) (hints : IntsAre vs ns) (hlen : ns.length ≤ 30) (ht1 : 1 ≤ t) (ht3 : t ≤ 3)
    (h : ∀ s' more, Ext b s'.heap → s'.heap.get? 38 = some (tabO (ps0 ++ more)) → TriplesOk (ps0 ++ more).toList → AllBare s'.gens → s'.os = s.os → Q (.bool true) s') :
    wpAny (model PP w) A (call (.ref 145) [.ref l, .int t tt]) Q E s := by
  refine' enterC (binds := [(Str.ofString "deeds", .ref l), (Str.ofString "times", .int t tt)]) (G.keeps hb) R ?ho ?hc ?hb ?hkk ?hnd ?_ ?c2 ?c3 ?c4
  case ho => exact rfl
  case hc => exact rfl
  case hb => exact BindsTo.of_eq rfl
  case hnd => decide
  case c2 => rfl
  case c3 => rfl
  case c4 => rfl
  case hkk =>
    intro n x hx
    rcases List.mem_cons.mp hx with rfl | hx
    · exact .inl rfl
    · rw [List.mem_singleton.mp hx]
      exact .inr ⟨rfl, rfl⟩
  intro L' h₁ tk cells eL F₀ N₀ C
  have KX : (hd.heap_39 w.params).In b := G.X
  have TX := G.T
  replace F₀ : Fr s.heap L' h₁ (fun y => if y = Str.ofString "deeds" then some (Value.ref l) else none) := F₀
  replace C : CellsAre _ [(Str.ofString "heap", L' + 1 + 1), (Str.ofString "times", L' + 1)] cells := C
  obtain ⟨o2, o1, rfl, ho2, ho1⟩ := C.two
  replace ho1 : o1.data = .cell (some (Value.int t tt)) := ho1
  replace ho2 : o2.data = .cell none := ho2
  clear C
  have lt38 : @LT.lt Nat _ 38 L' := eL ▸ Heap.lt_size hT
  have ltL₁ : @LT.lt Nat _ L₁ L' := eL ▸ Heap.lt_size hoL₁
  have ne38 : L₁ ≠ 38 := fun q => by subst q; rw [hT] at hoL₁; cases hoL₁; exact hd₁ _ rfl
  have none_b : ∀ p, s.heap.get? p = none → b.get? p = none := fun p e => by
    cases q : b.get? p with
    | none => rfl
    | some o => rw [hb p o q] at e; cases e
  have F : Fr b L' h₁ (fun y => if y = Str.ofString "deeds" then some (Value.ref l) else none) := ⟨F₀.ns, fun p o e => F₀.keep p o (hb p o e), eL ▸ hbs⟩
  have N : News b L' h₁ [(L' + 1 + 1, o2), (L' + 1, o1), (38, tabO ps0), (L₁, o₁)] := fun p hp => by
    rcases List.mem_cons.mp hp with rfl | hp
    · exact ⟨N₀.get (.head _), (N₀ _ (.head _)).2.1, none_b _ (N₀.fresh (.head _))⟩
    rcases List.mem_cons.mp hp with rfl | hp
    · exact ⟨N₀.get (.tail _ (.head _)), (N₀ _ (.tail _ (.head _))).2.1, none_b _ (N₀.fresh (.tail _ (.head _)))⟩
    rcases List.mem_cons.mp hp with rfl | hp
    · exact ⟨F₀.keep _ _ hT, Nat.ne_of_lt lt38, h38⟩
    rw [List.mem_singleton.mp hp]
    exact ⟨F₀.keep _ _ hoL₁, Nat.ne_of_lt ltL₁, hL₁⟩
  clear F₀ N₀
  walk_at "go"
  rename Fr b L' _ _ => F2
  rename News b L' _ _ => N2
  rename_i Hh h2 lH h2b oc hoc Dd h3 lD h4
  obtain ⟨z, hz, hLz⟩ := fr_size F2
  have hDz : @LT.lt Nat _ Dd z := hz ▸ Heap.lt_size (N2.get (.head _))
  have hHD : @LT.lt Nat _ Hh Dd := lD.1
  have hcH : @LT.lt Nat _ (L' + 1 + 1) Hh := lH.1
  refine for_list (items := vs.toArray) (show (A.deeper _).handled = none from R.h) ⟨_, F2.keep _ _ hl, rfl, _, rfl⟩ hz (KJ b L' Hh Dd (L' + 1) (L' + 1 + 1) L₁ l z t tt ps0 s.os) ?a1 ?a2 ?a3 ?a4
  case a1 =>
    intro I h' hI hk
    have e0 : ps0 ++ (#[] : Array Value) = ps0 := by simp
    refine ⟨_, o1, oc, o₁, [], 0, [], [], 0, [], [], #[], F2.keeps hk, ?_, rfl, rfl, ho1, hoc, hd₁, by rw [e0]; exact ht0, .nil, .nil, (fun p hp => by cases hp), hgs, rfl, inv0 _, Nat.zero_le _, Nat.zero_le _⟩
    rw [e0]
    exact N2.keepsAll hk
  case a2 =>
    rintro I i s₁ h' tk' rfl ⟨m, q1, q2, q₁, vsh, n1, xs, vsk, n2, ks, stuff, more, F3, N3, hm1, hm2, e1, e2, e3, e4, e5, e6, hoff, e7, e8, e9, e10, e11⟩ hk
    refine ⟨m, q1, q2, q₁, vsh, n1, xs, vsk, n2, ks, stuff, more, fr_mut F3 hk ?_ (Nat.ne_of_gt hLz), fun p hp => ⟨hk _ _ ?_ (N3 p hp).1, (N3 p hp).2⟩, hm1, hm2, e1, e2, e3, e4, e5, e6, hoff, e7, e8, e9, e10, e11⟩
    · exact Heap.get?_none_of_le (Nat.le_trans F2.above (Nat.le_of_lt hLz))
    · rcases List.mem_append.mp hp with hp | hp
      · have ltn : ∀ q : Nat, q < I → (q : Addr) ≠ I := fun q hq => Nat.ne_of_lt hq
        rcases List.mem_cons.mp hp with rfl | hp
        · exact ltn _ hDz
        rcases List.mem_cons.mp hp with rfl | hp
        · exact ltn _ (by dsimp only; omega)
        rcases List.mem_cons.mp hp with rfl | hp
        · exact ltn _ (by dsimp only; omega)
        rcases List.mem_cons.mp hp with rfl | hp
        · exact ltn _ (by dsimp only; omega)
        rcases List.mem_cons.mp hp with rfl | hp
        · exact ltn 38 (by omega)
        rw [List.mem_singleton.mp hp]
        exact ltn _ (by dsimp only; omega)
      · exact (hoff p hp).2.2.2.2
  case a3 =>
    rintro I i v s₁ oI rfl hv hoI ⟨m, q1, q2, q₁, vsh, n1, xs, vsk, n2, ks, stuff, more, F3, N3, hm1, hm2, e1, e2, e3, e4, e5, e6, hoff, e7, e8, e9, e10, e11⟩
    obtain ⟨x, tx, rfl⟩ := intsAre_get' i hints (by simpa using hv)
    have hi30 : i < 30 := by
      have h1 := hints.length
      have h2 := (Array.getElem?_eq_some_iff.mp hv).1
      rw [List.size_toArray] at h2
      omega
    have hI0 : b.get? I = none := Heap.get?_none_of_le (Nat.le_trans F2.above (Nat.le_of_lt hLz))
    replace N3 : News b L' s₁.heap ([(I, oI), (Dd, listOf vsk.toArray n2), (Hh, listOf vsh.toArray n1), (L' + 1 + 1, q2), (L' + 1, q1), (38, tabO (ps0 ++ more)), (L₁, q₁)] ++ stuff) := fun p hp => by
      rcases List.mem_cons.mp hp with rfl | hp
      · exact ⟨hoI, Nat.ne_of_gt hLz, hI0⟩
      · exact N3 p hp
    obtain ⟨h1, gs1, dr1, tk1, os1⟩ := s₁
    dsimp only at F3 N3 e7 e8 hoI
    have hl1 : ∀ o, h1.get? l = some o → o = listOf vs.toArray nl := fun o e => by
      rw [F3.keep _ _ hl] at e
      cases e
      rfl
    clear F2 N2 lH lD
    walk_at "go"
    unfold StopW
    have x0 : 0 ≤ (x.fdiv 10).fmod 10000 := Int.fmod_nonneg_of_pos _ (by decide)
    have x1 : (x.fdiv 10).fmod 10000 < 10000 := Int.fmod_lt_of_pos _ (by decide)
    rename Fr b L' _ _ => F4
    rename News b L' _ _ => N4
    refine row_spec (G.keeps F4.keep) (R.deeper.less (by decide)) x0 x1 fun r h5 tk5 ws rvs rn hk5 hr0 hr5 hrs hwl hwo => ?_
    have N5 := news_more F4 N4 hk5 hr0 hr5
    have hr38 : r ≠ 38 := fun q => by
      have := N4.get (.tail _ (.tail _ (.tail _ (.tail _ (.tail _ (.head _))))))
      dsimp only at hr0 this
      rw [q, this] at hr0
      cases hr0
    replace F4 := F4.keeps hk5
    clear N4
    walk_at "go"
    unfold StopW
    obtain ⟨t', rfl⟩ : ∃ t', t = t' + 1 := ⟨t - 1, by omega⟩
    rename Fr b L' _ _ => F6
    rename News b L' _ _ => N6
    refine listcomp_strs (cl := [(Str.ofString "times", L' + 1)]) (l := r) (itF quoteF t') (show (A.deeper _).handled = none from R.h) (by exact N6.get (.head _)) hrs (by omega) rfl (by decide) rfl (by decide) rfl ?it (fun _ => rfl) (fun C y ty s₃ m₃ E' hy hn hm hk => ?_) fun Qa h7 tk7 ys yn hk7 hq0 hq7 hys => ?_
    case it =>
      walk_at "go"
    · have hw := hwo y hy
      refine quoted_elt (t := t') (c := L' + 1) (o := q1) (G.keeps fun p o e => hk p o (F6.keep p o e)) (R.deeper.less (by decide)) (by omega) (by omega) hn hm rfl (hk _ _ (N6.get (.tail _ (.tail _ (.tail _ (.tail _ (.tail _ (.head _)))))))) (by rw [e1]; rfl) rfl rfl rfl rfl rfl fun u h' tk' hk' => ?_
      exact ⟨⟨u, rfl⟩, _, _, rfl, hk'⟩
    have N7 := news_more F6 N6 hk7 hq0 hq7
    have F7 := F6.keeps hk7
    have hQ38 : Qa ≠ 38 := fun q => by
      have := N6.get (.tail _ (.tail _ (.tail _ (.tail _ (.tail _ (.tail _ (.head _)))))))
      dsimp only at hq0 this
      rw [q, this] at hq0
      cases hq0
    clear F6 N6
    walk_at "go"
    unfold StopW
    rename Fr b L' _ _ => F8
    rename News b L' _ _ => N8
    refine join_spec (b := Heap.hide h7 38) (G.keeps (stays_hide F8.keep h38)) of_hide' (Heap.hide_self _ _) (M.keeps (stays_hide F8.keep h38)) (N8.get (.tail _ (.tail _ (.tail _ (.tail _ (.tail _ (.tail _ (.tail _ (.head _))))))))) e4 e7 (R.deeper.less (by decide)) (by rw [Heap.hide_ne _ hQ38]; exact N8.get (.head _)) hys ?w1 ?w2 fun u9 s9 more9 hk9 ho9 ht9 hg9 hos9 => ?_
    case w1 =>
      intro y hy
      obtain ⟨z, hz', rfl⟩ := List.mem_map.mp hy
      exact itQ_small z (hwo z hz').2 t' (by omega)
    case w2 => simpa using hwl
    replace F8 := fr_mut F8 hk9 h38 (Nat.ne_of_lt lt38)
    have N9 := news_mut (pre := [(Qa, listOf ys.toArray yn), (r, listOf rvs.toArray rn), (I, oI), (Dd, listOf vsk.toArray n2), (Hh, listOf vsh.toArray n1), (L' + 1 + 1, q2), (L' + 1, q1)]) (post := (L₁, q₁) :: stuff) N8 hk9 ho9 ?d1 ?d2
    case d1 =>
      have gt : ∀ q : Nat, 38 < q → (q : Addr) ≠ 38 := fun q hq => Nat.ne_of_gt hq
      intro p hp
      rcases List.mem_cons.mp hp with rfl | hp
      · exact hQ38
      rcases List.mem_cons.mp hp with rfl | hp
      · exact hr38
      rcases List.mem_cons.mp hp with rfl | hp
      · exact gt _ (by dsimp only; omega)
      rcases List.mem_cons.mp hp with rfl | hp
      · exact gt _ (by dsimp only; omega)
      rcases List.mem_cons.mp hp with rfl | hp
      · exact gt _ (by dsimp only; omega)
      rcases List.mem_cons.mp hp with rfl | hp
      · exact gt _ (by dsimp only; omega)
      rw [List.mem_singleton.mp hp]
      exact gt _ (by dsimp only; omega)
    case d2 =>
      intro p hp
      rcases List.mem_cons.mp hp with rfl | hp
      · exact ne38
      · exact (hoff p hp).2.2.1
    clear N8
    obtain ⟨h9, gs9, dr9, tk9, os9⟩ := s9
    dsimp only at F8 N9 hg9 hos9
    walk_at "go"
    unfold StopW
    rename Fr b L' _ _ => F10
    rename News b L' _ _ => N10
    refine rank_spec (n := t' + 1) (G.keeps F10.keep) (R.deeper.less (by decide)) (N10.get (.tail _ (.head _))) hrs (fun y hy => (hwo y hy).2) hwl fun rk h11 tk11 rus rstuff rkn hk11 hrk0 hrk hrst hrin => ?_
    have hrall : ∀ p ∈ (rk, listOf rus rkn) :: rstuff, h11.get? p.1 = some p.2 ∧ Heap.get? _ p.1 = none := fun p hp => by
      rcases List.mem_cons.mp hp with rfl | hp
      · exact ⟨hrk, hrk0⟩
      · exact hrst p hp
    have N11 := news_cat (N10.keepsAll hk11) (news_apps F10 hrall)
    have hoff2 : ∀ p ∈ stuff ++ ((rk, listOf rus rkn) :: rstuff), p.1 ≠ Dd ∧ p.1 ≠ Hh ∧ p.1 ≠ 38 ∧ p.1 ≠ L₁ ∧ p.1 ≠ I := fun p hp => by
      rcases List.mem_append.mp hp with hp | hp
      · exact hoff p hp
      · have hf := (hrall p hp).2
        exact ⟨ne_of_fresh hf (N10.get (.tail _ (.tail _ (.tail _ (.head _))))), ne_of_fresh hf (N10.get (.tail _ (.tail _ (.tail _ (.tail _ (.head _)))))), ne_of_fresh hf (N10.get (.tail _ (.tail _ (.tail _ (.tail _ (.tail _ (.tail _ (.tail _ (.head _))))))))),
          ne_of_fresh hf (N10.get (.tail _ (.tail _ (.tail _ (.tail _ (.tail _ (.tail _ (.tail _ (.tail _ (.head _)))))))))), ne_of_fresh hf (N10.get (.tail _ (.tail _ (.head _))))⟩
    have F11 := F10.keeps hk11
    clear F10 N10
    walk_at "go"
    unfold StopW
    rename Fr b L' _ _ => F12
    rename News b L' _ _ => N12
    refine listcomp_strs (cl := [(Str.ofString "times", L' + 1)]) (l := r) (spellF (t' + 1)) (show (A.deeper _).handled = none from R.h) (by exact N12.get (.tail _ (.head _))) hrs (by omega) rfl (by decide) rfl (by decide) rfl ?it2 (fun _ => rfl) (fun C y ty s₃ m₃ E' hy hn hm hk => ?_) fun Sa h13 tk13 zs zn hk13 hs0 hs13 hzs => ?_
    case it2 =>
      walk_at "go"
    · have hw := hwo y hy
      refine spelled_elt (t := t' + 1) (c := L' + 1) (o := q1) (G.keeps fun p o e => hk p o (F12.keep p o e)) (R.deeper.less (by decide)) (by omega) (by omega) hn hm rfl (hk _ _ (N12.get (.tail _ (.tail _ (.tail _ (.tail _ (.tail _ (.tail _ (.head _))))))))) (by rw [e1]) rfl rfl rfl rfl rfl fun u h' tk' hk' => ?_
      exact ⟨⟨u, rfl⟩, _, _, rfl, hk'⟩
    dsimp only at hk13 hs0
    have N13 := news_more F12 N12 hk13 hs0 hs13
    have F13 := F12.keeps hk13
    clear F12 N12
    walk_at "go"
    have hw14 : ((ws.map (spellF (t' + 1))).map (·.length)).sum ≤ 4 * 1000 := by
      refine Nat.le_trans (sum_small _ 1000 fun y hy => ?_) (by rw [List.length_map]; omega)
      obtain ⟨z, hz', rfl⟩ := List.mem_map.mp hy
      exact spell_small z (hwo z hz').2 _ (by omega)
    refine join_listW (N13.isList (.head _)) (by simpa using hzs) (by decide) (by rw [List.length_map]; omega) fun u14 tk14 => ?_
    walk_at "go"
    unfold StopW
    rename_i T h14a lT h14 F14 N14
    have eline := join_line (t := t') (ws := ws) (fun y hy => (hwo y hy).1)
    have ltT := @allLt_mem _ _ lT.2
    have N15 : News b L' h14 ([(I, oI), (Dd, listOf vsk.toArray n2), (Hh, listOf vsh.toArray n1), (L' + 1 + 1, q2), (L' + 1, q1), (38, tabO (ps0 ++ more ++ more9)), (L₁, q₁)] ++ ((T, tupO #[.ref rk, .str (lineS (t' + 1) ws) u14]) :: (stuff ++ ((rk, listOf rus rkn) :: rstuff)))) := by
      refine news_sub N14 fun p hp => ?_
      exact mem_pick hp
    have hoff3 : ∀ p ∈ (T, tupO #[.ref rk, .str (lineS (t' + 1) ws) u14]) :: (stuff ++ ((rk, listOf rus rkn) :: rstuff)), p.1 ≠ Dd ∧ p.1 ≠ Hh ∧ p.1 ≠ 38 ∧ p.1 ≠ L₁ ∧ p.1 ≠ I := fun p hp => by
      rcases List.mem_cons.mp hp with rfl | hp
      · exact ⟨Nat.ne_of_gt (@ltT (Dd, _) (.tail _ (.tail _ (.tail _ (.head _))))), Nat.ne_of_gt (@ltT (Hh, _) (.tail _ (.tail _ (.tail _ (.tail _ (.head _)))))), Nat.ne_of_gt (@ltT (38, _) (.tail _ (.tail _ (.tail _ (.tail _ (.tail _ (.tail _ (.tail _ (.head _))))))))),
          Nat.ne_of_gt (@ltT (L₁, _) (.tail _ (.tail _ (.tail _ (.tail _ (.tail _ (.tail _ (.tail _ (.tail _ (.head _)))))))))), Nat.ne_of_gt (@ltT (I, _) (.tail _ (.tail _ (.head _))))⟩
      · exact hoff2 p hp
    have hItem : ItemIn ((T, tupO #[.ref rk, .str (lineS (t' + 1) ws) u14]) :: (stuff ++ ((rk, listOf rus rkn) :: rstuff))) (.ref T) (keyOf (t' + 1) ws) :=
      ⟨T, rk, rus.toList, rkn, u14, rfl, .head _, .tail _ (List.mem_append_right _ (by rw [Array.toArray_toList]; exact .head _)), hrin.mono fun p hp => .tail _ (List.mem_append_right _ (.tail _ hp))⟩
    replace e6 := e6.mono (stuff' := (T, tupO #[.ref rk, .str (lineS (t' + 1) ws) u14]) :: (stuff ++ ((rk, listOf rus rkn) :: rstuff))) fun p hp => .tail _ (List.mem_append_left _ hp)
    generalize (T, tupO #[.ref rk, .str (lineS (t' + 1) ws) u14]) :: (stuff ++ ((rk, listOf rus rkn) :: rstuff)) = stuffN at N15 hoff3 hItem e6
    clear N14 hrin hrst hrall hoff2 hoff lT ltT hw14 hzs hs13 hs0 hk13 hrk hrk0 hk11 hQ38 hr38
    rw [show Txt.join (Str.ofString " ") (List.map quoteF (List.map (itF quoteF t') ws)) = lineS (t' + 1) ws from eline] at F14 ⊢
    obtain ⟨kd, hkd, hkd10⟩ : ∃ kd : Nat, x.fmod 10 = kd ∧ kd < 10 := ⟨(x.fmod 10).toNat, by have := Int.fmod_nonneg_of_pos x (b := 10) (by decide); omega, by have := Int.fmod_lt_of_pos x (b := 10) (by decide); omega⟩
    rw [hkd]
    have gtL : ∀ q : Nat, @LT.lt Nat _ L₁ q → (q : Addr) ≠ L₁ := fun q hq => Nat.ne_of_gt hq
    have gtH : ∀ q : Nat, @LT.lt Nat _ Hh q → (q : Addr) ≠ Hh := fun q hq => Nat.ne_of_gt hq
    have ltH : ∀ q : Nat, @LT.lt Nat _ q Hh → (q : Addr) ≠ Hh := fun q hq => Nat.ne_of_lt hq
    have gtLL : ∀ q : Nat, @LT.lt Nat _ L' q → (q : Addr) ≠ L' := fun q hq => Nat.ne_of_gt hq
    have mH : (Hh, listOf vsh.toArray n1) ∈ [(I, oI), (Dd, listOf vsk.toArray n2), (Hh, listOf vsh.toArray n1), (L' + 1 + 1, q2), (L' + 1, q1), (38, tabO (ps0 ++ more ++ more9)), (L₁, q₁)] ++ stuffN := .tail _ (.tail _ (.head _))
    have mL : (L₁, q₁) ∈ [(I, oI), (Dd, listOf vsk.toArray n2), (Hh, listOf vsh.toArray n1), (L' + 1 + 1, q2), (L' + 1, q1), (38, tabO (ps0 ++ more ++ more9)), (L₁, q₁)] ++ stuffN := .tail _ (.tail _ (.tail _ (.tail _ (.tail _ (.tail _ (.head _))))))
    have hfl2 : L' ∉ [L₁] := fun q => absurd (List.mem_singleton.mp q) (Nat.ne_of_gt ltL₁)
    refine call_spec (outer := [_, envl]) (xs := xs) G F14.keep (N15.fresh mH) (N15.get mH) (R.deeper.less (by decide)) (Around.frames_deeper hA) ⟨(by intro q; cases q), ?_, hmod, ⟨L₁, q₁, hfl, hL₁, N15.get mL, e3⟩, trivial⟩ ?_ e5 (by omega) hkd10 fun ra h16 tk16 ritems rnr vsh' n1' K16 hra0 hra hres hH16 hsa16 => ?_
    · obtain ⟨oL, es, ep, f1, f2, _⟩ := F14.ns
      exact ⟨L', oL, rfl, Heap.get?_none_of_le F14.above, f1, fun vs q => by rw [f2] at q; cases q⟩
    · rw [filter_two (p := L') (q := L₁) rfl hfl]
      intro q
      rcases List.mem_cons.mp q with q | q
      · exact absurd q (gtLL Hh (by omega))
      · exact absurd (List.mem_singleton.mp q) (gtL Hh (by omega))
    rw [filter_two (p := L') (q := L₁) rfl hfl] at K16
    dsimp only at K16 hra0
    obtain ⟨sl, hq16⟩ := K16.on L₁ q₁ (.tail _ (.head _)) (N15.get mL) e3
    have F16 := fr_keepS F14 K16 hL₁ (N15.fresh mH)
    have N16 : News b L' h16 ([(ra, listOf ritems.toArray rnr), (I, oI), (Dd, listOf vsk.toArray n2), (Hh, listOf vsh'.toArray n1'), (L' + 1 + 1, q2), (L' + 1, q1), (38, tabO (ps0 ++ more ++ more9)), (L₁, { q₁ with slots := sl })] ++ stuffN) := by
      have keep : ∀ p ∈ [(I, oI), (Dd, listOf vsk.toArray n2), (L' + 1 + 1, q2), (L' + 1, q1), (38, tabO (ps0 ++ more ++ more9))] ++ stuffN, h16.get? p.1 = some p.2 ∧ p.1 ≠ L' ∧ b.get? p.1 = none := by
        refine news_keepS (news_sub N15 fun p hp => mem_p2 hp) K16 fun p hp => ?_
        rcases List.mem_append.mp hp with hp | hp
        · rcases List.mem_cons.mp hp with rfl | hp
          · exact ⟨gtH _ (by dsimp only; omega), gtL _ (by dsimp only; omega)⟩
          rcases List.mem_cons.mp hp with rfl | hp
          · exact ⟨gtH _ (by dsimp only; omega), gtL _ (by dsimp only; omega)⟩
          rcases List.mem_cons.mp hp with rfl | hp
          · exact ⟨ltH _ (by dsimp only; omega), gtL _ (by dsimp only; omega)⟩
          rcases List.mem_cons.mp hp with rfl | hp
          · exact ⟨ltH _ (by dsimp only; omega), gtL _ (by dsimp only; omega)⟩
          rw [List.mem_singleton.mp hp]
          exact ⟨ltH _ (by dsimp only; omega), fun q => ne38 q.symm⟩
        · exact ⟨(hoff3 p hp).2.1, (hoff3 p hp).2.2.2.1⟩
      intro p hp
      rcases List.mem_append.mp hp with hp | hp
      · rcases List.mem_cons.mp hp with rfl | hp
        · exact ⟨hra, ne_of_fresh hra0 F14.ns.choose_spec.choose_spec.choose_spec.1, by
            cases q : b.get? ra with
            | none => rfl
            | some o => rw [F14.keep _ _ q] at hra0; cases hra0⟩
        rcases List.mem_cons.mp hp with rfl | hp
        · exact keep _ (.head _)
        rcases List.mem_cons.mp hp with rfl | hp
        · exact keep _ (.tail _ (.head _))
        rcases List.mem_cons.mp hp with rfl | hp
        · exact ⟨hH16, (N15 _ mH).2⟩
        rcases List.mem_cons.mp hp with rfl | hp
        · exact keep _ (.tail _ (.tail _ (.head _)))
        rcases List.mem_cons.mp hp with rfl | hp
        · exact keep _ (.tail _ (.tail _ (.tail _ (.head _))))
        rcases List.mem_cons.mp hp with rfl | hp
        · exact keep _ (.tail _ (.tail _ (.tail _ (.tail _ (.head _)))))
        rw [List.mem_singleton.mp hp]
        exact ⟨hq16, (N15 _ mL).2⟩
      · exact keep p (List.mem_append_right _ hp)
    have hraD : ra ≠ Dd := ne_of_fresh hra0 (N15.get (.tail _ (.head _)))
    have hraH : ra ≠ Hh := ne_of_fresh hra0 (N15.get (.tail _ (.tail _ (.head _))))
    clear N15 F14
    walk_at "go"
    · exact Str.empty
    · exact (0 : Nat)
    · exact Value.none
    unfold StopW
    rename Fr b L' _ _ => F17
    rename News b L' _ _ => N17
    rw [hkd]
    have mD : (Dd, listOf vsk.toArray n2) ∈ [(ra, listOf ritems.toArray rnr), (I, oI), (Dd, listOf vsk.toArray n2), (Hh, listOf vsh'.toArray n1'), (L' + 1 + 1, q2), (L' + 1, q1), (38, tabO (ps0 ++ more ++ more9)), (L₁, { q₁ with slots := sl })] ++ stuffN := .tail _ (.tail _ (.head _))
    have hst17 : ∀ p ∈ stuffN, (Heap.hide _ Dd).get? p.1 = some p.2 := fun p hp => (Heap.hide_ne _ (hoff3 p hp).1).trans (N17.get (List.mem_append_right _ hp))
    refine answer_spec (b := Heap.hide _ Dd) (G.keeps (stays_hide F17.keep (N17.fresh mD))) of_hide' (Heap.hide_self _ _) (N17.get mD) (R.deeper.less (by decide)) (e6.atH hst17) (hItem.atH hst17) e9.s (by rw [(e6.atH hst17).length]; omega) hkd10 fun rb h18 tk18 bitems bnr vsk' n2' ks' res hk18 hrb0 hrb hbres hD18 hks18 hAns hmem => ?_
    have hks19 := ItemsIn.of hst17 hks18 fun u hu => by
      rcases List.mem_cons.mp (hmem u hu) with rfl | hu
      · exact ⟨_, hItem⟩
      · exact e6.mem u hu
    have hstep := step_ok (ordK (by omega) ht3) e9 (⟨ws, rfl⟩ : Vt (t' + 1) (keyOf (t' + 1) ws)) hAns
    dsimp only [keyOf] at hstep
    have gtD : ∀ q : Nat, @LT.lt Nat _ Dd q → (q : Addr) ≠ Dd := fun q hq => Nat.ne_of_gt hq
    have ltD : ∀ q : Nat, @LT.lt Nat _ q Dd → (q : Addr) ≠ Dd := fun q hq => Nat.ne_of_lt hq
    have N18 := news_mut (pre := [(ra, listOf ritems.toArray rnr), (I, oI)]) (post := [(Hh, listOf vsh'.toArray n1'), (L' + 1 + 1, q2), (L' + 1, q1), (38, tabO (ps0 ++ more ++ more9)), (L₁, { q₁ with slots := sl })] ++ stuffN) N17 hk18 hD18 ?d3 ?d4
    case d3 =>
      intro p hp
      rcases List.mem_cons.mp hp with rfl | hp
      · exact hraD
      rw [List.mem_singleton.mp hp]
      exact gtD _ (by dsimp only; omega)
    case d4 =>
      intro p hp
      rcases List.mem_append.mp hp with hp | hp
      · rcases List.mem_cons.mp hp with rfl | hp
        · exact ltD _ (by dsimp only; omega)
        rcases List.mem_cons.mp hp with rfl | hp
        · exact ltD _ (by dsimp only; omega)
        rcases List.mem_cons.mp hp with rfl | hp
        · exact ltD _ (by dsimp only; omega)
        rcases List.mem_cons.mp hp with rfl | hp
        · exact ltD 38 (by omega)
        rw [List.mem_singleton.mp hp]
        exact ltD _ (by dsimp only; omega)
      · exact (hoff3 p hp).1
    dsimp only at hk18 hrb0
    have N19 := news_cat (news_apps (ps := [(rb, listOf bitems.toArray bnr)]) F17 fun p hp => by rw [List.mem_singleton.mp hp]; exact ⟨hrb, hrb0⟩) N18
    have F19 := fr_mut F17 hk18 (N17.fresh mD) (N17 _ mD).2.1
    have hrab : rb ≠ ra := ne_of_fresh hrb0 (N17.get (.head _))
    clear N17 F17 N18
    walk_at "go"
    unfold StopW
    rename Fr b L' _ _ => F20
    rename News b L' _ _ => N20
    have hu20 := R.u
    refine ne_res (N20.isList (.tail _ (.head _))) (N20.isList (.head _)) hres (by rw [hstep.1]; exact hbres) (by simp only [units_deeper, cLine]; omega) ?_
    walk_at "go"
    unfold StopW
    have hlk' : ks'.length ≤ i + 1 := Nat.le_trans (ansR_len hAns) (by omega)
    have hlx' : (callF kd xs (lineS (t' + 1) ws)).1.length ≤ i + 1 := by rw [hstep.2.p.length_eq, List.length_map]; exact hlk'
    have hlv' := strsAre_len hsa16
    rename Fr b L' _ _ => F20
    rename News b L' _ _ => N20
    refine sorted_N_str F20 N20 (N20.isList (.tail _ (.tail _ (.tail _ (.tail _ (.head _)))))) hsa16 (by omega) fun h21 ssv ss21 e21 F21 N21 hss21 hsp21 hsS21 => ?_
    replace N21 : News b L' h21 ((h18.objs.size + 1, listOf ssv.toArray e21) :: _) := N21
    show wpAny _ _ _ _ _ _
    generalize h18.objs.size + 1 = Sx at N21 ⊢
    clear F20 N20
    walk_at "go"
    unfold StopW
    rename Fr b L' _ _ => F22
    rename News b L' _ _ => N22
    obtain ⟨dues, hd1, hd2, hd3⟩ := dues_of (hks19.atH (h := h21) fun p hp => N22.get (.tail _ (.tail _ (.tail _ (.tail _ (.tail _ (.tail _ (.tail _ (.tail _ (.tail _ (.tail _ hp)))))))))))
    have hvk' : vsk'.length = ks'.length := hks18.length
    refine comp_pairs (l := Dd) (vs := vsk') (ss := dues) (cl := []) (show (A.deeper _).handled = none from R.h) (N22.get (.tail _ (.tail _ (.tail _ (.tail _ (.head _)))))) (by omega) hd1 hd3 rfl (by decide) rfl (by decide) rfl rfl (by decide) (by decide) ?it3 (fun _ => rfl) fun Dq h23 tk23 n23 hk23 hDq0 hDq => ?_
    case it3 =>
      walk_at "go"
      · exact Str.empty
      · exact (0 : Nat)
      · exact Value.none
    dsimp only at hk23 hDq0
    have N23 := news_more F22 N22 hk23 hDq0 hDq
    have F23 := F22.keeps hk23
    clear F22 N22
    walk_at "go"
    unfold StopW
    rename Fr b L' _ _ => F24
    rename News b L' _ _ => N24
    have hsort : ss21 = ks'.map (·.2) := sorted_eq (hsp21.trans hstep.2.p) (sorted_pw hsS21) (srt_lines (ordK (by omega) ht3) hstep.2.s hstep.2.v)
    refine ne_strs (N24.isList (.tail _ (.head _))) (N24.isList (.head _)) hss21 (by rw [hsort]; exact hd2) (by simp only [units_deeper, cLine]; omega) ?_
    walk_at "go"
    unfold StopW
    refine listcomp_range_none (cl := [(Str.ofString "heap", L' + 1 + 1)]) (n := (callF kd xs (lineS (t' + 1) ws)).1.length) (show (A.deeper _).handled = none from R.h) (by omega) rfl (by decide) rfl (by decide) rfl ?it4 (fun _ => rfl) (fun C k tk s₃ m₃ E' Q' hk1 hk2 hn hm hk hQ' => ?_) fun Dz h27 tk27 n27 hk27 hDz0 hDz => ?_
    case it4 =>
      walk_at "go"
      have mH24 := N24.isList (a := Hh) (.tail _ (.tail _ (.tail _ (.tail _ (.tail _ (.tail _ (.head _)))))))
      refine len_list mH24 (by rw [List.size_toArray]; omega) ?_
      rw [show ((vsh'.toArray.size : Nat) : Int) = ((callF kd xs (lineS (t' + 1) ws)).1.length : Int) by rw [List.size_toArray, hlv']]
      walk_at "go"
      exact ⟨by assumption, rfl, _, _, _, _, rfl, by assumption⟩
    · exact bad_test (c := L' + 1 + 1) (o := q2) (H := Hh) (hk _ _ (N24.get (.tail _ (.tail _ (.tail _ (.tail _ (.tail _ (.tail _ (.head _))))))))) hsa16 (by omega) hstep.2.h hk1 hk2 hn hm rfl (hk _ _ (N24.get (.tail _ (.tail _ (.tail _ (.tail _ (.tail _ (.tail _ (.tail _ (.head _)))))))))) e2 rfl rfl rfl hQ'
    dsimp only at hk27 hDz0
    have N27 := news_more F24 N24 hk27 hDz0 hDz
    have F27 := F24.keeps hk27
    clear F24 N24
    walk_at "go"
    unfold StopW
    rename Fr b L' _ _ => F28
    rename News b L' _ _ => N28
    refine ne_eqlists (N28.isList (.tail _ (.head _))) (N28.isList (.head _)) rfl (by simp only [units_deeper, cLine]; omega) (fun j h1 _ => by simp at h1) ?_
    walk_at "go"
    rename Fr b L' _ _ => F30
    rename News b L' _ _ => N30
    have look : ∀ y v, m y = some v → ¬ y = Str.ofString "item" → ¬ y = Str.ofString "line" → ¬ y = Str.ofString "row" → ¬ y = Str.ofString "x" → (if y = Str.ofString "item" then some (Value.ref T) else if y = Str.ofString "line" then some (Value.str (lineS (t' + 1) ws) u9) else if y = Str.ofString "row" then some (Value.ref r) else if y = Str.ofString "x" then some (Value.int x tx) else m y) = some v :=
      fun y v h0 h1 h2 h3 h4 => (if_neg h1).trans ((if_neg h2).trans ((if_neg h3).trans ((if_neg h4).trans h0)))
    show Nxt _ _
    refine ⟨⟨_, q1, q2, { q₁ with slots := sl }, vsh', n1', _, vsk', n2', ks', stuffN, more ++ more9, F30, ?n, look _ _ hm1 (by decide) (by decide) (by decide) (by decide), look _ _ hm2 (by decide) (by decide) (by decide) (by decide), e1, e2, e3, ?tr, hsa16, hks19, hoff3, hg9, hos9.trans e8, hstep.2, hlx', hlk'⟩, ?I, fun o e => ?l⟩
    case tr =>
      rw [← Array.append_assoc]
      exact ht9
    case I => exact N30.get (.tail _ (.tail _ (.tail _ (.tail _ (.tail _ (.tail _ (.head _)))))))
    case l =>
      rw [hl1 o e]
      exact F30.keep _ _ hl
    case n =>
      rw [← Array.append_assoc]
      exact fun p hp => N30 p (.tail _ (.tail _ (.tail _ (.tail _ (.tail _ (.tail _ (.tail _ hp)))))))
  case a4 =>
    rintro s₁ ⟨m, q1, q2, q₁, vsh, n1, xs, vsk, n2, ks, stuff, more, F3, N3, hm1, hm2, e1, e2, e3, e4, e5, e6, hoff, e7, e8, e9, e10, e11⟩
    show wpAny _ _ _ _ _ _
    walk_at "go"
    exact h s₁ more F3.keep (N3.get (.tail _ (.tail _ (.tail _ (.tail _ (.head _)))))) e4 e7 e8

end Mine
end

section
set_option maxRecDepth 100000
set_option maxHeartbeats 4000000
namespace Mine
local macro_rules | `(tactic| walk_at "go") => `(tactic| repeat' (first | walk1 | (dsimp only; walk1)))
local macro_rules | `(tactic| walk_at "look") => `(tactic| first | assumption | exact rfl | exact if_pos rfl | (refine Eq.trans (if_neg (by decide)) ?_; walk_at "look"))
local macro_rules | `(tactic| walk_at "eval Name") => `(tactic| (refine' ld ?k1 ?k2 ?_; (case k1 => with_reducible assumption); (case k2 => ((try dsimp only); walk_at "look")); k_whole))
local macro_rules | `(tactic| walk_at "exec For Name Call cons nil") => `(tactic| (refine wpAny_For ?_ (fun _ => rfl)))
local macro_rules | `(tactic| walk_at "exec For Name Name cons nil") => `(tactic| (refine wpAny_For ?_ (fun _ => rfl)))
local macro_rules | `(tactic| walk_at "binaryOp Add str str") => `(tactic| (refine PyProof.Rows.add_str ?h ?z; (case z => (simp only [Str.length_append, sizeLine_eq]; omega)); (intro _ _)))
local macro_rules | `(tactic| walk_at "exec While Compare cons nil") => `(tactic| refine stopw ?_)
local macro_rules | `(tactic| walk_at "eval Name") => `(tactic| (refine' nm_loc ?k1 ?k2 ?_ ?k4 ?k5 ?k6; (case k1 => with_reducible assumption); (case k2 => with_reducible assumption); (case k4 => rfl); (case k5 => rfl); (case k6 => decide); k_whole))
local macro_rules | `(tactic| walk_at "call ref") => `(tactic| refine stopw ?_)
theorem ns_hide {h : Heap} {a P : Addr} {ps : Array Value} {m : Str → Option Value} (hn : h.Ns a m) (hP : h.get? P = some (tabO ps)) : (h.hide P).Ns a m := by
  obtain ⟨o, es, ep, ho, hd, hr⟩ := hn
  refine ⟨o, es, ep, ?_, hd, hr⟩
  rw [Heap.hide_ne _ (fun q => ?_)]
  · exact ho
  · subst q
    rw [hP] at ho
    cases ho
    cases hd
theorem gd_hide {w : World} {mg mb : Str → Option Value} {h : Heap} {ps : Array Value} (X : (KK w).In h) (T : TopRead hd.view_39 LL mg mb h) (hP : h.get? 38 = some (tabO ps)) : Gd w mg mb (h.hide 38) := by
  refine ⟨fun a o e => ?_, ?_⟩
  · rw [Heap.hide_ne _ (fun q => ?_)]
    · exact X a o e
    · subst q
      have : (KK w).lookup 38 = none := rfl
      rw [this] at e
      cases e
  · obtain ⟨mc, h1, h2⟩ := T.nolimit
    exact ⟨ns_hide T.g hP, ns_hide T.b hP, ⟨mc, ns_hide h1 hP, h2⟩, T.builtins, T.free⟩
theorem bmod_hide {h : Heap} {g bm P : Addr} {ob : Obj} {ps : Array Value} {mg : Str → Option Value} (M : BMod h g mg bm ob) (hP : h.get? P = some (tabO ps)) : BMod (h.hide P) g mg bm ob := by
  refine ⟨ns_hide M.ns hP, M.name, M.ne, ?_, M.cls, M.dict, M.data⟩
  rw [Heap.hide_ne _ (fun q => ?_)]
  · exact M.obj
  · subst q
    have h1 := M.obj
    rw [hP] at h1
    cases h1
    have := M.cls
    cases this

theorem hide2 {h : Heap} {L : Addr} {p : Addr} {o : Obj} (e : h.get? p = some o) (h1 : p ≠ 38) (h2 : p ≠ L) : (hideAll h [38, L]).get? p = some o :=
  hideAll_get _ e fun q => by
    rcases List.mem_cons.mp q with q | q
    · exact h1 q
    · exact h2 (List.mem_singleton.mp q)

theorem law_end {h h9 : Heap} {L : Addr} {m : Str → Option Value} {s' : Shared} {more : Array Value} {hs : h.objs.size = L} (F : Fr h L h9 m) (C : CodeHd h 42 38) (h38 : h.get? 38 = some (tabO #[])) (hE : Ext (hideAll h9 [38, L]) s'.heap) (hT : s'.heap.get? 38 = some (tabO (#[] ++ more))) : OldK h s'.heap := by
  have hx : Heap.ExtBut 38 h s'.heap := fun p o hp e => hE p o (hide2 (F.keep p o e) hp (hs ▸ Nat.ne_of_lt (Heap.lt_size e)))
  have C' : CodeHd s'.heap 42 38 := by
    obtain ⟨o, vs, file, tf, flags, tg, inF, text, tt, e1, e2⟩ := C
    exact ⟨o, vs, file, tf, flags, tg, inF, text, tt, hx 42 o (by decide) e1, e2⟩
  exact (OldK.refl h).step_table (C.tab h38) (C.tab h38) (C'.tab hT) hx (by decide)

theorem tt : PySem.Challenge.rw_mq0146_01.Holds := by
  refine Mine.hd ?_
  lge_go0
  rename_i w s₀ s₁ mg mb G Y fa o pm doc kV ho hg KX X V GL T B TE TW bm ob M cc PP0 B0 hcd ns hs hlay0 hL1 hr1 hl2 a4 a3 l vs a0 hL ra w1 r0 hI hr hcond hc2 K0 hD h₁ F N0 lgeM
  have TX := topRead_of T
  have C42 := tab_of (x := Str.ofString "join") (c := 42) (P := 38) T KX rfl (by kernel_rfl)
  (try k_fold)
  (first | (k_unfold; (try dsimp only)) | skip)
  walk_at "go"
  unfold StopW
  rename Fr s₁.heap _ _ _ => F9
  rename News s₁.heap _ _ _ => N9
  rename_i Dl wsl h9 hIl lll
  clear lll
  obtain ⟨C42, h38⟩ := C42
  have hL0 : s₁.heap.get? s₁.heap.objs.size = none := Heap.get?_none_of_le (Nat.le_refl _)
  have hz := F9.ns.lt
  obtain ⟨L, hLe⟩ : ∃ L, s₁.heap.objs.size = L := ⟨_, rfl⟩
  rw [hLe] at F9 N9 hL0 hz ⊢
  have hsub : Ext (s₁.heap.hide 38) (hideAll h9 [38, L]) := fun p o e => by
    have h1 : p ≠ 38 := fun q => by subst q; rw [Heap.hide_self] at e; cases e
    rw [Heap.hide_ne _ h1] at e
    exact hide2 (F9.keep p o e) h1 fun q => by subst q; rw [hL0] at e; cases e
  obtain ⟨t, ht, ht1, ht3⟩ : ∃ t : Nat, 1 + (List.map (fun (k' : Int) => k'.fmod 3) (List.take 8 ns)).sum.fmod 3 = t ∧ 1 ≤ t ∧ t ≤ 3 := by
    have h1 := Int.fmod_nonneg_of_pos (List.map (fun (k' : Int) => k'.fmod 3) (List.take 8 ns)).sum (b := 3) (by decide)
    have h2 := Int.fmod_lt_of_pos (List.map (fun (k' : Int) => k'.fmod 3) (List.take 8 ns)).sum (b := 3) (by decide)
    exact ⟨(1 + (List.map (fun (k' : Int) => k'.fmod 3) (List.take 8 ns)).sum.fmod 3).toNat, by omega, by omega, by omega⟩
  rw [ht]
  have hDL : Dl ≠ L := (N9 _ (.head _)).2.1
  have hD38 : Dl ≠ 38 := fun q => by
    have := N9.fresh (.head _)
    rw [q, h38] at this
    cases this
  obtain ⟨oL, es, ep, f1, f2, f3⟩ := id F9.ns
  refine kept_spec (b := hideAll h9 [38, L]) (ps0 := #[]) (o₁ := oL) (L₁ := L) (vs := wsl) (nl := 0) ((gd_hide KX TX h38).keeps hsub) ((bmod_hide M h38).keeps hsub) (fun p o e => of_hideAll _ e) (by rw [hideAll_size]; exact Nat.le_refl _) (hideAll_none _ (.head _)) (hideAll_none _ (.tail _ (.head _))) (F9.keep _ _ h38) trivial ?gens ?room (Around.frames_deeper rfl) rfl (by intro q; cases q) f1 (fun vs q => by rw [f2] at q; cases q) (hide2 (N9.get (.head _)) hD38 hDL) hIl ?len ht1 ht3 fun s' more hE hT' htr hb hos => ?fin
  case gens =>
    show AllBare s₁.gens
    rw [hg]
    intro y hy
    simp at hy
  case room =>
    refine ⟨?_, ?_, rfl⟩
    · simp only [depth_deeper]
      show 1 + claimMargin + 1 + 10 * 5 ≤ 600
      decide
    · simp only [units_deeper]
      decide
  case len =>
    simp only [List.length_append, List.length_cons, List.length_nil, List.length_take]
    have : (List.replicate (Int.toNat 13) [(5 : Int)]).flatten.length = 13 := by decide
    omega
  case fin =>
    refine ⟨.inl ⟨.bool true, .bool true, [], rfl, raisesW_false ?zr, .bool true, ?zp, fun _ => ⟨.nil, fun a h => by cases h⟩⟩, law_end (hs := hLe) F9 C42 h38 hE hT', hos, hb⟩
    case zr => wrow_none_raised
    case zp => wrow_post

end Mine
end

set_option maxRecDepth 100000 in
set_option maxHeartbeats 8000000 in
theorem PySem.Challenge.cw_mq0146_01_holds : PySem.Challenge.rw_mq0146_01.Holds := by
  exact Mine.tt
