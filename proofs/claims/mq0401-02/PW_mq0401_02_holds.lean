import PyProof.Rows.All
import Wide.All
import OpenK.AllK
import Wide.FinOn
import Lean
import PySem.Challenge.RW_mq0401_02
open PySem PySem.W PyProof.Rows
set_option Elab.async false
set_option maxRecDepth 100000
set_option maxHeartbeats 8000000
set_option linter.unusedVariables false
namespace Mine
section M1
/-! ### ways through options -/
theorem no {α : Type} {b : α} {C : Prop} (h : (none : Option α) = some b) : C := nomatch h
theorem nof {C : Prop} (h : false = true) : C := nomatch h
theorem nlt {n i k : Nat} (h : n - i = k + 1) : i < n := by omega
theorem nend {n i : Nat} (h : n - i = 0) (hi : i ≤ n) : i = n := by omega
theorem nsub {n i k : Nat} (h : n - i = k + 1) : n - (i + 1) = k := by omega
theorem npred {n i : Nat} (h : i < n) : n - i = n - (i + 1) + 1 := by omega
theorem nsum {n i : Nat} (h : i < n) : n = i + 1 + (n - (i + 1)) := by omega
theorem nsum_eq {n i i' m : Nat} (hm : n - i = m + 1) (h : n = i' + 1 + m) : i' = i := by omega
theorem rd0 {a D l : Nat} (h : a + (D + 1) < l) : a < l := by omega
theorem rdD {a D l : Nat} (h : a + (D + 1) < l) : a + D < l := by omega
theorem rd1 {a D l : Nat} (h : a + (D + 1) < l) : a + 1 + D < l := by omega
theorem ru {u D l k : Nat} (hk : k ≤ 8) (h : u + 8 * (D + 1) + 120 < l) : u + k + 8 * D + 120 < l := by omega
theorem ru1 {u x l : Nat} (h : u + 1 + x + 120 < l) : u + x + 120 < l := by omega
theorem rle {u x y z l : Nat} (h : x ≤ y) (q : u + y + z < l) : u + x + z < l := by omega
theorem sizeM : 1000000 ≤ sizeLine := by rw [sizeLine_eq]; omega
theorem ndec {n i : Nat} (h : i < n) : n + 1 - (i + 1) < n + 1 - i := by omega
theorem ob {α β : Type} {o : Option α} {f : α → Option β} {b : β} (h : o.bind f = some b) : ∃ a, o = some a ∧ f a = some b := Option.bind_eq_some_iff.mp h
theorem oi {α : Type} {p : Prop} [Decidable p] {x : Option α} {b : α} (h : (if p then x else none) = some b) : p ∧ x = some b := by
  by_cases hp : p
  · rw [if_pos hp] at h; exact ⟨hp, h⟩
  · rw [if_neg hp] at h; exact no h
theorem oe {α : Type} {p : Prop} [Decidable p] {x : Option α} {b : α} (h : (if p then none else x) = some b) : ¬ p ∧ x = some b := by
  by_cases hp : p
  · rw [if_pos hp] at h; exact no h
  · rw [if_neg hp] at h; exact ⟨hp, h⟩
theorem map_some {α β : Type} {f : α → β} {o : Option α} {b : β} (h : o.map f = some b) : ∃ a, o = some a ∧ f a = b := Option.map_eq_some_iff.mp h
noncomputable def two {α β γ : Type} (x : Option α) (y : Option β) (f : α → β → Option γ) : Option γ := x.bind fun a => y.bind fun b => f a b
theorem two_is {α β γ : Type} {x : Option α} {y : Option β} {f : α → β → Option γ} {c : γ} (h : two x y f = some c) : ∃ a b, x = some a ∧ y = some b ∧ f a b = some c := by
  obtain ⟨a, h1, h⟩ := ob h
  obtain ⟨b, h2, h⟩ := ob h
  exact ⟨a, b, h1, h2, h⟩
/-- the one item -/
noncomputable def one {α : Type} : List α → Option α
  | [] => none
  | x :: r => if r.isEmpty then some x else none
theorem one_is {α : Type} {l : List α} {x : α} (h : one l = some x) : l = [x] := by
  cases l with
  | nil => exact no h
  | cons y r => obtain ⟨h1, h2⟩ := oi h; cases h2; rw [List.isEmpty_iff.mp h1]
/-! ## what a call keeps -/
/-- the size of the heap behind the top -/
noncomputable def topN : Nat := 814
inductive Same (N : Nat) (b : Addr) (o : Obj) : Option Obj → Prop
  | same : Same N b o (some o)
  | slots (sl : Array (Option Value)) : N ≤ b → o.cls = .type "frame" → Same N b o (some { o with slots := sl })
  | tab (vs more : Array Value) : b < topN → o = X.tableObj vs → (TriplesOk vs.toList → TriplesOk (vs ++ more).toList) → Same N b o (some (X.tableObj (vs ++ more)))
structure Keep (N : Nat) (T : List Addr) (h h' : Heap) : Prop where
  off : ∀ b o, b ∉ T → h.get? b = some o → Same N b o (h'.get? b)
  there : ∀ b o, h.get? b = some o → ∃ o', h'.get? b = some o'
theorem Keep.refl {N : Nat} {T : List Addr} (h : Heap) : Keep N T h h := ⟨fun _ _ _ e => by rw [e]; exact .same, fun _ o e => ⟨o, e⟩⟩
theorem Keep.of_all {N : Nat} {T : List Addr} {h h' : Heap} (k : ∀ b o, h.get? b = some o → h'.get? b = some o) : Keep N T h h' :=
  ⟨fun b o n e => by rw [k b o e]; exact .same, fun b o e => ⟨o, k b o e⟩⟩
theorem Same.trans {N : Nat} {b : Addr} {o : Obj} {r r' : Option Obj} (x : Same N b o r) (y : ∀ o', r = some o' → Same N b o' r') : Same N b o r' := by
  cases x with
  | same => exact y _ rfl
  | slots sl hb hc =>
    have z := y _ rfl
    cases z with
    | same => exact .slots sl hb hc
    | slots sl' _ _ => exact .slots sl' hb hc
    | tab vs more lt q tr => have := congrArg Obj.cls q; rw [show ({ o with slots := sl } : Obj).cls = o.cls from rfl, hc] at this; cases this
  | tab vs more lt q tr =>
    have z := y _ rfl
    cases z with
    | same => exact .tab vs more lt q tr
    | slots sl' _ hc => cases hc
    | tab vs' more' _ q' tr' =>
      have : vs' = vs ++ more := by
        have := congrArg Obj.data q'
        injection this with this; exact this.symm
      subst this
      have tr2 := fun h => tr' (tr h)
      rw [Array.append_assoc] at tr2 ⊢
      exact .tab vs _ lt q tr2
theorem Keep.trans {N : Nat} {T : List Addr} {h h' h'' : Heap} (x : Keep N T h h') (y : Keep N T h' h'') : Keep N T h h'' :=
  ⟨fun b o n e => (x.off b o n e).trans fun o' e' => y.off b o' n e', fun b o e => let ⟨o', e'⟩ := x.there b o e; y.there b o' e'⟩
theorem Keep.sub {N : Nat} {T T' : List Addr} {h h' : Heap} (x : Keep N T h h') (s : ∀ b ∈ T, b ∈ T') : Keep N T' h h' := ⟨fun b o n e => x.off b o (fun q => n (s b q)) e, x.there⟩
theorem Keep.all {N : Nat} {T : List Addr} {h h' : Heap} (x : Keep N [] h h') : Keep N T h h' := x.sub (fun _ q => nomatch q)
theorem Keep.exact {N : Nat} {T : List Addr} {h h' : Heap} (x : Keep N T h h') {b : Addr} {o : Obj} (n : b ∉ T) (e : h.get? b = some o) (h1 : o.cls ≠ .type "frame") (h2 : o.cls ≠ .none) : h'.get? b = some o := by
  have q := x.off b o n e
  generalize h'.get? b = r at q
  cases q with
  | same => rfl
  | slots sl _ hc => exact absurd hc h1
  | tab vs more lt q tr => exact absurd (congrArg Obj.cls q) h2
theorem Keep.low {N : Nat} {T : List Addr} {h h' : Heap} (x : Keep N T h h') {b : Addr} {o : Obj} (n : b ∉ T) (e : h.get? b = some o) (h1 : b < N) (h2 : ∀ vs, o ≠ X.tableObj vs) : h'.get? b = some o := by
  have q := x.off b o n e
  generalize h'.get? b = r at q
  cases q with
  | same => rfl
  | slots sl hb hc => exact absurd hb (Nat.not_le.mpr h1)
  | tab vs more lt q tr => exact absurd q (h2 vs)
theorem Keep.ns {N : Nat} {T : List Addr} {h h' : Heap} (x : Keep N T h h') {L : Addr} {m : Str → Option Value} (n : L ∉ T) (e : h.Ns L m) : h'.Ns L m := by
  obtain ⟨o, es, ep, ho, hd, hk, hf⟩ := e
  have q := x.off L o n ho
  generalize e' : h'.get? L = r at q
  cases q with
  | same => exact ⟨o, es, ep, e', hd, hk, hf⟩
  | slots sl _ _ => exact ⟨_, es, ep, e', hd, hk, hf⟩
  | tab vs more lt q tr => rw [q] at hd; cases hd
theorem Keep.push {N : Nat} {T : List Addr} (h : Heap) (o : Obj) : Keep N T h (h.push o) := .of_all fun _ _ e => Heap.get?_push_of_some _ e
theorem Keep.sameBut {N : Nat} {T : List Addr} {a : Addr} {h h' : Heap} {o' : Obj} (x : Heap.SameBut a h h') (ha : h'.get? a = some o') (m : a ∈ T) : Keep N T h h' :=
  ⟨fun b o n e => by rw [(x.2 b (fun q => n (q ▸ m))).trans e]; exact .same, fun b o e => by
    by_cases g : b = a
    · exact ⟨o', g ▸ ha⟩
    · exact ⟨o, (x.2 b g).trans e⟩⟩
/-- a frame's object -/
structure FrameAt (h : Heap) (L : Addr) (m : Str → Option Value) : Prop where
  ns : h.Ns L m
  cls : ∃ o, h.get? L = some o ∧ o.cls = .type "frame"
theorem Keep.frame {N : Nat} {T : List Addr} {h h' : Heap} (x : Keep N T h h') {L : Addr} {m : Str → Option Value} (n : L ∉ T) (e : FrameAt h L m) : FrameAt h' L m := by
  refine ⟨x.ns n e.ns, ?_⟩
  obtain ⟨o, ho, hc⟩ := e.cls
  have q := x.off L o n ho
  generalize e' : h'.get? L = r at q
  cases q with
  | same => exact ⟨o, rfl, hc⟩
  | slots sl _ _ => exact ⟨_, rfl, hc⟩
  | tab vs more lt q tr => rw [q] at hc; cases hc
theorem put_dict (n : Str) (hs : Int) (k v : Value) (c : Value) (d : Option Addr) (es : Array DictEntry) (ep : Nat) (sl) : ∃ es' ep', Obj.putNameByArray n hs k v ⟨c, d, .dict es ep, sl⟩ = ⟨c, d, .dict es' ep', sl⟩ := by
  have e : Obj.putNameByArray n hs k v ⟨c, d, .dict es ep, sl⟩ = (match es.findIdx? (·.key.isStr n) with
    | some i => (⟨c, d, .dict (es.modify i fun e => { e with val := v }) ep, sl⟩ : Obj)
    | none => ⟨c, d, .dict (es.push ⟨hs, k, v⟩) (ep + 1), sl⟩) := rfl
  rw [e]
  generalize es.findIdx? (·.key.isStr n) = r
  cases r <;> exact ⟨_, _, rfl⟩
theorem putName_cls (n : Str) (hs : Int) (k v : Value) (o : Obj) : (o.putName n hs k v).cls = o.cls := by
  rw [Obj.putName_eq]
  obtain ⟨c, d, dt, sl⟩ := o
  cases dt with
  | dict es ep =>
    obtain ⟨es', ep', e⟩ := put_dict n hs k v c d es ep sl
    rw [e]
  | _ => rfl
theorem putName_dat (n : Str) (hs : Int) (k v : Value) (o : Obj) {es : Array DictEntry} {ep : Nat} (hd : o.data = .dict es ep) : ∃ es' ep', (o.putName n hs k v).data = .dict es' ep' := by
  rw [Obj.putName_eq]
  obtain ⟨c, d, dt, sl⟩ := o
  subst hd
  obtain ⟨es', ep', e⟩ := put_dict n hs k v c d es ep sl
  exact ⟨es', ep', by rw [e]⟩
theorem notFreed {o : Obj} {es : Array DictEntry} {ep : Nat} (hd : o.data = .dict es ep) : o.isFreed = false := by
  obtain ⟨c, d, dt, sl⟩ := o
  subst hd; rfl
theorem nsSet_frame {M : Model} {A : Around} {E : Value → Shared → Prop} {s : Shared} {L : Addr} {m : Str → Option Value} {x : Str} {v : Value} {Q : Unit → Shared → Prop} (F : FrameAt s.heap L m)
    (h : ∀ h', FrameAt h' L (fun y => if y = x then some v else m y) → Heap.SameBut L s.heap h' → Q () { s with heap := h', toks := s.toks + 1 }) : wpAny M A (nsSet L x v) Q E s := by
  intro Γ p hΓ
  obtain ⟨o, ho, hc⟩ := F.cls
  obtain ⟨o', es, ep, ho', hd, hk, hm⟩ := F.ns
  rw [ho] at ho'; cases ho'
  have one := Sem.wp_nsSet M Γ (fun _ _ _ => False) p s F.ns x v (fun _ _ s' => s'.heap.Ns L (fun y => if y = x then some v else m y)) (fun h' hn _ => hn)
  simp only [nsSet, strHash, Sem.wp_bind', Sem.wp_cmd_ask, Sem.wp_pure', Sem.wp_cmd_mkText] at one ⊢
  rw [Sem.wp_loadPart_of M Γ _ p { s with toks := s.toks + 1 } (o := o) _ ho] at one ⊢
  have hany : es.any (·.refKey) = false := by
    rw [Array.any_eq_false']; intro e he; obtain ⟨n, t, h⟩ := hk e he; simp [DictEntry.refKey, h]
  simp only [hd, aRefKeyMayBeTheName_eq, aRefKeyMayBeTheNameByArray, hany, Bool.and_false, Bool.false_eq_true, if_false, Sem.wp_cmd_updatePart] at one ⊢
  refine ⟨one.1, h _ ⟨one.2, ?_⟩ (Heap.SameBut.update ..)⟩
  obtain ⟨es', ep', hd'⟩ := putName_dat x (if x.cps.isEmpty then 0 else reduceHash (M.w.params.strHash x.cps)) (.str x s.toks) v o hd
  exact ⟨_, Heap.get?_update_self _ ho (notFreed hd'), (putName_cls ..).trans hc⟩
/-! ## plain values -/
inductive PV where
  | v (x : Value)
  | s (x : Str)
  | i (x : Int)
  | o (k : Nat)
  | l (xs : List PV)
  | r (xs : List PV)
  | t (xs : List PV)
  /-- some object -/
  | any
mutual
inductive Is (T : List Addr) (ρ : List (Addr × Addr)) (h : Heap) : PV → Value → Prop
  | v (x : Value) : Is T ρ h (.v x) x
  | s (x : Str) (t : Tok) : Is T ρ h (.s x) (.str x t)
  | i (x : Int) (t : Tok) : Is T ρ h (.i x) (.int x t)
  | o {k : Nat} {a m : Addr} : ρ[k]? = some (a, m) → Is T ρ h (.o k) (.ref a)
  | l {a : Addr} {ob : Obj} {vs : Array Value} {n : Nat} {xs : List PV} : a ∉ T → h.get? a = some ob → ob.cls = .type "list" → ob.data = .seq vs n → IsL T ρ h xs vs.toList → Is T ρ h (.l xs) (.ref a)
  | r {a : Addr} {ob : Obj} {vs : Array Value} {n : Nat} {xs : List PV} : a ∉ T → h.get? a = some ob → ob.cls = .type "list" → ob.data = .seq vs n → IsL T ρ h xs vs.toList.reverse → Is T ρ h (.r xs) (.ref a)
  | t {a : Addr} {ob : Obj} {vs : Array Value} {n : Nat} {xs : List PV} : a ∉ T → h.get? a = some ob → ob.cls = .type "tuple" → ob.data = .seq vs n → IsL T ρ h xs vs.toList → Is T ρ h (.t xs) (.ref a)
  | any {a : Addr} : Is T ρ h .any (.ref a)
inductive IsL (T : List Addr) (ρ : List (Addr × Addr)) (h : Heap) : List PV → List Value → Prop
  | nil : IsL T ρ h [] []
  | cons {p : PV} {v : Value} {ps : List PV} {vs : List Value} : Is T ρ h p v → IsL T ρ h ps vs → IsL T ρ h (p :: ps) (v :: vs)
end
/-- another heap, another footprint -/
structure IsTo (T T' : List Addr) (ρ ρ' : List (Addr × Addr)) (h h' : Heap) : Prop where
  seq : ∀ a ob, a ∉ T → h.get? a = some ob → ob.cls ≠ .type "frame" → ob.cls ≠ .none → a ∉ T' ∧ h'.get? a = some ob
  obj : ∀ (k : Nat) (a m : Addr), ρ[k]? = some (a, m) → ρ'[k]? = some (a, m)
section
variable {T T' : List Addr} {ρ ρ' : List (Addr × Addr)} {h h' : Heap}
theorem IsTo.l (t : IsTo T T' ρ ρ' h h') {a : Addr} {ob : Obj} (n : a ∉ T) (e : h.get? a = some ob) (c : ob.cls = .type "list") : a ∉ T' ∧ h'.get? a = some ob := t.seq a ob n e (by rw [c]; decide) (by rw [c]; decide)
theorem IsTo.t (t : IsTo T T' ρ ρ' h h') {a : Addr} {ob : Obj} (n : a ∉ T) (e : h.get? a = some ob) (c : ob.cls = .type "tuple") : a ∉ T' ∧ h'.get? a = some ob := t.seq a ob n e (by rw [c]; decide) (by rw [c]; decide)
theorem Is.to (t : IsTo T T' ρ ρ' h h') {p : PV} {v : Value} (i : Is T ρ h p v) : Is T' ρ' h' p v :=
  Is.rec (motive_1 := fun p v _ => Is T' ρ' h' p v) (motive_2 := fun ps vs _ => IsL T' ρ' h' ps vs) .v .s .i (fun e => .o (t.obj _ _ _ e)) (fun n e c d _ r => .l (t.l n e c).1 (t.l n e c).2 c d r) (fun n e c d _ r => .r (t.l n e c).1 (t.l n e c).2 c d r)
    (fun n e c d _ r => .t (t.t n e c).1 (t.t n e c).2 c d r) .any .nil (fun _ _ a b => .cons a b) i
theorem IsL.ind {M : List PV → List Value → Prop} (nil : M [] []) (cons : ∀ {p v ps vs}, Is T ρ h p v → IsL T ρ h ps vs → M ps vs → M (p :: ps) (v :: vs)) {ps : List PV} {vs : List Value} (i : IsL T ρ h ps vs) : M ps vs :=
  IsL.rec (motive_1 := fun _ _ _ => True) (motive_2 := fun ps vs _ => M ps vs) (fun _ => trivial) (fun _ _ => trivial) (fun _ _ => trivial) (fun _ => trivial) (fun _ _ _ _ _ _ => trivial) (fun _ _ _ _ _ _ => trivial) (fun _ _ _ _ _ _ => trivial) trivial nil (fun a b _ m => cons a b m) i
theorem IsL.to (t : IsTo T T' ρ ρ' h h') {ps : List PV} {vs : List Value} (i : IsL T ρ h ps vs) : IsL T' ρ' h' ps vs := IsL.ind (M := fun ps vs => IsL T' ρ' h' ps vs) .nil (fun a _ b => .cons (a.to t) b) i
theorem Keep.to {N : Nat} (k : Keep N T h h') : IsTo T T ρ ρ h h' := ⟨fun _ _ n e h1 h2 => ⟨n, k.exact n e h1 h2⟩, fun _ _ _ e => e⟩
theorem Is.keep {N : Nat} (k : Keep N T h h') {p : PV} {v : Value} (i : Is T ρ h p v) : Is T ρ h' p v := i.to k.to
theorem IsL.keep {N : Nat} (k : Keep N T h h') {p : List PV} {v : List Value} (i : IsL T ρ h p v) : IsL T ρ h' p v := i.to k.to
theorem IsL.length {p : List PV} {v : List Value} (i : IsL T ρ h p v) : p.length = v.length := IsL.ind (M := fun p v => p.length = v.length) rfl (fun _ _ b => by rw [List.length_cons, List.length_cons, b]) i
theorem IsL.append {p p' : List PV} {v v' : List Value} (i : IsL T ρ h p v) (y : IsL T ρ h p' v') : IsL T ρ h (p ++ p') (v ++ v') := IsL.ind (M := fun p v => IsL T ρ h (p ++ p') (v ++ v')) y (fun a _ b => .cons a b) i
theorem IsL.reverse {p : List PV} {v : List Value} (i : IsL T ρ h p v) : IsL T ρ h p.reverse v.reverse := IsL.ind (M := fun p v => IsL T ρ h p.reverse v.reverse) .nil (fun a _ b => by rw [List.reverse_cons, List.reverse_cons]; exact b.append (.cons a .nil)) i
theorem IsL.drop {p : List PV} {v : List Value} (i : IsL T ρ h p v) (k : Nat) : IsL T ρ h (p.drop k) (v.drop k) := IsL.ind (M := fun p v => ∀ k, IsL T ρ h (p.drop k) (v.drop k)) (fun k => by rw [List.drop_nil, List.drop_nil]; exact .nil) (fun a r b k => match k with | 0 => .cons a r | k + 1 => b k) i k
theorem IsL.take {p : List PV} {v : List Value} (i : IsL T ρ h p v) (k : Nat) : IsL T ρ h (p.take k) (v.take k) := IsL.ind (M := fun p v => ∀ k, IsL T ρ h (p.take k) (v.take k)) (fun k => by rw [List.take_nil, List.take_nil]; exact .nil) (fun a r b k => match k with | 0 => .nil | k + 1 => .cons a (b k)) i k
theorem IsL.get {p : List PV} {v : List Value} (i : IsL T ρ h p v) {k : Nat} {x : PV} (e : p[k]? = some x) : ∃ y, v[k]? = some y ∧ Is T ρ h x y :=
  IsL.ind (M := fun p v => ∀ k, p[k]? = some x → ∃ y, v[k]? = some y ∧ Is T ρ h x y) (fun k e => no e) (fun a _ b k e => match k, e with | 0, e => (Option.some.inj e) ▸ ⟨_, rfl, a⟩ | k + 1, e => b k e) i k e
end
section
variable {T : List Addr} {ρ : List (Addr × Addr)} {h : Heap} {v : Value}
theorem Is.iv {x : Value} (i : Is T ρ h (.v x) v) : v = x := by cases i; rfl
theorem Is.is {x : Str} (i : Is T ρ h (.s x) v) : ∃ t, v = .str x t := by cases i; exact ⟨_, rfl⟩
theorem Is.ii {x : Int} (i : Is T ρ h (.i x) v) : ∃ t, v = .int x t := by cases i; exact ⟨_, rfl⟩
theorem Is.io {k : Nat} (i : Is T ρ h (.o k) v) : ∃ a m, v = .ref a ∧ ρ[k]? = some (a, m) := by cases i with | o e => exact ⟨_, _, rfl, e⟩
/-- a list | tuple that nothing changes -/
structure SeqI (T : List Addr) (h : Heap) (c : String) (v : Value) (a : Addr) (ob : Obj) (vs : Array Value) (n : Nat) : Prop where
  v : v = .ref a
  out : a ∉ T
  at_ : h.get? a = some ob
  cls : ob.cls = .type c
  data : ob.data = .seq vs n
theorem Is.il {xs : List PV} (i : Is T ρ h (.l xs) v) : ∃ a ob vs n, SeqI T h "list" v a ob vs n ∧ IsL T ρ h xs vs.toList := by cases i with | l a b c d e => exact ⟨_, _, _, _, ⟨rfl, a, b, c, d⟩, e⟩
theorem Is.ir {xs : List PV} (i : Is T ρ h (.r xs) v) : ∃ a ob vs n, SeqI T h "list" v a ob vs n ∧ IsL T ρ h xs vs.toList.reverse := by cases i with | r a b c d e => exact ⟨_, _, _, _, ⟨rfl, a, b, c, d⟩, e⟩
theorem Is.it {xs : List PV} (i : Is T ρ h (.t xs) v) : ∃ a ob vs n, SeqI T h "tuple" v a ob vs n ∧ IsL T ρ h xs vs.toList := by cases i with | t a b c d e => exact ⟨_, _, _, _, ⟨rfl, a, b, c, d⟩, e⟩
theorem SeqI.isList {a : Addr} {ob : Obj} {vs : Array Value} {n : Nat} (x : SeqI T h "list" v a ob vs n) : h.IsList a vs := ⟨ob, x.at_, x.cls, n, x.data⟩
theorem SeqI.isTuple {a : Addr} {ob : Obj} {vs : Array Value} {n : Nat} (x : SeqI T h "tuple" v a ob vs n) : h.IsTuple a vs := ⟨ob, x.at_, x.cls, n, x.data⟩
end
end M1
section D1
open PySem PySem.W PyProof.Rows PySem.Calls
/-! ## collections.deque -/
theorem dq_noBool : typeLookup (.type "collections.deque") "__bool__" = pure none := by rw [typeLookup_type, builtinLookup_eq_fast]; kernel_rfl
theorem slot_dq_len : Slot "collections.deque" "__len__" "collections.deque.__len__" :=
  .of (owner := "collections.deque") (n := "__len__") (by rw [typeLookup_type, builtinLookup_eq_fast]; kernel_rfl) (by decide +kernel) (by decide +kernel) (by decide +kernel)
    (by first | exact .inl (by decide +kernel) | exact .inr (by decide +kernel)) (by rw [isSubtype_type]; kernel_rfl)
theorem entry_dq_len : entryFor table "collections.deque.__len__" = some Builtin.«collections.deque.__len__» := entryFor_of_fast (by kernel_rfl)
theorem args_dq_len (a : Value) : argsOk "collections.deque.__len__" ⟨[a], []⟩ := by unfold argsOk; kernel_rfl
noncomputable def dqObj (st : Int) (vs : List Value) : Obj := { cls := .type "collections.deque", data := .fields (#[.none, rawInt st] ++ vs.toArray) }
section
variable {prog : Program} {w : World} {A : Around} {E : Value → Shared → Prop} {s : Shared} {a : Addr} {st : Int} {vs : List Value}
theorem dq_load {Q : Array Value → Shared → Prop} (ho : s.heap.get? a = some (dqObj st vs)) (h : Q (#[.none, rawInt st] ++ vs.toArray) s) : wpAny (model prog w) A (fieldsOf (.ref a)) Q E s := by
  unfold fieldsOf
  exact wpAny_bind (wpAny_loadPart ho (wpAny_pure h))
theorem dq_len {Q : Value → Shared → Prop} (ho : s.heap.get? a = some (dqObj st vs)) (hfit : vs.length < 2 ^ 62) (h : Q (.int vs.length (s.toks + 1)) { s with toks := s.toks + 1 + 1 }) :
    wpAny (model prog w) A (Builtin.«len» ⟨[.ref a], []⟩) (fun fin s' => ∃ r, fin = .done (.ret r) ∧ Q r s') E s := by
  have hT : s.TypeIs (.ref a) "collections.deque" := ⟨_, ho, rfl⟩
  unfold Builtin.«len»
  refine wpAny_bind (m := oneArg "len" _) (wpAny_pure ?_)
  refine wpAny_bind (m := callSpecial? (.ref a) (Str.ofString "__len__")) (wpAny_callSpecial?_slot (name := Str.ofString "__len__") hT slot_dq_len ?_)
  refine wpAny_call (codeAny_call_builtin slot_dq_len.plain entry_dq_len (slot_dq_len.check _ _ _ _ _ _ _ _ hT (args_dq_len _) ?_))
  unfold Builtin.«collections.deque.__len__»
  refine wpAny_bind (wpAny_pure (a := (Value.ref a, [])) (wpAny_bind ?_))
  unfold Builtin.Deque.size
  refine wpAny_bind (dq_load ho (wpAny_pure ?_))
  unfold retInt
  refine wpAny_bind (wpAny_mkInt (wpAny_pure ?_))
  have e : (((#[.none, rawInt st] ++ vs.toArray : Array Value).size - 2 : Nat) : Int) = vs.length := by simp
  show wpAny _ _ _ _ _ { s with toks := s.toks + 1 }
  simp only [e]
  refine wpAny_bind (wpAny_holding (wpAny_pure ?_))
  refine wpAny_bind (wpAny_letGo ?_)
  show wpAny _ _ (if ((vs.length : Nat) : Int) < 0 then _ else _) _ _ _
  rw [if_neg (by omega)]
  show wpAny _ _ (if ((vs.length : Nat) : Int) ≥ 2 ^ 63 then _ else _) _ _ _
  rw [if_neg (by omega)]
  exact wpAny_bind (wpAny_mkInt (wpAny_pure ⟨_, rfl, h⟩))
theorem dq_truthy {Q : Bool → Shared → Prop} (ho : s.heap.get? a = some (dqObj st vs)) (hfit : vs.length < 2 ^ 62) (h : Q (!vs.isEmpty) { s with toks := s.toks + 1 + 1 }) : wpAny (model prog w) A (truthy (.ref a)) Q E s := by
  have hT : s.TypeIs (.ref a) "collections.deque" := ⟨_, ho, rfl⟩
  have hne : ((vs.length : Int) != 0) = !vs.isEmpty := by cases vs with | nil => rfl | cons x r => simp; omega
  have key : wpAny (model prog w) A (runValue (.builtin "len" ⟨[.ref a], []⟩)) (fun r s' => r = .int vs.length (s.toks + 1) ∧ Q (!vs.isEmpty) s') E s := by
    refine wpAny_runValue (codeAny_builtin entry_len ?_)
    rw [Around.under_plainId plain_len _]
    exact wpAny_mono (dq_len (Q := fun r s' => r = .int vs.length (s.toks + 1) ∧ Q (!vs.isEmpty) s') ho hfit ⟨rfl, h⟩) (fun fin s' h' => by obtain ⟨r, rfl, hq⟩ := h'; exact hq) fun _ _ e => e
  unfold truthy
  first
    | refine wpAny_bind (wpAny_callSpecial?_none (name := Str.ofString "__bool__") hT dq_noBool ?_)
    | refine wpAny_bind (wpAny_pure (wpAny_bind (wpAny_callSpecial?_none (name := Str.ofString "__bool__") hT dq_noBool ?_)))
  first
    | refine wpAny_bind (wpAny_specialOf (name := Str.ofString "__len__") hT slot_dq_len.lookup ?_)
    | refine wpAny_bind (wpAny_pure (wpAny_bind (wpAny_specialOf (name := Str.ofString "__len__") hT slot_dq_len.lookup ?_)))
  first
    | exact wpAny_bind (wpAny_mono key (fun r s' h' => by obtain ⟨rfl, hq⟩ := h'; exact wpAny_pure (hne ▸ hq)) fun _ _ e => e)
    | exact wpAny_bind (wpAny_pure (wpAny_bind (wpAny_mono key (fun r s' h' => by obtain ⟨rfl, hq⟩ := h'; exact wpAny_pure (hne ▸ hq)) fun _ _ e => e)))
end
/-! ### deque() -/
theorem mro_dq : mroOf (.type "collections.deque") = pure [.type "collections.deque", .type "object"] := by rw [mroOf_type]; kernel_rfl
theorem lookup_dq_new : typeLookup (.type "collections.deque") "__new__" = pure (some (.builtin "collections.deque.__new__")) := by rw [typeLookup_type, builtinLookup_eq_fast]; kernel_rfl
theorem sub_dq_self : isSubtype (.type "collections.deque") (.type "collections.deque") = pure true := by rw [isSubtype_type]; kernel_rfl
theorem slot_dq_init : Slot "collections.deque" "__init__" "collections.deque.__init__" :=
  .of (owner := "collections.deque") (n := "__init__") (by rw [typeLookup_type, builtinLookup_eq_fast]; kernel_rfl) (by decide +kernel) (by decide +kernel) (by decide +kernel)
    (by first | exact .inl (by decide +kernel) | exact .inr (by decide +kernel)) (by rw [isSubtype_type]; kernel_rfl)
theorem called_dq : TypeCalled "collections.deque" "collections.deque.__new__" "collections.deque.__init__" :=
  ⟨by decide +kernel, by decide +kernel, ⟨_, _, mro_dq⟩, madeBy_type mro_dq lookup_dq_new (by decide +kernel), by decide +kernel, sub_dq_self, slot_dq_init⟩
theorem typeCall_dq_0 : checkTypeCall "collections.deque" ⟨[], []⟩ = pure () := by kernel_rfl
theorem newCall_dq_0 : checkBuiltinCall "collections.deque.__new__" ⟨[.type "collections.deque"], []⟩ = pure () := by kernel_rfl
theorem entry_dq_new : entryFor table "collections.deque.__new__" = some Builtin.«collections.deque.__new__» := entryFor_of_fast (by kernel_rfl)
theorem entry_dq_init : entryFor table "collections.deque.__init__" = some Builtin.«collections.deque.__init__» := entryFor_of_fast (by kernel_rfl)
theorem plain_dq_new : plainId "collections.deque.__new__" = true := by decide +kernel
theorem args_dq_init (a : Value) : argsOk "collections.deque.__init__" ⟨[a], []⟩ := by unfold argsOk; kernel_rfl
section
variable {prog : Program} {w : World} {A : Around} {E : Value → Shared → Prop} {s : Shared}
theorem isType_dq : isType (.type "collections.deque") = pure true := rfl
theorem noDict_dq : typeHasDict (.type "collections.deque") = false := by kernel_rfl
theorem code_dq_new {Q₁ : Value → Shared → Prop} (h : Q₁ (.ref s.heap.objs.size) { s with heap := s.heap.push (dqObj 0 []) }) :
    codeAny (model prog w) A (.call (.builtin "collections.deque.__new__") ⟨[.type "collections.deque"], []⟩) (wants Q₁ E) s := by
  refine codeAny_of_tree ?_
  show wpAny _ A.in1 (do checkBuiltinCall "collections.deque.__new__" ⟨[.type "collections.deque"], []⟩; again (.builtin "collections.deque.__new__" ⟨[.type "collections.deque"], []⟩)) _ _ s
  refine wpAny_bind (wpAny_of_eq newCall_dq_0 (wpAny_pure ⟨plainId_quiet plain_dq_new _, codeAny_builtin entry_dq_new ?_⟩))
  rw [Around.under_plainId plain_dq_new _]
  unfold Builtin.«collections.deque.__new__» Builtin.Deque.newArgs
  refine wpAny_bind ?_
  dsimp only
  refine wpAny_bind (wpAny_of_eq isType_dq (wpAny_pure ?_))
  refine wpAny_bind ?_
  unfold Builtin.Deque.new
  simp only [noDict_dq]
  refine wpAny_newObj_type (data := .fields (#[.none, rawInt 0] ++ #[])) ?_ (by show (2 : Nat) ≤ _; first | decide | (rw [sizeLine_eq]; decide))
  exact wpAny_pure h
theorem call_deque {Q : Value → Shared → Prop} (h : ∀ h', Heap.SameBut s.heap.objs.size (s.heap.push (dqObj 0 [])) h' → h'.get? s.heap.objs.size = some (dqObj 0 []) → Q (.ref s.heap.objs.size) { s with heap := h' }) :
    wpAny (model prog w) A (call (.type "collections.deque") []) Q E s := by
  refine callType_codes (Q₁ := fun obj s₁ => obj = .ref s.heap.objs.size ∧ s₁ = { s with heap := s.heap.push (dqObj 0 []) }) called_dq typeCall_dq_0 entry_dq_init (code_dq_new ⟨rfl, rfl⟩) fun obj s₁ h₁ => ?_
  obtain ⟨rfl, rfl⟩ := h₁
  have hS : (s.heap.push (dqObj 0 [])).get? s.heap.objs.size = some (dqObj 0 []) := Heap.get?_push_size _ rfl
  refine ⟨⟨_, hS, rfl⟩, args_dq_init _, ?_⟩
  unfold Builtin.«collections.deque.__init__»
  show wpAny _ _ (setField (.ref _) 0 .none >>= fun _ => Builtin.Deque.clear (.ref _) >>= fun _ => ret .none) _ _ _
  refine wpAny_bind (wpAny_setField_rec (vs := #[.none, rawInt 0]) hS (by decide) fun h' e sb => ?_)
  have e : h'.get? s.heap.objs.size = some (dqObj 0 []) := e
  refine wpAny_bind ?_
  unfold Builtin.Deque.clear Builtin.Deque.items
  refine wpAny_bind (wpAny_bind (dq_load e (wpAny_pure ?_)))
  show wpAny _ _ (if (0 : Nat) > 0 then _ else _) _ _ _
  rw [if_neg (by decide)]
  exact wpAny_pure (wpAny_pure ⟨rfl, h h' sb e⟩)
end
end D1
section M2
/-! ## assoc lists -/
noncomputable def put {α : Type} (x : Str) (p : α) : List (Str × α) → List (Str × α)
  | [] => [(x, p)]
  | (y, q) :: r => if x = y then (y, p) :: r else (y, q) :: put x p r
theorem lookup_put {α : Type} (x y : Str) (p : α) : ∀ l : List (Str × α), (put x p l).lookup y = if y = x then some p else l.lookup y
  | [] => by
    show (List.lookup y [(x, p)]) = _
    rw [List.lookup_cons]
    by_cases h : y = x
    · simp [h]
    · have : (y == x) = false := by simpa using h
      simp [this, h]
  | (z, q) :: r => by
    unfold put
    by_cases h : x = z
    · subst h
      rw [if_pos rfl, List.lookup_cons, List.lookup_cons]
      by_cases g : y = x
      · simp [g]
      · have : (y == x) = false := by simpa using g
        simp [this, g]
    · rw [if_neg h, List.lookup_cons, List.lookup_cons, lookup_put x y p r]
      by_cases g : y = z
      · have : y ≠ x := fun q => h (q.symm.trans g)
        simp [g]; intro q; exact absurd q.symm h
      · have : (y == z) = false := by simpa using g
        simp [this]
/-! ## what a frame knows -/
inductive PO where
  | inst (C : Addr) (att : List (Str × PV))
  /-- its last item first -/
  | list (xs : List PV)
  | dq (xs : List PV)
  | opaq (ob : Obj)
structure View where
  loc : List (Str × PV)
  objs : List PO
inductive Match (T : List Addr) (ρ : List (Addr × Addr)) (h : Heap) : List (Str × PV) → List DictEntry → Prop
  | nil : Match T ρ h [] []
  | cons {x : Str} {p : PV} {e : DictEntry} {t : Tok} {r : List (Str × PV)} {es : List DictEntry} : e.key = .str x t → Is T ρ h p e.val → Match T ρ h r es → Match T ρ h ((x, p) :: r) (e :: es)
theorem Match.keep {N : Nat} {T : List Addr} {ρ : List (Addr × Addr)} {h h' : Heap} (k : Keep N T h h') : ∀ {r : List (Str × PV)} {es : List DictEntry}, Match T ρ h r es → Match T ρ h' r es
  | _, _, .nil => .nil
  | _, _, .cons a b c => .cons a (b.keep k) (c.keep k)
theorem Match.length {T : List Addr} {ρ : List (Addr × Addr)} {h : Heap} : ∀ {r : List (Str × PV)} {es : List DictEntry}, Match T ρ h r es → es.length = r.length
  | _, _, .nil => rfl
  | _, _, .cons a b c => by simp [c.length]
theorem Match.noRef {T : List Addr} {ρ : List (Addr × Addr)} {h : Heap} : ∀ {r : List (Str × PV)} {es : List DictEntry}, Match T ρ h r es → es.any (·.refKey) = false
  | _, _, .nil => rfl
  | _, _, .cons a b c => by rw [List.any_cons, c.noRef]; simp [DictEntry.refKey, a]
theorem Match.get {T : List Addr} {ρ : List (Addr × Addr)} {h : Heap} {x : Str} : ∀ {r : List (Str × PV)} {es : List DictEntry}, Match T ρ h r es → (∀ p, r.lookup x = some p → ∃ v, getL x es = some (some v) ∧ Is T ρ h p v) ∧ (r.lookup x = none → getL x es = some none)
  | _, _, .nil => ⟨(fun p e => by simp at e), fun _ => rfl⟩
  | _, _, .cons (x := y) (p := q) (e := e) (r := r) (es := es) a b c => by
    have ih := c.get (x := x)
    have nr := c.noRef
    have er : e.refKey = false := by simp [DictEntry.refKey, a]
    have hk : e.key.isStr x = decide (y = x) := by rw [a]; rfl
    unfold getL at ih ⊢
    rw [List.find?_cons, hk, List.any_cons, er, Bool.false_or, List.lookup_cons]
    by_cases g : y = x
    · subst g
      simp
      exact b
    · have g' : ¬ x = y := fun q => g q.symm
      have : (x == y) = false := by simpa using g'
      simp only [g, decide_false, this]
      exact ih
theorem Match.put {T : List Addr} {ρ : List (Addr × Addr)} {h : Heap} {x : Str} {p : PV} {v : Value} {hs : Int} {t : Tok} (i : Is T ρ h p v) : ∀ {r : List (Str × PV)} {es : List DictEntry}, Match T ρ h r es → Match T ρ h (Mine.put x p r) (putL x hs (.str x t) v es)
  | _, _, .nil => .cons rfl i .nil
  | _, _, .cons (x := y) (p := q) (e := e) (r := r) (es := es) a b c => by
    unfold Mine.put putL
    have hk : e.key.isStr x = decide (y = x) := by rw [a]; rfl
    rw [hk]
    by_cases g : y = x
    · subst g
      simp
      exact .cons a i c
    · have g' : ¬ x = y := fun q => g q.symm
      simp only [g, decide_false, g', if_false, Bool.false_eq_true]
      exact .cons a b (c.put i)
/-- the object number k -/
noncomputable def ObjAt (T : List Addr) (ρ : List (Addr × Addr)) (h : Heap) (k : Nat) : PO → Prop
  | .inst C att => ∃ a dx es n, ρ[k]? = some (a, dx) ∧ a ∉ T ∧ h.get? a = some ⟨.ref C, some dx, .plain, #[]⟩ ∧ h.get? dx = some (dictOf es n) ∧ Match T ρ h att es
  | .list xs => ∃ a vs n, ρ[k]? = some (a, a) ∧ h.get? a = some ⟨.type "list", none, .seq vs n, #[]⟩ ∧ IsL T ρ h xs vs.toList.reverse
  | .dq xs => ∃ a st vs, ρ[k]? = some (a, a) ∧ h.get? a = some (dqObj st vs) ∧ IsL T ρ h xs vs
  | .opaq ob => ∃ a, ρ[k]? = some (a, a) ∧ h.get? a = some ob ∧ ob.cls ≠ .type "frame" ∧ ob.cls ≠ .none
noncomputable def muts (L : Addr) (ρ : List (Addr × Addr)) : List Addr := L :: ρ.map (·.2)
structure Fx (N : Nat) (T : List Addr) (ρ : List (Addr × Addr)) (L : Addr) : Prop where
  mem : ∀ b ∈ muts L ρ, b ∈ T
  nodup : (muts L ρ).Nodup
  low : ∀ b ∈ T, N ≤ b
noncomputable def LocOk (T : List Addr) (ρ : List (Addr × Addr)) (h : Heap) (loc : List (Str × PV)) (m : Str → Option Value) : Prop := ∀ x p, loc.lookup x = some p → ∃ v, m x = some v ∧ Is T ρ h p v
structure Rep (T : List Addr) (ρ : List (Addr × Addr)) (L : Addr) (V : View) (h : Heap) : Prop where
  ns : ∃ m, FrameAt h L m ∧ LocOk T ρ h V.loc m
  objs : ∀ k po, V.objs[k]? = some po → ObjAt T ρ h k po
theorem muts_at {L : Addr} {ρ : List (Addr × Addr)} {k : Nat} {a d : Addr} (e : ρ[k]? = some (a, d)) : d ∈ muts L ρ := .tail _ (List.mem_map.mpr ⟨(a, d), List.mem_of_getElem? e, rfl⟩)
theorem ObjAt.keep {N : Nat} {T : List Addr} {ρ : List (Addr × Addr)} {h h' : Heap} {k : Nat} {po : PO} {F : List Addr} (x : ObjAt T ρ h k po) (q : Keep N F h h') (f : ∀ a d, ρ[k]? = some (a, d) → d ∉ F) (g : ∀ b ∈ F, b ∈ T) (kT : Keep N T h h') : ObjAt T ρ h' k po := by
  cases po with
  | inst C att =>
    obtain ⟨a, dx, es, n, e, na, ea, ed, m⟩ := x
    exact ⟨a, dx, es, n, e, na, q.exact (fun z => na (g _ z)) ea (by intro q; cases q) (by intro q; cases q), q.exact (f a dx e) ed (show Value.type "dict" ≠ Value.type "frame" by decide) (show Value.type "dict" ≠ Value.none by decide), m.keep kT⟩
  | list xs =>
    obtain ⟨a, vs, n, e, ea, m⟩ := x
    exact ⟨a, vs, n, e, q.exact (f a a e) ea (show Value.type "list" ≠ Value.type "frame" by decide) (show Value.type "list" ≠ Value.none by decide), m.keep kT⟩
  | dq xs =>
    obtain ⟨a, st, vs, e, ea, m⟩ := x
    exact ⟨a, st, vs, e, q.exact (f a a e) ea (show Value.type "collections.deque" ≠ Value.type "frame" by decide) (show Value.type "collections.deque" ≠ Value.none by decide), m.keep kT⟩
  | opaq ob =>
    obtain ⟨a, e, ea, h1, h2⟩ := x
    exact ⟨a, e, q.exact (f a a e) ea h1 h2, h1, h2⟩
theorem ObjAt.live {T : List Addr} {ρ : List (Addr × Addr)} {h : Heap} {k : Nat} {po : PO} {a d : Addr} (x : ObjAt T ρ h k po) (e : ρ[k]? = some (a, d)) : ∃ o, h.get? d = some o := by
  cases po with
  | inst C att => obtain ⟨a', dx, es, n, e', na, ea, ed, m⟩ := x; rw [e] at e'; cases e'; exact ⟨_, ed⟩
  | list xs => obtain ⟨a', vs, n, e', ea, m⟩ := x; rw [e] at e'; cases e'; exact ⟨_, ea⟩
  | dq xs => obtain ⟨a', st, vs, e', ea, m⟩ := x; rw [e] at e'; cases e'; exact ⟨_, ea⟩
  | opaq ob => obtain ⟨a', e', ea, h1, h2⟩ := x; rw [e] at e'; cases e'; exact ⟨_, ea⟩
/-- a step that touches nothing that stood -/
theorem Rep.keep {N : Nat} {T : List Addr} {ρ : List (Addr × Addr)} {L : Addr} {V : View} {h h' : Heap} (R : Rep T ρ L V h) (q : Keep N [] h h') : Rep T ρ L V h' := by
  obtain ⟨⟨m, hn, hl⟩, ho⟩ := R
  refine ⟨⟨m, q.frame (fun z => nomatch z) hn, fun x p e => ?_⟩, fun k po e => (ho k po e).keep q (fun _ _ _ z => nomatch z) (fun _ z => nomatch z) q.all⟩
  obtain ⟨v, e1, e2⟩ := hl x p e
  exact ⟨v, e1, e2.keep (q.all (T := T))⟩
theorem nodup_ne {L : Addr} {ρ : List (Addr × Addr)} (nd : (muts L ρ).Nodup) {k : Nat} {a d : Addr} (e : ρ[k]? = some (a, d)) : d ≠ L := by
  intro q; subst q
  exact (List.nodup_cons.mp nd).1 (List.mem_map.mpr ⟨(a, d), List.mem_of_getElem? e, rfl⟩)
theorem nodup_ne2 {L : Addr} {ρ : List (Addr × Addr)} (nd : (muts L ρ).Nodup) {k j : Nat} {a d a' d' : Addr} (e : ρ[k]? = some (a, d)) (e' : ρ[j]? = some (a', d')) (ne : k ≠ j) : d ≠ d' := by
  intro q; subst q
  have nd' := (List.nodup_cons.mp nd).2
  have h1 : (ρ.map (·.2))[k]? = some d := by rw [List.getElem?_map, e]; rfl
  have h2 : (ρ.map (·.2))[j]? = some d := by rw [List.getElem?_map, e']; rfl
  obtain ⟨l1, g1⟩ := List.getElem?_eq_some_iff.mp h1
  obtain ⟨l2, g2⟩ := List.getElem?_eq_some_iff.mp h2
  have pw := List.pairwise_iff_getElem.mp nd'
  rcases Nat.lt_or_gt_of_ne ne with l | l
  · exact pw _ _ l1 l2 l (g1.trans g2.symm)
  · exact pw _ _ l2 l1 l (g2.trans g1.symm)
/-- a local name is stored -/
theorem Rep.store {N : Nat} {T : List Addr} {ρ : List (Addr × Addr)} {L : Addr} {V : View} {h h' : Heap} {m : Str → Option Value} {x : Str} {p : PV} {v : Value} (fx : Fx N T ρ L) (R : Rep T ρ L V h) (hl : LocOk T ρ h V.loc m) (i : Is T ρ h p v)
    (hn : FrameAt h' L (fun y => if y = x then some v else m y)) (hs : Heap.SameBut L h h') : Rep T ρ L { V with loc := put x p V.loc } h' := by
  obtain ⟨oL, hoL, _⟩ := hn.cls
  have kL : Keep N [L] h h' := .sameBut hs hoL (.head _)
  have kT : Keep N T h h' := .sameBut hs hoL (fx.mem L (.head _))
  refine ⟨⟨_, hn, fun y q e => ?_⟩, fun k po e => (R.objs k po e).keep kL (fun a d e' z => ?_) (fun b hb => by cases hb with | head => exact fx.mem L (.head _) | tail _ z => cases z) kT⟩
  · rw [lookup_put] at e
    by_cases g : y = x
    · rw [if_pos g] at e; cases e
      exact ⟨v, by rw [if_pos g], i.keep kT⟩
    · rw [if_neg g] at e
      obtain ⟨v', e1, e2⟩ := hl y q e
      exact ⟨v', by rw [if_neg g]; exact e1, e2.keep kT⟩
  · rcases List.mem_singleton.mp z with rfl
    exact nodup_ne fx.nodup e' rfl
/-- the mutable part of one object is changed -/
theorem Rep.change {N : Nat} {T : List Addr} {ρ : List (Addr × Addr)} {L : Addr} {V : View} {h h' : Heap} {k : Nat} {a d : Addr} {po : PO} (fx : Fx N T ρ L) (R : Rep T ρ L V h) (e : ρ[k]? = some (a, d)) (hs : Heap.SameBut d h h')
    (o : ObjAt T ρ h' k po) : Rep T ρ L { V with objs := V.objs.set k po } h' := by
  obtain ⟨od, hod⟩ := o.live e
  have kd : Keep N [d] h h' := .sameBut hs hod (.head _)
  have dT : d ∈ T := fx.mem d (muts_at e)
  have kT : Keep N T h h' := .sameBut hs hod dT
  obtain ⟨⟨m, hn, hl⟩, ho⟩ := R
  refine ⟨⟨m, kd.frame (fun z => nodup_ne fx.nodup e (List.mem_singleton.mp z).symm) hn, fun y q e' => ?_⟩, fun j pj e' => ?_⟩
  · obtain ⟨v, e1, e2⟩ := hl y q e'
    exact ⟨v, e1, e2.keep kT⟩
  · rw [List.getElem?_set] at e'
    by_cases g : k = j
    · subst g
      rw [if_pos rfl] at e'
      split at e'
      · cases e'; exact o
      · cases e'
    · rw [if_neg g] at e'
      refine (ho j pj e').keep kd (fun a' d' e'' z => nodup_ne2 fx.nodup e e'' g (List.mem_singleton.mp z).symm) (fun b hb => ?_) kT
      rcases List.mem_singleton.mp hb with rfl
      exact dT
/-! ## what never changes -/
/-- where a code object keeps its table -/
noncomputable def tabOf (o : Obj) : Option Addr := if o.cls == .type "code" then (match o.data with
  | .fields vs => (match vs[11]? with
    | some v => (match v with
      | .ref P => some P
      | _ => none)
    | none => none)
  | _ => none) else none
structure Base (K : Frag) (N : Nat) (h : Heap) : Prop where
  k : K.In h
  b : ∃ mb, h.Ns builtinsNs mb ∧ ∀ x : Str, x ≠ "__name__" → mb x = bootBuiltins x
  lim : h.NoLimit
  tab : ∀ a o P, K.lookup a = some o → tabOf o = some P → ∃ ps, h.get? P = some (X.tableObj ps) ∧ TriplesOk ps.toList
noncomputable def lowP (N : Nat) (p : Addr × Obj) : Bool := decide (p.1 < N) && ((match p.2.cls with
  | .none => (match p.2.data with
    | .fields _ => false
    | _ => true)
  | _ => true) && (match tabOf p.2 with
  | some P => decide (P < N) && decide (P < topN)
  | none => true))
noncomputable def lowK (K : Frag) (N : Nat) : Bool := K.all (lowP N)
theorem mem_lookup {α β : Type} [BEq α] [LawfulBEq α] {l : List (α × β)} {a : α} {b : β} (e : l.lookup a = some b) : (a, b) ∈ l := by
  induction l with
  | nil => cases e
  | cons p r ih =>
    obtain ⟨x, y⟩ := p
    rw [List.lookup_cons] at e
    split at e
    · rename_i g; cases e; rw [beq_iff_eq.mp g]; exact .head _
    · exact .tail _ (ih e)
theorem lowK_at {K : Frag} {N : Nat} {a : Addr} {o : Obj} (lk : lowK K N = true) (e : K.lookup a = some o) : a < N ∧ (∀ vs, o ≠ X.tableObj vs) ∧ ∀ P, tabOf o = some P → P < N ∧ P < topN := by
  have z := List.all_eq_true.mp lk (a, o) (mem_lookup e)
  unfold lowP at z
  obtain ⟨z1, z2⟩ := Bool.and_eq_true_iff.mp z
  obtain ⟨z2, z3⟩ := Bool.and_eq_true_iff.mp z2
  refine ⟨of_decide_eq_true z1, fun vs q => ?_, fun P q => ?_⟩
  · dsimp only at z2; rw [q] at z2; cases z2
  · dsimp only at z3; rw [q] at z3; exact ⟨of_decide_eq_true (Bool.and_eq_true_iff.mp z3).1, of_decide_eq_true (Bool.and_eq_true_iff.mp z3).2⟩
theorem Base.keep {K : Frag} {N : Nat} {T : List Addr} {h h' : Heap} (B : Base K N h) (lk : lowK K N = true) (hT : ∀ b ∈ T, N ≤ b) (lo : builtinsNs < N ∧ cStatics < N) (k : Keep N T h h') : Base K N h' := by
  have out : ∀ {a : Addr}, a < N → a ∉ T := fun l q => Nat.not_le.mpr l (hT _ q)
  refine ⟨fun a o e => ?_, ?_, ?_, fun a o P e t => ?_⟩
  · obtain ⟨z1, z2, _⟩ := lowK_at lk e
    exact k.low (out z1) (B.k a o e) z1 z2
  · obtain ⟨mb, h1, h2⟩ := B.b
    exact ⟨mb, k.ns (out lo.1) h1, h2⟩
  · obtain ⟨mc, h1, h2⟩ := B.lim
    exact ⟨mc, k.ns (out lo.2) h1, h2⟩
  · obtain ⟨_, _, z3⟩ := lowK_at lk e
    obtain ⟨ps, h1, h2⟩ := B.tab a o P e t
    have q := k.off P _ (out (z3 P t).1) h1
    generalize h'.get? P = r at q
    cases q with
    | same => exact ⟨ps, rfl, h2⟩
    | slots sl _ hc => cases hc
    | tab vs more lt q tr =>
      have : ps = vs := by
        have := congrArg Obj.data q
        injection this
      subst this
      exact ⟨_, rfl, tr h2⟩
/-- what is left of the generators: those that stood stand as they stood -/
structure Gn (a b : Array GenState) : Prop where
  size : a.size ≤ b.size
  old : ∀ k, k < a.size → b[k]? = a[k]?
  bare : AllBare a → AllBare b
theorem Gn.refl (a : Array GenState) : Gn a a := ⟨Nat.le_refl _, fun _ _ => rfl, id⟩
theorem Gn.trans {a b c : Array GenState} (x : Gn a b) (y : Gn b c) : Gn a c := ⟨Nat.le_trans x.size y.size, fun k h => (y.old k (Nat.lt_of_lt_of_le h x.size)).trans (x.old k h), fun h => y.bare (x.bare h)⟩
theorem Gn.of_eq {a b : Array GenState} (h : b = a) : Gn a b := h ▸ .refl a
/-- how the state goes on -/
structure St (N : Nat) (F : List Addr) (s s' : Shared) : Prop where
  keep : Keep N F s.heap s'.heap
  gens : Gn s.gens s'.gens
  os : s'.os = s.os
theorem St.refl {N : Nat} {F : List Addr} (s : Shared) : St N F s s := ⟨.refl _, .refl _, rfl⟩
theorem St.trans {N : Nat} {F : List Addr} {s s' s'' : Shared} (x : St N F s s') (y : St N F s' s'') : St N F s s'' := ⟨x.keep.trans y.keep, x.gens.trans y.gens, y.os.trans x.os⟩
theorem St.sub {N : Nat} {F F' : List Addr} {s s' : Shared} (x : St N F s s') (h : ∀ b ∈ F, b ∈ F') : St N F' s s' := ⟨x.keep.sub h, x.gens, x.os⟩
theorem St.all {N : Nat} {F : List Addr} {s s' : Shared} (x : St N [] s s') : St N F s s' := x.sub fun _ h => nomatch h
end M2
section M3
/-- what stays throughout the law's call -/
structure Wd where
  prog : Program
  w : World
  K : Frag
  N : Nat
/-- a frame at work -/
structure Fc extends Wd where
  A : Around
  env : Env
  T : List Addr
  ρ : List (Addr × Addr)
  L : Addr
structure Fc.Ok (c : Fc) : Prop where
  fx : Fx c.N c.T c.ρ c.L
  kind : c.env.scope.kind = .function
  loc : c.env.locals = c.L
  glb : c.env.globals = mainGlobals
  blt : c.env.builtins = builtinsNs
  lowK : lowK c.K c.N = true
  lo : builtinsNs < c.N ∧ cStatics < c.N
noncomputable abbrev Fc.M (c : Fc) : Model := model c.prog c.w
noncomputable abbrev Fc.muts (c : Fc) : List Addr := Mine.muts c.L c.ρ
/-- the frames below -/
noncomputable def Frs (N : Nat) (A : Around) (h : Heap) : Prop := ∃ fs, A.frames = some fs ∧ ∀ env ∈ fs, env.scope.kind ≠ .module ∧ ∃ L m, env.frame = some L ∧ N ≤ L ∧ FrameAt h L m
theorem Frs.keep {N : Nat} {A : Around} {h h' : Heap} (x : Frs N A h) (k : Keep N [] h h') : Frs N A h' := by
  obtain ⟨fs, e, hf⟩ := x
  refine ⟨fs, e, fun env he => ?_⟩
  obtain ⟨h1, L, m, h2, h3, h4⟩ := hf env he
  exact ⟨h1, L, m, h2, h3, k.frame (fun z => nomatch z) h4⟩
theorem Frs.one {N : Nat} {A : Around} {h h' : Heap} {d : Addr} (x : Frs N A h) (k : Keep N [d] h h') (hd : (∃ o, h.get? d = some o ∧ o.cls ≠ .type "frame") ∨ ∃ m, FrameAt h' d m) : Frs N A h' := by
  obtain ⟨fs, e, hf⟩ := x
  refine ⟨fs, e, fun env he => ?_⟩
  obtain ⟨h1, L, m, h2, h3, h4⟩ := hf env he
  by_cases g : L = d
  · subst g
    rcases hd with ⟨o, ho, hc⟩ | ⟨m', q⟩
    · obtain ⟨o', ho', hc'⟩ := h4.cls
      rw [ho] at ho'; cases ho'; exact absurd hc' hc
    · exact ⟨h1, L, m', h2, h3, q⟩
  · exact ⟨h1, L, m, h2, h3, k.frame (fun z => g (List.mem_singleton.mp z)) h4⟩
structure Inv (c : Fc) (V : View) (s : Shared) : Prop where
  rep : Rep c.T c.ρ c.L V s.heap
  base : Base c.K c.N s.heap
  live : ∀ b ∈ c.T, ∃ o, s.heap.get? b = some o
  frs : Frs c.N c.A s.heap
theorem Inv.toks {c : Fc} {V : View} {s : Shared} (I : Inv c V s) (t : Nat) : Inv c V { s with toks := t } := ⟨I.rep, I.base, I.live, I.frs⟩
theorem St.toks {N : Nat} {F : List Addr} {s : Shared} (t : Nat) : St N F s { s with toks := t } := ⟨.refl _, .refl _, rfl⟩
theorem Inv.keep {c : Fc} {V : View} {s s' : Shared} (ok : c.Ok) (I : Inv c V s) (k : Keep c.N [] s.heap s'.heap) : Inv c V s' := ⟨I.rep.keep k, I.base.keep (T := []) ok.lowK (fun _ h => nomatch h) ok.lo k, fun b hb => let ⟨o, e⟩ := I.live b hb; k.there b o e, I.frs.keep k⟩
theorem Fc.Ok.mutsT {c : Fc} (ok : c.Ok) : ∀ b ∈ c.muts, b ∈ c.T := ok.fx.mem
theorem Is.st {c : Fc} (ok : c.Ok) {s s' : Shared} {p : PV} {v : Value} (i : Is c.T c.ρ s.heap p v) (x : St c.N c.muts s s') : Is c.T c.ρ s'.heap p v := i.keep (x.keep.sub ok.mutsT)
theorem IsL.st {c : Fc} (ok : c.Ok) {s s' : Shared} {p : List PV} {v : List Value} (i : IsL c.T c.ρ s.heap p v) (x : St c.N c.muts s s') : IsL c.T c.ρ s'.heap p v := i.keep (x.keep.sub ok.mutsT)
noncomputable def EvOk (c : Fc) (e : Expr) (V : View) (p : PV) (V' : View) : Prop :=
  ∀ (s : Shared) (Q E : Value → Shared → Prop), Inv c V s → (∀ s' v, Inv c V' s' → St c.N c.muts s s' → Is c.T c.ρ s'.heap p v → Q v s') → wpAny c.M c.A (eval e c.env) Q E s
noncomputable def TvOk (c : Fc) (e : Expr) (V : View) (b : Bool) (V' : View) : Prop :=
  ∀ (s : Shared) (Q : Bool → Shared → Prop) (E : Value → Shared → Prop), Inv c V s → (∀ s', Inv c V' s' → St c.N c.muts s s' → Q b s') → wpAny c.M c.A (isTrue e c.env (eval e c.env)) Q E s
inductive PF where
  | next
  | brk
  | cont
  | ret (p : PV)
noncomputable def FlIs (c : Fc) (h : Heap) : PF → Flow → Prop
  | .next, f => f = .next
  | .brk, f => f = .brk
  | .cont, f => f = .cont
  | .ret p, f => ∃ v, f = .ret v ∧ Is c.T c.ρ h p v
noncomputable def SxOk (c : Fc) (st : Stmt) (V : View) (f : PF) (V' : View) : Prop :=
  ∀ (s : Shared) (Q : Flow → Shared → Prop) (E : Value → Shared → Prop), Inv c V s → (∀ s' fl, Inv c V' s' → St c.N c.muts s s' → FlIs c s'.heap f fl → Q fl s') → wpAny c.M c.A (exec st c.env) Q E s
noncomputable def ExOk (c : Fc) (b : List Stmt) (V : View) (f : PF) (V' : View) : Prop :=
  ∀ (s : Shared) (Q : Flow → Shared → Prop) (E : Value → Shared → Prop), Inv c V s → (∀ s' fl, Inv c V' s' → St c.N c.muts s s' → FlIs c s'.heap f fl → Q fl s') → wpAny c.M c.A (execs b c.env) Q E s
section
variable {c : Fc} {V V' V'' : View} {p q : PV}
/-! ### names, constants -/
theorem ev_local {x : Str} {pos : Pos} (ok : c.Ok) (hk : c.env.kindOf x = some .local) (hd : (x == ("__debug__" : Str)) = false) (hp : V.loc.lookup x = some p) : EvOk c (.Name x pos) V p V := by
  intro s Q E I h
  obtain ⟨m, hn, hl⟩ := I.rep.ns
  obtain ⟨v, e, i⟩ := hl x p hp
  exact wpAny_Name (wpAny_loadName_local ok.kind hk (by rw [ok.loc]; exact hn.ns) e (h s v I (.refl s) i)) hd
noncomputable def globIs (K : Frag) (x : Str) (v : Value) : Bool := nsIn K mainGlobals x == some (some v) || (nsIn K mainGlobals x == some none && bootBuiltins x == some v && x != ("__name__" : Str))
theorem nsMain {K : Frag} {h : Heap} (X : K.In h) {x : Str} {r : Option Value} (e : nsIn K mainGlobals x = some r) : ∀ {Q : Value → Shared → Prop} {E : Value → Shared → Prop} {M : Model} {A : Around} {s : Shared} {k : Option Value → Sem Value}, s.heap = h → wpAny M A (k r) Q E s → wpAny M A (nsGet mainGlobals x >>= k) Q E s := by
  intro Q E M A s k hs hq
  exact wpAny_bind ((looks_nsIn X e) A _ E s (by rw [hs]; exact fun _ _ e => e) hq)
theorem ev_glob {x : Str} {pos : Pos} {v : Value} (ok : c.Ok) (hk : c.env.kindOf x = some .globalImplicit) (hd : (x == ("__debug__" : Str)) = false) (hg : globIs c.K x v = true) : EvOk c (.Name x pos) V (.v v) V := by
  intro s Q E I h
  refine Calls.Name_function_global ok.kind hk ?_ hd
  unfold loadGlobal
  rw [ok.glb]
  rcases Bool.or_eq_true_iff.mp hg with e | e
  · have e := beq_iff_eq.mp e
    exact nsMain I.base.k e rfl (wpAny_pure (h s v I (.refl s) (.v v)))
  · obtain ⟨e, e3⟩ := Bool.and_eq_true_iff.mp e
    obtain ⟨e1, e2⟩ := Bool.and_eq_true_iff.mp e
    refine nsMain I.base.k (beq_iff_eq.mp e1) rfl ?_
    obtain ⟨mb, hb, hx⟩ := I.base.b
    refine wpAny_bind (wpAny_nsGet (by rw [ok.blt]; exact hb) ?_)
    rw [hx x (by simpa using e3), beq_iff_eq.mp e2]
    exact wpAny_pure (h s v I (.refl s) (.v v))
theorem ev_str {x : Str} {k : Nat} {pos : Pos} : EvOk c (.Constant (.str x) k pos) V (.s x) V := fun s Q E I h => wpAny_Constant_str (h _ _ (I.toks _) (.toks _) (.s x _))
theorem ev_int {x : Int} {k : Nat} {pos : Pos} : EvOk c (.Constant (.int x) k pos) V (.i x) V := fun s Q E I h => wpAny_Constant_int (h _ _ (I.toks _) (.toks _) (.i x _))
theorem ev_bool {x : Bool} {k : Nat} {pos : Pos} : EvOk c (.Constant (.bool x) k pos) V (.v (.bool x)) V := fun s Q E I h => wpAny_Constant_bool (h _ _ I (.refl s) (.v _))
theorem ev_none {k : Nat} {pos : Pos} : EvOk c (.Constant .none k pos) V (.v .none) V := fun s Q E I h => wpAny_Constant_none (h _ _ I (.refl s) (.v _))
/-! ### attributes of an instance -/
noncomputable def handedP : PV → Bool
  | .v x => handedIn x
  | _ => true
theorem handed_is {T : List Addr} {ρ : List (Addr × Addr)} {h : Heap} {v : Value} (i : Is T ρ h p v) (e : handedP p = true) : handedIn v = true := by
  cases i <;> first | exact e | rfl
/-- a plain attribute name of the class -/
noncomputable def attrOk (K : Frag) (C : Addr) (n : Str) : Bool := plainGet K C n && hasDictIn K C && (match findIn K (.ref C) n with | some a => noGet K a | none => false)
theorem ev_attr {y n : Str} {py pos : Pos} {k : Nat} {C : Addr} {att : List (Str × PV)} (ok : c.Ok) (hy : EvOk c (.Name y py) V (.o k) V) (ho : V.objs[k]? = some (.inst C att)) (ha : attrOk c.K C n = true) (hp : att.lookup n = some p) (hh : handedP p = true) :
    EvOk c (.Attribute (.Name y py) n pos) V p V := by
  intro s Q E I h
  refine Attribute_Name_ (hy s _ E I fun s' v I' st i => ?_)
  obtain ⟨a, dx, es, n', e1, na, ea, ed, m⟩ := I'.rep.objs k _ ho
  cases i with
  | o e =>
    rw [e1] at e; cases e
    obtain ⟨u, g1, g2⟩ := m.get.1 p hp
    obtain ⟨h12, h3⟩ := Bool.and_eq_true_iff.mp ha
    obtain ⟨h1, h2⟩ := Bool.and_eq_true_iff.mp h12
    have IA : InstAt s'.heap a ⟨.ref C, some dx, .plain, #[]⟩ C (some (dictOf es n')) := ⟨ea, rfl, rfl, ed⟩
    generalize hf : findIn c.K (.ref C) n = r at h3
    cases r with
    | none => cases h3
    | some r =>
      exact get_value I'.base.k IA (plainGet_of h1).1 (findObj_own h2 hf h3 g1) (handed_is g2 hh) (h _ _ (I'.toks _) (st.trans (.toks _)) g2)
theorem set_at {a dx C : Addr} {es : List DictEntry} {n' : Nat} {n : Str} {v : Value} {s : Shared} {Q : Unit → Shared → Prop} {E : Value → Shared → Prop} {K : Frag} {prog : Program} {w : World} {A : Around} (X : K.In s.heap) (ea : s.heap.get? a = some ⟨.ref C, some dx, .plain, #[]⟩) (ed : s.heap.get? dx = some (dictOf es n'))
    (hs : findIn K (.ref C) "__setattr__" = some (some (.builtin "object.__setattr__"))) (hp : plainOver K C = true) (ht : takerIn K C n = some none) (hh : hasDictIn K C = true) (hl : (getL n es).isSome = true) (hz : (putL n (PyData.keyHash w.params n) (.str n (s.toks + 1)) v es).length ≤ 1000)
    (h : ∀ h', Heap.SameBut dx s.heap h' → h'.get? dx = some (dictOf (putL n (PyData.keyHash w.params n) (.str n (s.toks + 1)) v es) (putN n es n')) → Q () { s with heap := h', toks := s.toks + 2 }) : wpAny (model prog w) A (setAttr (.ref a) n v) Q E s := by
  have IA : InstAt s.heap a ⟨.ref C, some dx, .plain, #[]⟩ C (some (dictOf es n')) := ⟨ea, rfl, rfl, ed⟩
  refine set_plain X IA hs ?_
  refine osa_open (s := { s with toks := s.toks + 1 }) X IA hp ht fun b => ?_
  obtain ⟨cd, hc, hd'⟩ := any_some hh
  refine wpAny_bind (wpAny_pure (wpAny_bind (wpAny_bind (wpAny_loadPart ea (wpAny_bind ((looks_clsIn X hc) _ _ _ _ (fun _ _ e => e) ?_))))))
  rw [hd']
  refine wpAny_pure (a := some dx) (wpAny_bind (wpAny_pure (wpAny_bind ?_)))
  unfold nsSet
  refine wpAny_bind (wpAny_bind (wpAny_askSetting (wpAny_pure (wpAny_bind (wpAny_mkText (wpAny_bind (wpAny_loadPart ed ?_)))))))
  have cc : (!es.toArray.any (·.key.isStr n) && es.toArray.any (·.refKey)) = false := by
    unfold getL at hl
    rw [← Array.any_toList, ← Array.any_toList]
    split at hl
    · rename_i en he
      rw [List.any_eq_true.mpr ⟨en, List.mem_of_find?_eq_some he, List.find?_some he⟩]; rfl
    · split at hl
      · cases hl
      · rename_i z; rw [Bool.not_eq_true] at z; rw [z, Bool.and_false]
  show wpAny _ _ (match (dictOf es n').data with | _ => _) _ _ _
  dsimp only
  rw [aRefKeyMayBeTheName_at, cc]
  have sb : Heap.SameBut dx s.heap (s.heap.update dx (Obj.putName n (PyData.keyHash w.params n) (.str n (s.toks + 1)) v)) := Heap.SameBut.update ..
  have D' : (s.heap.update dx (Obj.putName n (PyData.keyHash w.params n) (.str n (s.toks + 1)) v)).get? dx = some (dictOf (putL n (PyData.keyHash w.params n) (.str n (s.toks + 1)) v es) (putN n es n')) := by
    have := Heap.get?_update_self (Obj.putName n (PyData.keyHash w.params n) (.str n (s.toks + 1)) v) ed (by rw [putName_dict]; rfl)
    rw [this, putName_dict]
  refine wpAny_updatePart ed ?_
  refine wpAny_bind (wpAny_lookBehind D' (by exact pastItsLine_dict (by rw [List.size_toArray, sizeLine_eq]; omega)) ?_)
  exact wpAny_pure (h _ sb D')
end
end M3
section M4
/-! ### operators on plain values -/
noncomputable def strV : PV → Option Str
  | .s x => some x
  | _ => none
noncomputable def strsOf : List PV → Option (List Str)
  | [] => some []
  | p :: r => (strV p).bind fun x => (strsOf r).map (x :: ·)
theorem strsOf_is {T : List Addr} {ρ : List (Addr × Addr)} {h : Heap} {ps : List PV} {vs : List Value} {ys : List Str} (e : strsOf ps = some ys) (i : IsL T ρ h ps vs) : StrsAre vs ys :=
  IsL.ind (M := fun ps vs => ∀ ys, strsOf ps = some ys → StrsAre vs ys) (fun ys e => by cases e; exact .nil) (fun {p v ps vs} a _ b ys e => by
    obtain ⟨x, e1, e⟩ := ob e
    obtain ⟨zs, e2, e⟩ := map_some e
    subst e
    cases p with
    | s x => cases e1; cases a; exact .cons _ _ (b _ e2)
    | _ => exact no e1) i ys e
/-- all conditions of a list -/
noncomputable def AllP : List Prop → Prop
  | [] => True
  | p :: r => p ∧ AllP r
theorem AllP.append {a b : List Prop} : AllP (a ++ b) ↔ AllP a ∧ AllP b := by
  induction a with
  | nil => simp [AllP]
  | cons p r ih => simp [AllP, ih, and_assoc]
/-! ### values as data -/
noncomputable def datV : Value → Option PyData
  | .none => some .none
  | .bool b => some (.bool b)
  | _ => none
mutual
noncomputable def datP : PV → Option PyData
  | .v v => datV v
  | .s x => some (.str x)
  | .i x => some (.int x)
  | .o _ => none
  | .any => none
  | .l xs => (datL xs).map .list
  | .r xs => (datL xs).map fun ds => .list ds.reverse
  | .t xs => (datL xs).map .tuple
noncomputable def datL : List PV → Option (List PyData)
  | [] => some []
  | p :: r => (datP p).bind fun d => (datL r).map (d :: ·)
end
/-- can be compared -/
noncomputable def Shp (p : PV) : Prop := ∃ d, datP p = some d ∧ SeqAt.shaped d = true
theorem readsAll_snoc {h : Heap} {v : Value} {d : PyData} {as : List Addr} (y : Reads h v d as) : ∀ {vs : List Value} {ds : List PyData} {bs : List Addr}, ReadsAll h vs ds bs → ∃ cs, ReadsAll h (vs ++ [v]) (ds ++ [d]) cs := by
  intro vs
  induction vs with
  | nil => intro ds bs h; cases h; exact ⟨_, .cons y .nil⟩
  | cons x r ih => intro ds bs h; cases h with | cons a b => obtain ⟨_, c⟩ := ih b; exact ⟨_, .cons a c⟩
theorem readsAll_rev {h : Heap} : ∀ {vs : List Value} {ds : List PyData} {bs : List Addr}, ReadsAll h vs ds bs → ∃ cs, ReadsAll h vs.reverse ds.reverse cs := by
  intro vs
  induction vs with
  | nil => intro ds bs h; cases h; exact ⟨_, .nil⟩
  | cons x r ih =>
    intro ds bs h
    cases h with
    | cons a b =>
      obtain ⟨_, c⟩ := ih b
      rw [List.reverse_cons, List.reverse_cons]
      exact readsAll_snoc a c
noncomputable abbrev RdP (h : Heap) (p : PV) (v : Value) : Prop := ∀ d, datP p = some d → ∃ as, Reads h v d as
noncomputable abbrev RdL (h : Heap) (ps : List PV) (vs : List Value) : Prop := ∀ ds, datL ps = some ds → ∃ as, ReadsAll h vs ds as
theorem rd_cons {h : Heap} {p : PV} {v : Value} {ps : List PV} {vs : List Value} (a : RdP h p v) (b : RdL h ps vs) : RdL h (p :: ps) (v :: vs) := fun ds e => by
  obtain ⟨d, e1, e⟩ := ob e
  obtain ⟨ds', e2, e⟩ := map_some e
  subst e
  obtain ⟨_, x⟩ := a _ e1
  obtain ⟨_, y⟩ := b _ e2
  exact ⟨_, .cons x y⟩
theorem rd_v {h : Heap} (x : Value) : RdP h (.v x) x := fun d e => by
  cases x with
  | none => cases e; exact ⟨_, .none⟩
  | bool b => cases e; exact ⟨_, .bool _⟩
  | _ => exact no e
theorem reads_of {T : List Addr} {ρ : List (Addr × Addr)} {h : Heap} {p : PV} {v : Value} {d : PyData} (i : Is T ρ h p v) (e : datP p = some d) : ∃ as, Reads h v d as :=
  Is.rec (motive_1 := fun p v _ => RdP h p v) (motive_2 := fun ps vs _ => RdL h ps vs) rd_v (fun x t d e => by cases e; exact ⟨_, .str _ _⟩) (fun x t d e => by cases e; exact ⟨_, .int _ _⟩) (fun _ d e => no e)
    (fun _ ho hc hd _ r d e => by obtain ⟨ds, e1, rfl⟩ := map_some e; obtain ⟨as, z⟩ := r _ e1; exact ⟨_, .list ho hc hd z⟩)
    (fun _ ho hc hd _ r d e => by obtain ⟨ds, e1, rfl⟩ := map_some e; obtain ⟨as, z⟩ := r _ e1; obtain ⟨bs, z⟩ := readsAll_rev z; rw [List.reverse_reverse] at z; exact ⟨_, .list ho hc hd z⟩)
    (fun _ ho hc hd _ r d e => by obtain ⟨ds, e1, rfl⟩ := map_some e; obtain ⟨as, z⟩ := r _ e1; exact ⟨_, .tuple ho hc hd z⟩) (fun d e => no e) (fun ds e => by cases e; exact ⟨_, .nil⟩) (fun _ _ a b => rd_cons a b) i d e
/-! ### comparisons -/
noncomputable def isNoneV : Value → Bool
  | .none => true
  | _ => false
theorem isNoneV_is {v : Value} (h : isNoneV v = true) : v = .none := by cases v <;> first | rfl | exact nof h
noncomputable abbrev BP := Option (Bool × List Prop)
noncomputable def eqS (x : Str) : PV → BP
  | .s y => some (x.cps.toList == y.cps.toList, [])
  | .v u => if isNoneV u then some (false, []) else none
  | _ => none
noncomputable def eqI (x : Int) : PV → BP
  | .i y => some (x == y, [])
  | _ => none
noncomputable def eqN : PV → BP
  | .s _ => some (false, [])
  | .v u => if isNoneV u then some (true, []) else none
  | _ => none
noncomputable def eqL (xs : List PV) : PV → BP
  | .l ys => if ys.isEmpty then some (xs.isEmpty, [Shp (.l xs)]) else none
  | .s y => some (false, [Shp (.l xs), Shp (.s y)])
  | _ => none
noncomputable def eqP (p q : PV) : BP := match p with
  | .s x => eqS x q
  | .i x => eqI x q
  | .v v => if isNoneV v then eqN q else none
  | .l xs => eqL xs q
  | _ => none
section
variable {prog : Program} {w : World} {A : Around} {T : List Addr} {ρ : List (Addr × Addr)} {s : Shared} {p q : PV} {b : Bool} {P : List Prop} {v u : Value}
/-- both == and != -/
noncomputable def EqNe (prog : Program) (w : World) (A : Around) (s : Shared) (v u : Value) (b : Bool) : Prop :=
  (∀ Q E : Value → Shared → Prop, Q (.bool b) s → wpAny (model prog w) A (compareOp .Eq v u) Q E s) ∧ (∀ Q E : Value → Shared → Prop, Q (.bool (!b)) s → wpAny (model prog w) A (compareOp .NotEq v u) Q E s)
theorem eqne_data {dp dq : PyData} (i : Is T ρ s.heap p v) (j : Is T ρ s.heap q u) (hu : A.units + 64 < cLine) (e1 : datP p = some dp) (s1 : SeqAt.shaped dp = true) (e2 : datP q = some dq) (s2 : SeqAt.shaped dq = true) : EqNe prog w A s v u (PyData.eqv dp dq) := by
  obtain ⟨_, r1⟩ := reads_of i e1
  obtain ⟨_, r2⟩ := reads_of j e2
  exact ⟨fun Q E h => eq_dataH r1 r2 s1 s2 hu h, fun Q E h => ne_dataH r1 r2 s1 s2 hu h⟩
theorem datL_empty {xs : List PV} {ds : List PyData} (h : datL xs = some ds) : ds.isEmpty = xs.isEmpty := by
  cases xs with
  | nil => cases h; rfl
  | cons a r =>
    obtain ⟨d, e1, h⟩ := ob h
    obtain ⟨ds', e2, h⟩ := map_some h
    subst h; rfl
theorem eqS_sound {x : Str} (e : eqS x q = some (b, P)) (i : Is T ρ s.heap (.s x) v) (j : Is T ρ s.heap q u) : EqNe prog w A s v u b := by
  obtain ⟨_, rfl⟩ := i.is
  cases q with
  | s y => cases e; obtain ⟨_, rfl⟩ := j.is; exact ⟨fun Q E h => P.eq_str h, fun Q E h => P.ne_str h⟩
  | v u => obtain ⟨h, e⟩ := oi e; cases e; rw [j.iv, isNoneV_is h]; exact ⟨fun Q E h => EqNone.eq_str_none h, fun Q E h => EqNone.ne_str_none h⟩
  | _ => exact no e
theorem eqN_sound (e : eqN q = some (b, P)) (j : Is T ρ s.heap q u) : EqNe prog w A s .none u b := by
  cases q with
  | s y => cases e; obtain ⟨_, rfl⟩ := j.is; exact ⟨fun Q E h => EqNone.eq_none_str h, fun Q E h => EqNone.ne_none_str h⟩
  | v u => obtain ⟨h, e⟩ := oi e; cases e; rw [j.iv, isNoneV_is h]; exact ⟨fun Q E h => EqNone.eq_none_none h, fun Q E h => EqNone.ne_none_none h⟩
  | _ => exact no e
theorem eqL_sound {xs : List PV} (e : eqL xs q = some (b, P)) (hP : AllP P) (i : Is T ρ s.heap (.l xs) v) (j : Is T ρ s.heap q u) (hu : A.units + 64 < cLine) : EqNe prog w A s v u b := by
  cases q with
  | l ys =>
    obtain ⟨hy, e⟩ := oi e
    cases e
    obtain ⟨d, e1, s1⟩ := hP.1
    obtain ⟨ds, e2, e3⟩ := map_some (show (datL xs).map PyData.list = some d from e1)
    subst e3
    have z := eqne_data (prog := prog) (w := w) i j hu e1 s1 (dq := .list []) (by rw [List.isEmpty_iff.mp hy]; rfl) (by rfl)
    rw [← datL_empty e2]
    have : PyData.eqv (.list ds) (.list []) = ds.isEmpty := by cases ds <;> simp [PyData.eqv, PyData.eqvAll]
    rw [← this]; exact z
  | s y =>
    cases e
    obtain ⟨d, e1, s1⟩ := hP.1
    obtain ⟨d', e2, s2⟩ := hP.2.1
    obtain ⟨ds, e3, e4⟩ := map_some (show (datL xs).map PyData.list = some d from e1)
    subst e4
    have e5 := e2
    cases e5
    exact eqne_data (prog := prog) (w := w) i j hu e1 s1 e2 s2
  | _ => exact no e
theorem eqne_sound (e : eqP p q = some (b, P)) (hP : AllP P) (i : Is T ρ s.heap p v) (j : Is T ρ s.heap q u) (hu : A.units + 64 < cLine) : EqNe prog w A s v u b := by
  cases p with
  | s x => exact eqS_sound e i j
  | i x =>
    obtain ⟨_, rfl⟩ := i.ii
    cases q with
    | i y => cases e; obtain ⟨_, rfl⟩ := j.ii; exact ⟨fun Q E h => P.eq_int h, fun Q E h => P.ne_int h⟩
    | _ => exact no e
  | v x => obtain ⟨h, e⟩ := oi e; rw [i.iv, isNoneV_is h]; exact eqN_sound e j
  | l xs => exact eqL_sound e hP i j hu
  | _ => exact no e
/-- what is one: objects of the written part, none of which is a list or a tuple -/
noncomputable def isPN : PV → Option Bool
  | .v x => if plainIs x .none then some (x == .none) else none
  | _ => some false
noncomputable def refV : Value → Option Addr
  | .ref a => some a
  | _ => none
theorem refV_is {v : Value} {a : Addr} (h : refV v = some a) : v = .ref a := by
  cases v with
  | ref => cases h; rfl
  | _ => exact no h
noncomputable def isRR (nt : List Addr) (a b : Addr) : Option Bool := if a == b then some true else if nt.contains a && nt.contains b then some false else none
noncomputable def isPR (nt : List Addr) (b : Addr) : PV → Option Bool
  | .v v => (refV v).bind fun a => isRR nt a b
  | .l _ => if nt.contains b then some false else none
  | .r _ => if nt.contains b then some false else none
  | .s _ => some false
  | _ => none
noncomputable def isB : Value → Bool
  | .bool _ => true
  | _ => false
noncomputable def isPO (u : Value) : PV → Option Bool
  | .v x => if plainIs x u then some (x == u) else none
  | .s _ => if isB u then some false else none
  | _ => none
noncomputable def isPV (nt : List Addr) (p : PV) : Value → Option Bool
  | .none => isPN p
  | .ref b => isPR nt b p
  | u => isPO u p
noncomputable def isP (nt : List Addr) (p q : PV) : Option Bool := match q with
  | .v u => isPV nt p u
  | _ => none
noncomputable def NtOk (K : Frag) (nt : List Addr) : Prop := ∀ a, nt.contains a = true → ∃ o, K.lookup a = some o ∧ o.cls ≠ .type "tuple" ∧ o.cls ≠ .type "list"
/-- both ways of asking -/
noncomputable def Sm (prog : Program) (w : World) (A : Around) (s : Shared) (v u : Value) (b : Bool) : Prop := ∀ (R : Bool → Shared → Prop) (E : Value → Shared → Prop), R b s → wpAny (model prog w) A (isSame v u) R E s
theorem sm_plain (hp : plainIs v u = true) : Sm prog w A s v u (v == u) := fun R E r => wpAny_isSame_plain hp r
theorem same_none (hn : ∀ x, p = .v x → False) (i : Is T ρ s.heap p v) : Sm prog w A s v .none false := by
  cases i with
  | v => exact (hn _ rfl).elim
  | _ => exact sm_plain rfl
section
variable {K : Frag} {nt : List Addr} {a a' : Addr}
theorem sm_two (N : NtOk K nt) (X : K.In s.heap) (ne : (a == a') = false) (h : (nt.contains a && nt.contains a') = true) : Sm prog w A s (.ref a) (.ref a') false := fun R E r => by
  obtain ⟨h1, h2⟩ := Bool.and_eq_true_iff.mp h
  obtain ⟨oa, ea, _, _⟩ := N a h1
  obtain ⟨ob, eb, c1, _⟩ := N a' h2
  exact PySem.SeqAt.wpAny_isSame_ref_other' (by simpa using ne) (X _ _ ea) (X _ _ eb) c1 r
theorem sm_lst (N : NtOk K nt) (X : K.In s.heap) {oa : Obj} (ea : s.heap.get? a = some oa) (ca : oa.cls = .type "list") (h : nt.contains a' = true) : Sm prog w A s (.ref a) (.ref a') false := fun R E r => by
  obtain ⟨ob, eb, c1, c2⟩ := N a' h
  have ne : a ≠ a' := fun q => by
    subst q
    rw [X _ _ eb] at ea
    injection ea with ea
    exact c2 (ea ▸ ca)
  exact PySem.SeqAt.wpAny_isSame_ref_other' ne ea (X _ _ eb) c1 r
theorem sm_oth {x : Value} (e : isPO x p = some b) (i : Is T ρ s.heap p v) : Sm prog w A s v x b := by
  cases p with
  | v y => obtain ⟨h, e⟩ := oi e; cases e; cases i.iv; exact sm_plain h
  | s y =>
    obtain ⟨h, e⟩ := oi e
    cases e
    obtain ⟨_, rfl⟩ := i.is
    cases x with
    | bool _ => exact sm_plain rfl
    | _ => exact nof h
  | _ => exact no e
theorem sm_none (e : isPN p = some b) (i : Is T ρ s.heap p v) : Sm prog w A s v .none b := by
  cases p with
  | v y => obtain ⟨h, e⟩ := oi e; cases e; cases i.iv; exact sm_plain h
  | _ => cases e; exact same_none (fun _ q => by cases q) i
theorem sm_rr (N : NtOk K nt) (X : K.In s.heap) (e : isRR nt a a' = some b) : Sm prog w A s (.ref a) (.ref a') b := by
  unfold isRR at e
  by_cases h : (a == a') = true
  · rw [if_pos h] at e; cases e
    intro R E r
    show wpAny _ A (if _ then pure true else _) R E s
    rw [if_pos h]; exact wpAny_pure r
  · rw [if_neg h] at e
    obtain ⟨h2, e⟩ := oi e
    cases e; exact sm_two N X (Bool.eq_false_iff.mpr h) h2
theorem sm_ref (N : NtOk K nt) (X : K.In s.heap) (e : isPR nt a' p = some b) (i : Is T ρ s.heap p v) : Sm prog w A s v (.ref a') b := by
  cases p with
  | v y =>
    obtain ⟨a, ea, e⟩ := ob e
    have := i.iv
    rw [refV_is ea] at this
    subst this
    exact sm_rr N X e
  | l xs =>
    obtain ⟨h, e⟩ := oi e; cases e
    obtain ⟨_, _, _, _, z, _⟩ := i.il
    cases z.v; exact sm_lst N X z.at_ z.cls h
  | r xs =>
    obtain ⟨h, e⟩ := oi e; cases e
    obtain ⟨_, _, _, _, z, _⟩ := i.ir
    cases z.v; exact sm_lst N X z.at_ z.cls h
  | s x => cases e; obtain ⟨_, rfl⟩ := i.is; exact fun R E r => wpAny_pure r
  | _ => exact no e
end
theorem isP_sound {K : Frag} {nt : List Addr} (N : NtOk K nt) (X : K.In s.heap) (e : isP nt p q = some b) (i : Is T ρ s.heap p v) (j : Is T ρ s.heap q u) : Sm prog w A s v u b := by
  cases q with
  | v x =>
    rw [j.iv]
    cases x with
    | none => exact sm_none e i
    | ref a' => exact sm_ref N X e i
    | _ => exact sm_oth e i
  | _ => exact no e
noncomputable def oneN : List Nat → Option Nat
  | [] => none
  | c :: r => if r.isEmpty then some c else none
theorem oneN_is {l : List Nat} {c : Nat} (h : oneN l = some c) : l = [c] := by
  cases l with
  | nil => exact no h
  | cons a r => obtain ⟨h1, h⟩ := oi h; cases h; rw [List.isEmpty_iff.mp h1]
noncomputable def inS (y : Str) : PV → Option Bool
  | .s x => (oneN y.cps.toList).map fun c => decide (c ∈ x.cps.toList)
  | .t ps => (strsOf ps).map fun ys => ys.any (· == y)
  | _ => none
noncomputable def inP (p q : PV) : Option Bool := match p with
  | .s y => inS y q
  | _ => none
theorem str_one {y : Str} {c : Nat} (e : y.cps.toList = [c]) : y = ⟨#[c]⟩ := by
  obtain ⟨⟨l⟩⟩ := y
  simp at e; subst e; rfl
noncomputable def InNot (prog : Program) (w : World) (A : Around) (s : Shared) (v u : Value) (b : Bool) : Prop :=
  (∀ Q E : Value → Shared → Prop, Q (.bool b) s → wpAny (model prog w) A (compareOp .In v u) Q E s) ∧ (∀ Q E : Value → Shared → Prop, Q (.bool (!b)) s → wpAny (model prog w) A (compareOp .NotIn v u) Q E s)
theorem inP_sound (e : inP p q = some b) (i : Is T ρ s.heap p v) (j : Is T ρ s.heap q u) : InNot prog w A s v u b := by
  cases p with
  | s y =>
    obtain ⟨_, rfl⟩ := i.is
    cases q with
    | s x =>
      obtain ⟨c, hc, e⟩ := map_some e
      subst e
      obtain ⟨_, rfl⟩ := j.is
      refine ⟨fun Q E h => P.in_str ?_, fun Q E h => P.notIn_str ?_⟩ <;> (rw [str_one (oneN_is hc), StrLaws.found_one]; exact h)
    | t ps =>
      obtain ⟨ys, e1, e2⟩ := map_some e
      subst e2
      obtain ⟨_, _, _, _, z, hl⟩ := j.it
      cases z.v
      exact ⟨fun Q E h => in_tuple_strs z.isTuple (strsOf_is e1 hl) h, fun Q E h => notin_tuple_strs z.isTuple (strsOf_is e1 hl) h⟩
    | _ => exact no e
  | _ => exact no e
noncomputable def ordI (x y : Int) : CmpOp → Option Bool
  | .Lt => some (decide (x < y))
  | .LtE => some (decide (x ≤ y))
  | .Gt => some (decide (x > y))
  | .GtE => some (decide (x ≥ y))
  | _ => none
noncomputable def intP : PV → Option Int
  | .i x => some x
  | _ => none
theorem intP_is {p : PV} {x : Int} (h : intP p = some x) : p = .i x := by
  cases p with
  | i => cases h; rfl
  | _ => exact no h
noncomputable def ordP (op : CmpOp) (p q : PV) : Option Bool := two (intP p) (intP q) fun x y => ordI x y op
theorem ordP_sound {op : CmpOp} (e : ordP op p q = some b) (i : Is T ρ s.heap p v) (j : Is T ρ s.heap q u) {Q E : Value → Shared → Prop} (h : Q (.bool b) s) : wpAny (model prog w) A (compareOp op v u) Q E s := by
  obtain ⟨x, y, e1, e2, e⟩ := two_is e
  rw [intP_is e1] at i
  rw [intP_is e2] at j
  obtain ⟨_, rfl⟩ := i.ii; obtain ⟨_, rfl⟩ := j.ii
  cases op with
  | Lt => cases e; exact P.lt_int h
  | LtE => cases e; exact P.le_int h
  | Gt => cases e; exact P.gt_int h
  | GtE => cases e; exact P.ge_int h
  | _ => exact no e
noncomputable def cmpG (nt : List Addr) (op : CmpOp) (p q : PV) : BP := match op with
  | .Eq => eqP p q
  | .NotEq => (eqP p q).map fun z => (!z.1, z.2)
  | .Is => (isP nt p q).map fun z => (z, [])
  | .IsNot => (isP nt p q).map fun z => (!z, [])
  | .In => (inP p q).map fun z => (z, [])
  | .NotIn => (inP p q).map fun z => (!z, [])
  | op => (ordP op p q).map fun z => (z, [])
theorem cmpG_sound {K : Frag} {nt : List Addr} {op : CmpOp} {Q E : Value → Shared → Prop} (N : NtOk K nt) (X : K.In s.heap) (e : cmpG nt op p q = some (b, P)) (hP : AllP P) (hu : A.units + 64 < cLine) (i : Is T ρ s.heap p v) (j : Is T ρ s.heap q u)
    (hq : Q (.bool b) s) : wpAny (model prog w) A (compareOp op v u) Q E s := by
  cases op with
  | Eq => exact (eqne_sound e hP i j hu).1 _ _ hq
  | NotEq =>
    obtain ⟨z, e1, e2⟩ := Option.map_eq_some_iff.mp e
    cases e2
    exact (eqne_sound e1 hP i j hu).2 _ _ hq
  | Is =>
    obtain ⟨z, e1, e2⟩ := Option.map_eq_some_iff.mp e
    cases e2
    exact wpAny_bind (isP_sound N X e1 i j _ _ (wpAny_pure hq))
  | IsNot =>
    obtain ⟨z, e1, e2⟩ := Option.map_eq_some_iff.mp e
    cases e2
    exact wpAny_bind (isP_sound N X e1 i j _ _ (wpAny_pure hq))
  | In =>
    obtain ⟨z, e1, e2⟩ := Option.map_eq_some_iff.mp e
    cases e2
    exact (inP_sound e1 i j).1 _ _ hq
  | NotIn =>
    obtain ⟨z, e1, e2⟩ := Option.map_eq_some_iff.mp e
    cases e2
    exact (inP_sound e1 i j).2 _ _ hq
  | _ =>
    obtain ⟨z, e1, e2⟩ := Option.map_eq_some_iff.mp e
    cases e2
    exact ordP_sound e1 i j hq
end
noncomputable def truthP (p : PV) : BP := match p with
  | .s x => some (!x.cps.toList.isEmpty, [x.length ≤ sizeLine])
  | .i x => some (x != 0, [])
  | .v v => (match v with
    | .none => some (false, [])
    | .bool b => some (b, [])
    | _ => none)
  | _ => none
theorem truth_sound {prog : Program} {w : World} {A : Around} {T : List Addr} {ρ : List (Addr × Addr)} {h : Heap} {p : PV} {b : Bool} {P : List Prop} {v : Value} {s : Shared} {Q : Bool → Shared → Prop} {E : Value → Shared → Prop} (e : truthP p = some (b, P)) (hP : AllP P) (i : Is T ρ h p v)
    (hq : ∀ tk, Q b { s with toks := tk }) : wpAny (model prog w) A (truthy v) Q E s := by
  unfold truthP at e
  split at e
  · rename_i x
    cases e; obtain ⟨_, rfl⟩ := i.is
    have hP := hP.1
    refine P.truthy_str (by rw [sizeLine_eq] at hP; omega) ?_
    have : ((x.length : Int) != 0) = !x.cps.toList.isEmpty := by
      obtain ⟨⟨l⟩⟩ := x
      cases l with
      | nil => rfl
      | cons a r => simp [Str.length]; omega
    rw [this]; exact hq _
  · cases e; obtain ⟨_, rfl⟩ := i.ii; exact P.truthy_int (hq s.toks)
  · cases i.iv
    split at e
    · cases e; exact truthy_none (hq s.toks)
    · cases e; exact wpAny_truthy_bool (hq s.toks)
    · cases e
  · cases e
/-! ### + - * % // -/
theorem str_nil {x y : Str} (h : (x.length == 0) = true) : x ++ y = y := by
  obtain ⟨⟨l⟩⟩ := x; obtain ⟨⟨r⟩⟩ := y
  have : l = [] := by
    have := beq_iff_eq.mp h
    exact List.length_eq_zero_iff.mp this
  subst this
  show (⟨#[] ++ ⟨r⟩⟩ : Str) = _
  simp
theorem nil_str {x y : Str} (h : (y.length == 0) = true) : x ++ y = x := by
  obtain ⟨⟨l⟩⟩ := x; obtain ⟨⟨r⟩⟩ := y
  have : r = [] := by
    have := beq_iff_eq.mp h
    exact List.length_eq_zero_iff.mp this
  subst this
  show (⟨⟨l⟩ ++ #[]⟩ : Str) = _
  simp
theorem made_add {x y : Str} {t u : Tok} {s : Shared} {Q : Value → Shared → Prop} (hz : (x ++ y).length ≤ sizeLine) (hq : ∀ t' tk, Q (.str (x ++ y) t') { s with toks := tk }) :
    (if x.length == 0 then Made.val (.str y u) else if y.length == 0 then Made.val (.str x t) else Made.str (x ++ y)).post Q s := by
  split
  · rename_i g; have := hq u s.toks; rw [str_nil g] at this; exact this
  · split
    · rename_i g; have := hq t s.toks; rw [nil_str g] at this; exact this
    · exact ⟨hz, hq _ _⟩
noncomputable abbrev VP := Option (PV × List Prop)
noncomputable def addP (p q : PV) : VP := match p with
  | .i x => (match q with
    | .i y => some (.i (x + y), [])
    | _ => none)
  | .s x => (match q with
    | .s y => some (.s (x ++ y), [(x ++ y).length ≤ sizeLine])
    | _ => none)
  | _ => none
/-- how many items a list may have -/
noncomputable def Ln (xs : List PV) : Prop := xs.length ≤ 1000000
theorem Ln.sz {T : List Addr} {ρ : List (Addr × Addr)} {h : Heap} {xs : List PV} {vs : List Value} (l : Ln xs) (i : IsL T ρ h xs vs) : vs.length ≤ 1000000 := i.length ▸ l
noncomputable def addL (p q : PV) : VP := match q with
  | .l ys => (match p with
    | .l xs => some (.l (xs ++ ys), [Ln xs, Ln ys])
    | .r xs => some (.r (ys.reverse ++ xs), [Ln xs, Ln ys])
    | _ => none)
  | _ => none
noncomputable def binP (op : Operator) (p q : PV) : VP := match op with
  | .Add => (match addP p q with
    | some z => some z
    | none => addL p q)
  | _ => (match p with
    | .i x => (match q with
      | .i y => (match op with
        | .Sub => some (.i (x - y), [])
        | .Mult => some (.i (x * y), [IntMulOk x y])
        | .Mod => some (.i (x.fmod y), [y ≠ 0])
        | .FloorDiv => some (.i (x.fdiv y), [y ≠ 0, y.natAbs < 1073741824])
        | _ => none)
      | _ => none)
    | _ => none)
section
variable {prog : Program} {w : World} {A : Around} {N : Nat} {T : List Addr} {ρ : List (Addr × Addr)} {s : Shared} {p q r : PV} {P : List Prop} {v u : Value} {Q E : Value → Shared → Prop}
theorem add_sound {h : Heap} (e : addP p q = some (r, P)) (hP : AllP P) (i : Is T ρ h p v) (j : Is T ρ h q u)
    (hq : ∀ tk x, Is T ρ h r x → Q x { s with toks := tk }) : wpAny (model prog w) A (binaryOp .Add v u) Q E s := by
  unfold addP at e
  split at e
  · split at e
    · cases e; obtain ⟨_, rfl⟩ := i.ii; obtain ⟨_, rfl⟩ := j.ii; exact P.add_int (hq _ _ (.i _ _))
    · cases e
  · split at e
    · cases e; obtain ⟨_, rfl⟩ := i.is; obtain ⟨_, rfl⟩ := j.is; exact P.add_str (made_add hP.1 fun _ _ => hq _ _ (.s _ _))
    · cases e
  · cases e
theorem iadd_sound {h : Heap} (e : addP p q = some (r, P)) (hP : AllP P) (i : Is T ρ h p v) (j : Is T ρ h q u)
    (hq : ∀ tk x, Is T ρ h r x → Q x { s with toks := tk }) : wpAny (model prog w) A (inplaceOp .Add v u) Q E s := by
  unfold addP at e
  split at e
  · split at e
    · cases e; obtain ⟨_, rfl⟩ := i.ii; obtain ⟨_, rfl⟩ := j.ii; exact P.iadd_int (hq _ _ (.i _ _))
    · cases e
  · split at e
    · cases e; obtain ⟨_, rfl⟩ := i.is; obtain ⟨_, rfl⟩ := j.is; exact P.iadd_str (made_add hP.1 fun _ _ => hq _ _ (.s _ _))
    · cases e
  · cases e
theorem fresh_none (h : Heap) : h.get? h.objs.size = none := by
  cases q : h.get? h.objs.size with
  | none => rfl
  | some o => exact absurd (Heap.lt_size q) (Nat.lt_irrefl _)
theorem fresh_out {h : Heap} (live : ∀ b ∈ T, ∃ o, h.get? b = some o) : h.objs.size ∉ T := fun hb => by
  obtain ⟨o, e⟩ := live _ hb
  rw [fresh_none] at e; cases e
theorem St.push {F : List Addr} (o : Obj) : St N F s { s with heap := s.heap.push o } := ⟨.push _ _, .refl _, rfl⟩
/-- a new list -/
theorem is_new {h : Heap} {xs : List PV} {vs : List Value} {n : Nat} (live : ∀ b ∈ T, ∃ o, h.get? b = some o) (i : IsL T ρ h xs vs) : Is T ρ (h.push { cls := .type "list", data := .seq vs.toArray n }) (.l xs) (.ref h.objs.size) :=
  .l (fresh_out live) (Heap.get?_push_size _ rfl) rfl rfl (by simpa using i.keep (.push (N := 0) _ _))
theorem is_newr {h : Heap} {xs : List PV} {vs : List Value} {n : Nat} (live : ∀ b ∈ T, ∃ o, h.get? b = some o) (i : IsL T ρ h xs vs.reverse) : Is T ρ (h.push { cls := .type "list", data := .seq vs.toArray n }) (.r xs) (.ref h.objs.size) :=
  .r (fresh_out live) (Heap.get?_push_size _ rfl) rfl rfl (by simpa using i.keep (.push (N := 0) _ _))
theorem addl_raw {l b : Addr} {o o2 : Obj} {vs us : Array Value} {n n2 : Nat} (ho : s.heap.get? l = some o) (hc : o.cls = .type "list") (hd : o.data = .seq vs n) (ho2 : s.heap.get? b = some o2) (hc2 : o2.cls = .type "list") (hd2 : o2.data = .seq us n2) (hz : vs.size + us.size ≤ sizeLine)
    (h : Q (.ref s.heap.objs.size) { s with heap := s.heap.push { cls := .type "list", data := .seq (vs.toList ++ us.toList).toArray } }) : wpAny (model prog w) A (binaryOp .Add (.ref l) (.ref b)) Q E s := by
  obtain ⟨cls, dd, data, sl⟩ := o
  obtain ⟨cls2, dd2, data2, sl2⟩ := o2
  simp only at hc hd hc2 hd2
  subst hc hd hc2 hd2
  have e : vs ++ us = (vs.toList ++ us.toList).toArray := by simp
  refine concat_meets ⟨_, ho, rfl⟩ ⟨_, ho2, rfl⟩ noFill_list_add seq_list_add PySem.F.slot_list_add PySem.F.entry_list_add (PySem.F.args_list_add_2 _ _) (list_addW l b vs us n n2 dd dd2 sl sl2 hz) ⟨ho, ho2, ?_⟩
  rw [e]
  exact h
theorem addl_sound (live : ∀ b ∈ T, ∃ o, s.heap.get? b = some o) (e : addL p q = some (r, P)) (hP : AllP P) (i : Is T ρ s.heap p v) (j : Is T ρ s.heap q u)
    (hq : ∀ s' x, St N [] s s' → Is T ρ s'.heap r x → Q x s') : wpAny (model prog w) A (binaryOp .Add v u) Q E s := by
  unfold addL at e
  split at e
  · split at e
    · cases e
      obtain ⟨_, _, _, _, y, ra⟩ := i.il
      obtain ⟨_, _, _, _, z, rb⟩ := j.il
      cases y.v; cases z.v
      have z1 := hP.1.sz ra
      have z2 := hP.2.1.sz rb
      refine addl_raw y.at_ y.cls y.data z.at_ z.cls z.data (by simp at z1 z2; rw [sizeLine_eq]; omega) (hq _ _ (.push _) (is_new live (ra.append rb)))
    · cases e
      obtain ⟨_, _, _, _, y, ra⟩ := i.ir
      obtain ⟨_, _, _, _, z, rb⟩ := j.il
      cases y.v; cases z.v
      have z1 := hP.1.sz ra
      have z2 := hP.2.1.sz rb
      refine addl_raw y.at_ y.cls y.data z.at_ z.cls z.data (by simp at z1 z2; rw [sizeLine_eq]; omega) (hq _ _ (.push _) (is_newr live ?_))
      rw [List.reverse_append]
      exact rb.reverse.append ra
    · cases e
  · cases e
theorem bin_sound {op : Operator} (live : ∀ b ∈ T, ∃ o, s.heap.get? b = some o) (e : binP op p q = some (r, P)) (hP : AllP P) (i : Is T ρ s.heap p v) (j : Is T ρ s.heap q u)
    (hq : ∀ s' x, St N [] s s' → Is T ρ s'.heap r x → Q x s') : wpAny (model prog w) A (binaryOp op v u) Q E s := by
  unfold binP at e
  split at e
  · split at e
    · rename_i h; cases e
      exact add_sound h hP i j fun tk x ix => hq _ _ (.toks tk) ix
    · exact addl_sound live e hP i j hq
  · split at e
    · split at e
      · obtain ⟨_, rfl⟩ := i.ii; obtain ⟨_, rfl⟩ := j.ii
        split at e
        · cases e; exact P.sub_int (hq _ _ (.toks _) (.i _ _))
        · cases e; exact P.mul_int (hq _ _ (.toks _) (.i _ _)) hP.1
        · cases e; exact mod_int' hP.1 (hq _ _ (.toks _) (.i _ _))
        · cases e; exact floordiv_int hP.1 (hq _ _ (.toks _) (.i _ _)) (.inl (PyProof.noPylong_small hP.2.1))
        · cases e
      · cases e
    · cases e
end
noncomputable def notComp : Expr → Bool
  | .ListComp .. => false
  | .SetComp .. => false
  | .DictComp .. => false
  | _ => true
theorem swaps_no {e : Expr} {t : Option Expr} {l : Nat} {env : Env} (h : notComp e = true) : swapsWith e t l env = pure false := by
  cases e <;> first | rfl | exact nof h
section
variable {c : Fc} {V V1 V2 V' V'' : View} {p q r : PV} {P : List Prop} {b : Bool}
theorem ev_cmp {l : Expr} {op : CmpOp} {r : Expr} {pos : Pos} (ok : c.Ok) (hu : c.A.units + 64 < cLine) (hl : EvOk c l V p V1) (hr : EvOk c r V1 q V2) {nt : List Addr} (N : NtOk c.K nt) (e : cmpG nt op p q = some (b, P)) (hP : AllP P) (hm : behindInMarks op r = false) : EvOk c (.Compare l [op] [r] pos) V (.v (.bool b)) V2 := by
  intro s Q E I h
  refine wpAny_Compare1 (hl s _ E I fun s1 v I1 t1 i1 => hr s1 _ E I1 fun s2 u I2 t2 i2 => ?_) hm
  exact cmpG_sound N I2.base.k e hP hu (i1.st ok t2) i2 (h s2 _ I2 (t1.trans t2) (.v _))
theorem tv_cmp {l : Expr} {op : CmpOp} {r : Expr} {pos : Pos} (ok : c.Ok) (hu : c.A.units + 64 < cLine) (hl : EvOk c l V p V1) (hr : EvOk c r V1 q V2) {nt : List Addr} (N : NtOk c.K nt) (e : cmpG nt op p q = some (b, P)) (hP : AllP P) (hm : behindInMarks op r = false) : TvOk c (.Compare l [op] [r] pos) V b V2 := by
  intro s Q E I h
  refine wpAny_isTrue_Compare1 (hl s _ E I fun s1 v I1 t1 i1 => hr s1 _ E I1 fun s2 u I2 t2 i2 => ?_) hm
  exact cmpG_sound N I2.base.k e hP hu (i1.st ok t2) i2 (wpAny_truthy_bool (h s2 I2 (t1.trans t2)))
theorem tv_plain {e : Expr} (he : ∀ env whole, isTrue e env whole = (do let v ← whole; standAt e.pos; holding [v] (truthy v))) (hv : EvOk c e V p V1) (ht : truthP p = some (b, P)) (hP : AllP P) : TvOk c e V b V1 := by
  intro s Q E I h
  refine wpAny_isTrue_value (hv s _ E I fun s1 v I1 t1 i1 => ?_) (he _ _)
  exact truth_sound ht hP i1 fun tk => h _ (I1.toks tk) (t1.trans (.toks tk))
/-- the truth of a numbered object -/
noncomputable def objTruth : PO → Option (Bool × List Prop)
  | .dq xs => some (!xs.isEmpty, [xs.length < 2 ^ 62])
  | .list xs => some (!xs.isEmpty, [xs.length < 2 ^ 62])
  | _ => none
theorem tv_obj {e : Expr} {k : Nat} {po : PO} (he : ∀ env whole, isTrue e env whole = (do let v ← whole; standAt e.pos; holding [v] (truthy v))) (hv : EvOk c e V (.o k) V1) (ho : V1.objs[k]? = some po) (ht : objTruth po = some (b, P)) (hP : AllP P) : TvOk c e V b V1 := by
  intro s Q E I h
  refine wpAny_isTrue_value (hv s _ E I fun s1 v I1 t1 i1 => ?_) (he _ _)
  have O := I1.rep.objs k _ ho
  cases i1 with
  | o e1 =>
    unfold objTruth at ht
    split at ht
    · cases ht
      obtain ⟨a, st, vs, e, ea, m⟩ := O
      rw [e1] at e; cases e
      have hl := m.length
      refine dq_truthy ea (by rw [← hl]; exact hP.1) ?_
      rename_i xs
      have : xs.isEmpty = vs.isEmpty := by cases m <;> rfl
      rw [← this]
      exact h _ (I1.toks _) (t1.trans (.toks _))
    · cases ht
      obtain ⟨a, vs, n, e, ea, m⟩ := O
      rw [e1] at e; cases e
      have hl := m.length
      rw [List.length_reverse] at hl
      refine wpAny_truthy_list (items := vs) ⟨_, ea, rfl, n, rfl⟩ (by have := hP.1; rw [hl] at this; simp at this; omega) ?_
      rename_i xs
      have : xs.isEmpty = vs.isEmpty := by
        rw [Bool.eq_iff_iff, List.isEmpty_iff_length_eq_zero, hl]
        simp
      rw [← this]
      exact h _ (I1.toks _) (t1.trans (.toks _))
    · cases ht
theorem tv_not {e : Expr} {pos : Pos} (hv : TvOk c e V b V1) : TvOk c (.UnaryOp .Not e pos) V (!b) V1 := by
  intro s Q E I h
  exact wpAny_isTrue_Not (hv s _ E I fun s1 I1 t1 => h s1 I1 t1)
/-- the rest of an and | or -/
noncomputable def AllOk (c : Fc) (op : BoolOp) (es : List Expr) (V : View) (b : Bool) (V' : View) : Prop :=
  ∀ (s : Shared) (Q : Bool → Shared → Prop) (E : Value → Shared → Prop), Inv c V s → (∀ s', Inv c V' s' → St c.N c.muts s s' → Q b s') → wpAny c.M c.A (allTrue op es c.env) Q E s
theorem all_and_nil : AllOk c .And [] V true V := fun s Q E I h => wpAny_allTrue_And_nil (h s I (.refl s))
theorem all_or_nil : AllOk c .Or [] V false V := fun s Q E I h => wpAny_allTrue_Or_nil (h s I (.refl s))
theorem all_and {e : Expr} {es : List Expr} {b' : Bool} (he : TvOk c e V b V) (hr : b = true → AllOk c .And es V b' V) : AllOk c .And (e :: es) V (b && b') V := by
  intro s Q E I h
  refine wpAny_allTrue_And_cons (he s _ E I fun s1 I1 t1 => ?_)
  cases b with
  | true => exact hr rfl s1 Q E I1 fun s2 I2 t2 => h s2 I2 (t1.trans t2)
  | false => exact h s1 I1 t1
theorem all_or {e : Expr} {es : List Expr} {b' : Bool} (he : TvOk c e V b V) (hr : b = false → AllOk c .Or es V b' V) : AllOk c .Or (e :: es) V (b || b') V := by
  intro s Q E I h
  refine wpAny_allTrue_Or_cons (he s _ E I fun s1 I1 t1 => ?_)
  cases b with
  | true => exact h s1 I1 t1
  | false => exact hr rfl s1 Q E I1 fun s2 I2 t2 => h s2 I2 (t1.trans t2)
theorem tv_boolop {op : BoolOp} {es : List Expr} {pos : Pos} (h : AllOk c op es V b V') : TvOk c (.BoolOp op es pos) V b V' := fun s Q E I k => wpAny_isTrue_BoolOp (h s Q E I k)
theorem ev_bin {l r : Expr} {op : Operator} {pos : Pos} {x : PV} (ok : c.Ok) (hl : EvOk c l V p V1) (hr : EvOk c r V1 q V2) (e : binP op p q = some (x, P)) (hP : AllP P) : EvOk c (.BinOp l op r pos) V x V2 := by
  intro s Q E I h
  refine wpAny_BinOp (hl s _ E I fun s1 v I1 t1 i1 => hr s1 _ E I1 fun s2 u I2 t2 i2 => ?_)
  exact bin_sound (N := c.N) I2.live e hP (i1.st ok t2) i2 fun s3 y t3 iy => h _ _ (I2.keep ok t3.keep) ((t1.trans t2).trans t3.all) iy
/-! ### statements -/
theorem store_name {x : Str} {v : Value} {s : Shared} {Q : Unit → Shared → Prop} {E : Value → Shared → Prop} (ok : c.Ok) (hk : c.env.kindOf x = some .local) (I : Inv c V s) (i : Is c.T c.ρ s.heap p v)
    (h : ∀ s', Inv c { V with loc := put x p V.loc } s' → St c.N c.muts s s' → Q () s') : wpAny c.M c.A (storeName c.env x v) Q E s := by
  obtain ⟨m, hn, hl⟩ := I.rep.ns
  rw [storeName_local hk (by rw [ok.kind]; rfl), ok.loc]
  refine nsSet_frame hn fun h' hn' hs => ?_
  obtain ⟨oL, hoL, _⟩ := hn'.cls
  have kL : Keep c.N [c.L] s.heap h' := .sameBut hs hoL (.head _)
  refine h _ ⟨I.rep.store ok.fx hl i hn' hs, I.base.keep (T := [c.L]) ok.lowK (fun b hb => ?_) ok.lo kL, fun b hb => let ⟨o, e⟩ := I.live b hb; kL.there b o e, I.frs.one kL (.inr ⟨_, hn'⟩)⟩ ⟨kL.sub fun b hb => ?_, .refl _, rfl⟩
  · rcases List.mem_singleton.mp hb with rfl; exact ok.fx.low _ (ok.fx.mem _ (.head _))
  · rcases List.mem_singleton.mp hb with rfl; exact .head _
theorem sx_assign {x : Str} {e : Expr} {pos' pos : Pos} (ok : c.Ok) (hk : c.env.kindOf x = some .local) (he : EvOk c e V p V1) (hc : notComp e = true) : SxOk c (.Assign [.Name x pos'] e pos) V .next { V1 with loc := put x p V1.loc } := by
  intro s Q E I h
  refine wpAny_Assign_Name (he s _ E I fun s1 v I1 t1 i1 => store_name ok hk I1 i1 fun s2 I2 t2 => h s2 _ I2 (t1.trans t2) rfl) (swaps_no hc)
theorem sx_aug {x : Str} {e : Expr} {pos' pos : Pos} {r : PV} (ok : c.Ok) (hk : c.env.kindOf x = some .local) (hx : V.loc.lookup x = some p) (he : EvOk c e V q V1) (ha : addP p q = some (r, P)) (hP : AllP P) : SxOk c (.AugAssign (.Name x pos') .Add e pos) V .next { V1 with loc := put x r V1.loc } := by
  intro s Q E I h
  obtain ⟨m, hn, hl⟩ := I.rep.ns
  obtain ⟨v, e0, i⟩ := hl x p hx
  refine wpAny_AugAssign_Name (wpAny_loadName_local ok.kind hk (by rw [ok.loc]; exact hn.ns) e0 (he s _ E I fun s1 u I1 t1 i1 => iadd_sound ha hP (i.st ok t1) i1 fun tk y iy => ?_))
  exact store_name ok hk (I1.toks tk) iy fun s2 I2 t2 => h s2 _ I2 ((t1.trans (.toks tk)).trans t2) rfl
/-- a name that the class lets be stored in the instance -/
noncomputable def setOk (K : Frag) (C : Addr) (n : Str) : Bool := findIn K (.ref C) "__setattr__" == some (some (.builtin "object.__setattr__")) && plainOver K C && takerIn K C n == some none && hasDictIn K C
theorem set_attr {n : Str} {v : Value} {k : Nat} {C : Addr} {att : List (Str × PV)} {a d : Addr} {s : Shared} {Q : Unit → Shared → Prop} {E : Value → Shared → Prop} (ok : c.Ok) (I : Inv c V s) (hr : c.ρ[k]? = some (a, d)) (ho : V.objs[k]? = some (.inst C att)) (hs : setOk c.K C n = true) (hz : att.length ≤ 900)
    (i : Is c.T c.ρ s.heap p v) (h : ∀ s', Inv c { V with objs := V.objs.set k (.inst C (put n p att)) } s' → St c.N c.muts s s' → Q () s') : wpAny c.M c.A (setAttr (.ref a) n v) Q E s := by
  obtain ⟨a', dx, es, n', e1, na, ea, ed, m⟩ := I.rep.objs k _ ho
  rw [hr] at e1; cases e1
  obtain ⟨h123, h4⟩ := Bool.and_eq_true_iff.mp hs
  obtain ⟨h12, h3⟩ := Bool.and_eq_true_iff.mp h123
  obtain ⟨h1, h2⟩ := Bool.and_eq_true_iff.mp h12
  have hl : (getL n es).isSome = true := by
    have g := m.get (x := n)
    cases hq : att.lookup n with
    | none => rw [g.2 hq]; rfl
    | some p => obtain ⟨v, e, _⟩ := g.1 p hq; rw [e]; rfl
  have dT : d ∈ c.T := ok.fx.mem d (muts_at hr)
  refine set_at I.base.k ea ed (beq_iff_eq.mp h1) h2 (beq_iff_eq.mp h3) h4 hl ?_ fun h' sb ed' => ?_
  · have : ∀ (es : List DictEntry) (x : Str) (hs : Int) (ky vv : Value), (putL x hs ky vv es).length ≤ es.length + 1 := by
      intro es x hs ky vv
      induction es with
      | nil => simp [putL]
      | cons e r ih => unfold putL; split <;> simp <;> omega
    have := this es n (PyData.keyHash c.w.params n) (.str n (s.toks + 1)) v
    have := m.length
    omega
  · have kT : Keep c.N c.T s.heap h' := .sameBut sb ed' dT
    have kd : Keep c.N [d] s.heap h' := .sameBut sb ed' (.head _)
    have nad : a ≠ d := fun q => na (q ▸ dT)
    refine h _ ⟨I.rep.change ok.fx hr sb ⟨a, d, _, _, hr, na, (sb.2 a nad).trans ea, ed', (m.put i).keep kT⟩, I.base.keep (T := [d]) ok.lowK (fun b hb => ?_) ok.lo kd, fun b hb => let ⟨o, e⟩ := I.live b hb; kd.there b o e, I.frs.one kd (.inl ⟨_, ed, show Value.type "dict" ≠ Value.type "frame" by decide⟩)⟩ ⟨kd.sub fun b hb => ?_, .refl _, rfl⟩
    · rcases List.mem_singleton.mp hb with rfl; exact ok.fx.low _ dT
    · rcases List.mem_singleton.mp hb with rfl; exact muts_at hr
theorem sx_setattr {y n : Str} {e : Expr} {py pos' pos : Pos} {k : Nat} {C : Addr} {att : List (Str × PV)} (ok : c.Ok) (he : EvOk c e V p V1) (hy : EvOk c (.Name y py) V1 (.o k) V1) (ho : V1.objs[k]? = some (.inst C att)) (hs : setOk c.K C n = true) (hz : att.length ≤ 900) (hc : notComp e = true) :
    SxOk c (.Assign [.Attribute (.Name y py) n pos'] e pos) V .next { V1 with objs := V1.objs.set k (.inst C (put n p att)) } := by
  intro s Q E I h
  refine plainObj_wpAny_Assign_Attribute (he s _ E I fun s1 v I1 t1 i1 => hy s1 _ E I1 fun s2 u I2 t2 i2 => ?_) (swaps_no hc)
  cases i2 with
  | o e => exact set_attr ok I2 e ho hs hz (i1.st ok t2) fun s3 I3 t3 => h s3 _ I3 ((t1.trans t2).trans t3) rfl
theorem get_attr {n : Str} {k : Nat} {C : Addr} {att : List (Str × PV)} {a d : Addr} {s : Shared} {Q E : Value → Shared → Prop} {ex : Bool} (ok : c.Ok) (I : Inv c V s) (hr : c.ρ[k]? = some (a, d)) (ho : V.objs[k]? = some (.inst C att)) (ha : attrOk c.K C n = true) (hp : att.lookup n = some p) (hh : handedP p = true)
    (h : ∀ v tk, Is c.T c.ρ s.heap p v → Q v { s with toks := tk }) : wpAny c.M c.A (getAttr (.ref a) n ex) Q E s := by
  obtain ⟨a', dx, es, n', e1, na, ea, ed, m⟩ := I.rep.objs k _ ho
  rw [hr] at e1; cases e1
  obtain ⟨u, g1, g2⟩ := m.get.1 p hp
  obtain ⟨h12, h3⟩ := Bool.and_eq_true_iff.mp ha
  obtain ⟨h1, h2⟩ := Bool.and_eq_true_iff.mp h12
  have IA : InstAt s.heap a ⟨.ref C, some d, .plain, #[]⟩ C (some (dictOf es n')) := ⟨ea, rfl, rfl, ed⟩
  generalize hf : findIn c.K (.ref C) n = r at h3
  cases r with
  | none => cases h3
  | some r => exact get_value I.base.k IA (plainGet_of h1).1 (findObj_own h2 hf h3 g1) (handed_is g2 hh) (h _ _ g2)
theorem sx_augattr {y n : Str} {e : Expr} {py pos' pos : Pos} {k : Nat} {C : Addr} {att : List (Str × PV)} {r : PV} (ok : c.Ok) (hy : EvOk c (.Name y py) V (.o k) V) (ho : V.objs[k]? = some (.inst C att)) (ha : attrOk c.K C n = true) (hp : att.lookup n = some p) (hh : handedP p = true) (he : EvOk c e V q V)
    (hadd : addP p q = some (r, P)) (hP : AllP P) (hs : setOk c.K C n = true) (hz : att.length ≤ 900) : SxOk c (.AugAssign (.Attribute (.Name y py) n pos') .Add e pos) V .next { V with objs := V.objs.set k (.inst C (put n r att)) } := by
  intro s Q E I h
  refine wpAny_AugAssign_AttributeAny (hy s _ E I fun s1 u I1 t1 i1 => ?_)
  cases i1 with
  | o e1 =>
    refine get_attr ok I1 e1 ho ha hp hh fun v tk iv => ?_
    refine he _ _ E (I1.toks tk) fun s2 u2 I2 t2 i2 => ?_
    refine iadd_sound hadd hP (Is.st (s := { s1 with toks := tk }) ok iv t2) i2 fun tk2 x ix => ?_
    exact set_attr ok (I2.toks tk2) e1 ho hs hz ix fun s3 I3 t3 => h s3 _ I3 ((((t1.trans (.toks tk)).trans t2).trans (.toks tk2)).trans t3) rfl
theorem sx_if {t : Expr} {bd el : List Stmt} {pos : Pos} {f : PF} (ht : TvOk c t V b V1) (h : ExOk c (if b then bd else el) V1 f V2) : SxOk c (.If t bd el pos) V f V2 := by
  intro s Q E I k
  refine wpAny_If (ht s _ E I fun s1 I1 t1 => ?_)
  cases b <;> exact h s1 Q E I1 fun s2 fl I2 t2 hf => k s2 fl I2 (t1.trans t2) hf
theorem sx_return {e : Expr} {pos : Pos} (he : EvOk c e V p V1) : SxOk c (.Return (some e) pos) V (.ret p) V1 := fun s Q E I k => wpAny_Return_some (he s _ E I fun s1 v I1 t1 i1 => k s1 _ I1 t1 ⟨v, rfl, i1⟩)
theorem sx_return0 {pos : Pos} : SxOk c (.Return none pos) V (.ret (.v .none)) V := fun s Q E I k => wpAny_Return_none (k s _ I (.refl s) ⟨_, rfl, .v _⟩)
theorem sx_break {pos : Pos} : SxOk c (.Break pos) V .brk V := fun s Q E I k => wpAny_Break (k s _ I (.refl s) rfl)
theorem sx_continue {pos : Pos} : SxOk c (.Continue pos) V .cont V := fun s Q E I k => wpAny_Continue (k s _ I (.refl s) rfl)
theorem sx_pass {pos : Pos} : SxOk c (.Pass pos) V .next V := fun s Q E I k => wpAny_Pass (k s _ I (.refl s) rfl)
theorem sx_expr {e : Expr} {pos : Pos} (ok : c.Ok) (he : EvOk c e V p V1) (hc : notComp e = true) : SxOk c (.Expr e pos) V .next V1 := fun s Q E I k => wpAny_Expr_any (he s _ E I fun s1 v I1 t1 i1 => k s1 _ I1 t1 rfl) (by unfold interactive; rw [ok.kind]; rfl) (swaps_no hc)
theorem ex_nil : ExOk c [] V .next V := fun s Q E I k => wpAny_execs_nil (k s _ I (.refl s) rfl)
theorem ex_cons {st : Stmt} {r : List Stmt} {f : PF} (h1 : SxOk c st V .next V1) (h2 : ExOk c r V1 f V2) : ExOk c (st :: r) V f V2 := by
  intro s Q E I k
  refine wpAny_execs_cons (h1 s _ E I fun s1 fl I1 t1 hf => ?_)
  cases hf
  exact h2 s1 Q E I1 fun s2 fl I2 t2 hf => k s2 fl I2 (t1.trans t2) hf
theorem ex_stop {st : Stmt} {r : List Stmt} {f : PF} (h1 : SxOk c st V f V1) (hn : f ≠ .next) : ExOk c (st :: r) V f V1 := by
  intro s Q E I k
  refine wpAny_execs_cons (h1 s _ E I fun s1 fl I1 t1 hf => ?_)
  have := k s1 fl I1 t1 hf
  cases f with
  | next => exact absurd rfl hn
  | brk => cases hf; exact this
  | cont => cases hf; exact this
  | ret p => obtain ⟨v, rfl, _⟩ := hf; exact this
end
end M4
section M5
section
variable {c : Fc} {V V1 V2 V' V'' : View} {p q r : PV} {P : List Prop} {b : Bool}
/-! ### calls -/
noncomputable def ObjsOk (T : List Addr) (ρ : List (Addr × Addr)) (objs : List PO) (h : Heap) : Prop := ∀ k po, objs[k]? = some po → ObjAt T ρ h k po
noncomputable def mutsOf (ρ : List (Addr × Addr)) : List Addr := ρ.map (·.2)
/-- a call that turns nothing that stood but the numbered objects: it gives r of these -/
noncomputable def CallOk (c : Fc) (f : Value) (args : List PV) (objs : List PO) (r : PV) (objs' : List PO) : Prop :=
  ∀ (s : Shared) (vs : List Value) (Q E : Value → Shared → Prop), Base c.K c.N s.heap → (∀ b ∈ c.T, ∃ o, s.heap.get? b = some o) → Frs c.N c.A s.heap → ObjsOk c.T c.ρ objs s.heap → IsL c.T c.ρ s.heap args vs →
    (∀ s' v, St c.N (mutsOf c.ρ) s s' → Base c.K c.N s'.heap → Frs c.N c.A s'.heap → ObjsOk c.T c.ρ objs' s'.heap → Is c.T c.ρ s'.heap r v → Q v s') → wpAny c.M c.A (call f vs) Q E s
/-- .. by its code -/
noncomputable def CodeOk (c : Fc) (f : Value) (args : List PV) (objs : List PO) (r : PV) (objs' : List PO) : Prop :=
  ∀ (s : Shared) (vs : List Value) (R : Result → Shared → Prop), Base c.K c.N s.heap → (∀ b ∈ c.T, ∃ o, s.heap.get? b = some o) → Frs c.N c.A s.heap → ObjsOk c.T c.ρ objs s.heap → IsL c.T c.ρ s.heap args vs →
    (∀ s' v, St c.N (mutsOf c.ρ) s s' → Base c.K c.N s'.heap → Frs c.N c.A s'.heap → ObjsOk c.T c.ρ objs' s'.heap → Is c.T c.ρ s'.heap r v → R (.ok (.ret v)) s') → codeAny c.M c.A (.call f ⟨vs, []⟩) R s
theorem CodeOk.call {c : Fc} {f : Value} {args : List PV} {objs objs' : List PO} {r : PV} (h : CodeOk c f args objs r objs') : CallOk c f args objs r objs' := fun s vs Q E B l F O i k => wpAny_call (h s vs _ B l F O i fun s' v t B' F' O' i' => k s' v t B' F' O' i')
theorem mutsOf_sub {L : Addr} {ρ : List (Addr × Addr)} : ∀ b ∈ mutsOf ρ, b ∈ muts L ρ := fun b h => .tail _ h
theorem Inv.called {c : Fc} {V : View} {s s' : Shared} {objs' : List PO} (ok : c.Ok) (I : Inv c V s) (st : St c.N (mutsOf c.ρ) s s') (B : Base c.K c.N s'.heap) (F : Frs c.N c.A s'.heap) (O : ObjsOk c.T c.ρ objs' s'.heap) : Inv c { V with objs := objs' } s' := by
  have nd := List.nodup_cons.mp ok.fx.nodup
  obtain ⟨m, hn, hl⟩ := I.rep.ns
  refine ⟨⟨⟨m, st.keep.frame nd.1 hn, fun x p e => ?_⟩, O⟩, B, fun b hb => let ⟨o, e⟩ := I.live b hb; st.keep.there b o e, F⟩
  obtain ⟨v, e1, e2⟩ := hl x p e
  exact ⟨v, e1, e2.keep (st.keep.sub fun b hb => ok.fx.mem b (mutsOf_sub b hb))⟩
noncomputable def ArgsOk (c : Fc) (es : List Expr) (V : View) (ps : List PV) (V' : View) : Prop :=
  ∀ (s : Shared) (pos : Pos) (Q : List Value → Shared → Prop) (E : Value → Shared → Prop), Inv c V s → (∀ s' vs, Inv c V' s' → St c.N c.muts s s' → IsL c.T c.ρ s'.heap ps vs → Q vs s') → wpAny c.M c.A (spliced (backTo pos (starEach es c.env))) Q E s
noncomputable def noStar : Expr → Bool
  | .Starred .. => false
  | _ => true
theorem starEach_cons {e : Expr} {es : List Expr} {env : Env} (h : noStar e = true) : starEach (e :: es) env = (false, eval e env) :: starEach es env := by
  cases e <;> first | rfl | exact nof h
theorem args_nil : ArgsOk c [] V [] V := fun s pos Q E I h => Calls.spliced_nil (h s [] I (.refl s) .nil)
theorem args_cons {e : Expr} {es : List Expr} {ps : List PV} (ok : c.Ok) (he : EvOk c e V p V1) (hr : ArgsOk c es V1 ps V2) (hs : noStar e = true) : ArgsOk c (e :: es) V (p :: ps) V2 := by
  intro s pos Q E I h
  rw [starEach_cons hs]
  exact Calls.spliced_cons (he s _ E I fun s1 v I1 t1 i1 => hr s1 pos _ E I1 fun s2 vs I2 t2 i2 => h s2 _ I2 (t1.trans t2) (.cons (i1.st ok t2) i2))
theorem starEach_any : ∀ {es : List Expr} {env : Env} {pos : Pos}, es.all noStar = true → (backTo pos (starEach es env)).any (·.1) = false
  | [], _, _, _ => rfl
  | e :: es, env, pos, h => by
    rw [List.all_cons, Bool.and_eq_true] at h
    rw [starEach_cons h.1]
    show (false || (backTo pos (starEach es env)).any (·.1)) = false
    rw [starEach_any h.2]; rfl
/-- a method of the machine's own, bound to its object -/
noncomputable def dataF : Data → Bool
  | .fields _ => true
  | _ => false
theorem dataF_is {d : Data} (h : dataF d = true) : ∃ vs, d = .fields vs := by
  cases d with
  | fields vs => exact ⟨vs, rfl⟩
  | _ => exact nof h
noncomputable def boundIn (K : Frag) (a : Addr) : Bool := match K.lookup a with
  | some o => o.cls == .type "builtin_function_or_method" && dataF o.data
  | none => false
theorem boundIn_is {K : Frag} {a : Addr} (h : boundIn K a = true) : ∃ d vs sl, K.lookup a = some ⟨.type "builtin_function_or_method", d, .fields vs, sl⟩ := by
  unfold boundIn at h
  cases e : K.lookup a with
  | none => rw [e] at h; exact nof h
  | some o =>
    rw [e] at h
    obtain ⟨cls, dict, data, sl⟩ := o
    obtain ⟨h1, h2⟩ := Bool.and_eq_true_iff.mp h
    obtain ⟨vs, rfl⟩ := dataF_is h2
    cases beq_iff_eq.mp h1
    exact ⟨_, _, _, rfl⟩
/-- a callee that its frame or the machine keeps -/
noncomputable def keepOk (K : Frag) : Value → Bool
  | .ref a => keepIn K (.ref a) || boundIn K a
  | .builtin _ => true
  | .type _ => true
  | _ => false
theorem keeps_ok {M : Model} {K : Frag} {f : Value} (hk : keepOk K f = true) (h : Heap) (X : K.In h) : ∃ k, (k = Keeper.frame ∨ k = Keeper.machine ∨ k = Keeper.boundFrame) ∧ Looks M h (keeperOf f) k := by
  cases f with
  | ref a =>
    rcases Bool.or_eq_true_iff.mp hk with hk | hk
    · exact keeps_K (K := K) (f := .ref a) hk h X
    · obtain ⟨_, _, _, e⟩ := boundIn_is hk
      exact ⟨.machine, .inr (.inl rfl), (Looks.ld (part := none) (X _ _ e)).andThen .now⟩
  | builtin _ => exact ⟨.machine, .inr (.inl rfl), .now⟩
  | type _ => exact ⟨.machine, .inr (.inl rfl), .now⟩
  | _ => exact nof hk
theorem evalArgs_any {M : Model} {A : Around} {E : Value → Shared → Prop} {s : Shared} {f : Value} {args : List (Bool × Sem Value)} {Q : Args → Shared → Prop} (hn : args.any (·.1) = false) (h : wpAny M A (spliced args) (fun vs s' => Q ⟨vs, []⟩ s') E s) : wpAny M A (evalArgs f true args []) Q E s := by
  cases args with
  | nil =>
    unfold evalArgs
    show wpAny M A (spliced [] >>= _) Q E s
    refine wpAny_bind (wpAny_mono h (fun vs s' h' => ?_) fun _ _ x => x)
    refine wpAny_bind (wpAny_pure ?_)
    refine wpAny_holding ?_
    exact wpAny_bind (wpAny_pure (wpAny_bind (wpAny_pure (wpAny_pure h'))))
  | cons x r =>
    obtain ⟨b, x⟩ := x
    cases b with
    | true => cases hn
    | false => exact Calls.evalArgs_plain h
theorem callWith_ok {f : Value} {first : List Value} {es : List Expr} {ps : List PV} {pos : Pos} {s : Shared} {Q E : Value → Shared → Prop} (hk : keepOk c.K f = true) (hs : es.all noStar = true) (ha : ArgsOk c es V ps V1) (I : Inv c V s)
    (h : ∀ s' vs, Inv c V1 s' → St c.N c.muts s s' → IsL c.T c.ρ s'.heap ps vs → wpAny c.M c.A (call f (first ++ vs)) Q E s') : wpAny c.M c.A (callWith pos f first (backTo pos (starEach es c.env)) []) Q E s := by
  refine callWith_of (P := c.K.In) (by rw [starEach_any hs]; rfl) (keeps_ok hk) (evalArgs_any (starEach_any hs) ?_)
  exact ha s pos _ E I fun s' vs I' t' i' => ⟨I'.base.k, h s' vs I' t' i'⟩
theorem ev_call {x : Str} {px pos : Pos} {es : List Expr} {ps : List PV} {f : Value} (ok : c.Ok) (hx : EvOk c (.Name x px) V (.v f) V) (hk : keepOk c.K f = true) (hs : es.all noStar = true) (ha : ArgsOk c es V ps V1) {objs' : List PO} (hc : CallOk c f ps V1.objs r objs') : EvOk c (.Call (.Name x px) es [] pos) V r { V1 with objs := objs' } := by
  intro s Q E I h
  refine wpAny_Call_NameR (hx s _ E I fun s1 v I1 t1 i1 => ?_)
  cases i1
  refine callWith_ok hk hs ha I1 fun s2 vs I2 t2 i2 => ?_
  exact hc s2 vs Q E I2.base I2.live I2.frs I2.rep.objs i2 fun s3 v t3 B3 F3 O3 i3 => h s3 v (I2.called ok t3 B3 F3 O3) ((t1.trans t2).trans (t3.sub mutsOf_sub)) i3
/-- a method that stands in the class as a def -/
noncomputable def methOk (K : Frag) (C : Addr) (n : Str) (f : Addr) : Bool := plainGet K C n && findIn K (.ref C) n == some (some (.ref f)) && isFn K (.ref f)
theorem mc_eq {o : Expr} {name : Str} {apos pos : Pos} {args : List Expr} {env : Env} (hb : attributeBase o name env (eval o env) = eval o env) (hl : (apos.endLine == pos.line) = true) (hs : args.all noStar = true) (hn : args.length < 30) :
    eval (.Call (.Attribute o name apos) args [] pos) env = (do
      let ov ← eval o env
      standAt apos.atName
      let (f, first) ← holding [ov] (getMethod ov name (do return (← importBound o env).getD true))
      callWith pos f first (backTo pos (starEach args env)) []) := by
  rw [arm_eval_Call, hb]
  have hf : methodCallForm (args.length + ([] : List Keyword).length) (backTo pos (starEach args env)) (backToKw pos (keywordEach [] env)) = true := by
    unfold methodCallForm
    have : (backTo pos (starEach args env)).all (fun x => !x.1) = true := by
      have := starEach_any (env := env) (pos := pos) hs
      rw [List.all_eq_not_any_not]
      simpa using this
    rw [this]
    show (true && true && decide (args.length + 0 + 0 < 30)) = true
    simp; omega
  unfold methodCall
  simp only [hf, calleeOf, methodCallPos, if_true, hl, Bool.or_true, Bool.not_true]
  rfl
theorem base_name {x : Str} {px : Pos} {name : Str} {env : Env} {t : Sem Value} : attributeBase (.Name x px) name env t = t := rfl
theorem get_meth {n : Str} {k : Nat} {C f : Addr} {att : List (Str × PV)} {a d : Addr} {s : Shared} {Q : Value × List Value → Shared → Prop} {E : Value → Shared → Prop} {pl : Sem Bool} (I : Inv c V s) (hr : c.ρ[k]? = some (a, d)) (ho : V.objs[k]? = some (.inst C att)) (hm : methOk c.K C n f = true) (hn : att.lookup n = none)
    (h : Q (.ref f, [.ref a]) s) : wpAny c.M c.A (getMethod (.ref a) n pl) Q E s := by
  obtain ⟨a', dx, es, n', e1, na, ea, ed, m⟩ := I.rep.objs k _ ho
  rw [hr] at e1; cases e1
  obtain ⟨h12, h3⟩ := Bool.and_eq_true_iff.mp hm
  obtain ⟨h1, h2⟩ := Bool.and_eq_true_iff.mp h12
  have IA : InstAt s.heap a ⟨.ref C, some d, .plain, #[]⟩ C (some (dictOf es n')) := ⟨ea, rfl, rfl, ed⟩
  exact method_fn I.base.k IA (plainGet_of h1).1 (plainGet_of h1).2 (beq_iff_eq.mp h2) (beq_iff_eq.mp h3) (by show (lookIn n (dictOf es n')).map _ = _; rw [lookIn_dict, m.get.2 hn]; rfl) h
theorem ev_meth {b : Expr} {n : Str} {apos pos : Pos} {es : List Expr} {ps : List PV} {k : Nat} {C f : Addr} {att : List (Str × PV)} (hb : attributeBase b n c.env (eval b c.env) = eval b c.env) (ok : c.Ok) (hy : EvOk c b V (.o k) V1) (ho : V1.objs[k]? = some (.inst C att)) (hm : methOk c.K C n f = true) (hn : att.lookup n = none) (hk : keepOk c.K (.ref f) = true)
    (hl : (apos.endLine == pos.line) = true) (hs : es.all noStar = true) (h30 : es.length < 30) (ha : ArgsOk c es V1 ps V2) {objs' : List PO} (hc : CallOk c (.ref f) (.o k :: ps) V2.objs r objs') : EvOk c (.Call (.Attribute b n apos) es [] pos) V r { V2 with objs := objs' } := by
  intro s Q E I h
  rw [mc_eq hb hl hs h30]
  refine wpAny_bind (hy s _ E I fun s1 v I1 t1 i1 => wpAny_bind (wpAny_standAt (wpAny_bind (wpAny_holding ?_))))
  cases i1 with
  | o e =>
    refine get_meth I1 e ho hm hn ?_
    refine callWith_ok hk hs ha I1 fun s2 vs I2 t2 i2 => ?_
    exact hc s2 _ Q E I2.base I2.live I2.frs I2.rep.objs (.cons (.o e) i2) fun s3 v t3 B3 F3 O3 i3 => h s3 v (I2.called ok t3 B3 F3 O3) ((t1.trans t2).trans (t3.sub mutsOf_sub)) i3
/-- a property that stands in the class -/
noncomputable def headRef : List Value → Option Addr
  | .ref f :: _ => some f
  | _ => none
theorem headRef_is {l : List Value} {f : Addr} (h : headRef l = some f) : ∃ r, l = .ref f :: r := by
  cases l with
  | nil => exact no h
  | cons v r =>
    cases v with
    | ref a => cases h; exact ⟨r, rfl⟩
    | _ => exact no h
noncomputable def propOk (K : Frag) (C : Addr) (n : Str) (pr fget : Addr) : Bool := plainGet K C n && (clsIn K C).isSome && findIn K (.ref C) n == some (some (.ref pr)) && specialIn K (.ref pr) "__get__" == some (some (.builtin "property.__get__")) && takesIn K (.ref pr) == some true && ((recIn K pr "property").bind headRef) == some fget
theorem ev_prop {y n : Str} {py pos : Pos} {k : Nat} {C pr f : Addr} {att : List (Str × PV)} (ok : c.Ok) (hy : EvOk c (.Name y py) V (.o k) V) (ho : V.objs[k]? = some (.inst C att)) (hp : propOk c.K C n pr f = true) (hh : handedP r = true) (hc : CodeOk { c with A := c.A.in1 } (.ref f) [.o k] V.objs r V.objs) :
    EvOk c (.Attribute (.Name y py) n pos) V r V := by
  intro s Q E I h
  refine Attribute_Name_ (hy s _ E I fun s' v I' st i => ?_)
  obtain ⟨a, dx, es, n', e1, na, ea, ed, m⟩ := I'.rep.objs k _ ho
  cases i with
  | o e =>
    have e0 := e
    rw [e1] at e; cases e
    unfold propOk at hp
    simp only [Bool.and_eq_true] at hp
    obtain ⟨⟨⟨⟨⟨h1, h2⟩, h3⟩, h4⟩, h5⟩, h6⟩ := hp
    have IA : InstAt s'.heap a ⟨.ref C, some dx, .plain, #[]⟩ C (some (dictOf es n')) := ⟨ea, rfl, rfl, ed⟩
    obtain ⟨l, hr, h6⟩ := ob (beq_iff_eq.mp h6)
    obtain ⟨rest, rfl⟩ := headRef_is h6
    · refine get_bind I'.base.k IA (plainGet_of h1).1 (findObj_data h2 (beq_iff_eq.mp h3) (beq_iff_eq.mp h4) (beq_iff_eq.mp h5)) (plainGet_of h1).2 (wpAny_call (prop_get (s := { s' with toks := s'.toks + 1 }) I'.base.k hr ?_))
      refine hc { s' with toks := s'.toks + 1 } [.ref a] _ I'.base I'.live I'.frs I'.rep.objs (.cons (.o e0) .nil) fun s2 v t2 B2 F2 O2 i2 => ?_
      show wpAny c.M c.A (handedOut v) Q E s2
      rw [handedOut_of (handed_is i2 hh)]
      exact wpAny_pure (h s2 v ((I'.toks _).called ok t2 B2 F2 O2) ((st.trans (.toks _)).trans (t2.sub mutsOf_sub)) i2)
/-! ### displays -/
theorem fresh_get (h : Heap) : h.get? h.objs.size = none := by
  cases q : h.get? h.objs.size with
  | none => rfl
  | some o => exact absurd (Heap.lt_size q) (Nat.lt_irrefl _)
theorem Inv.pushed {s : Shared} {V : View} (ok : c.Ok) (I : Inv c V s) (o : Obj) (tk : Nat) : Inv c V { s with heap := s.heap.push o, toks := tk } := I.keep (s' := { s with heap := s.heap.push o, toks := tk }) ok (.push _ _)
theorem St.pushed {N : Nat} {F : List Addr} {s : Shared} (o : Obj) (tk : Nat) : St N F s { s with heap := s.heap.push o, toks := tk } := ⟨.push _ _, .refl _, rfl⟩
theorem fresh_notT {s : Shared} {V : View} (I : Inv c V s) : s.heap.objs.size ∉ c.T := fun hb => by
  obtain ⟨o, e⟩ := I.live _ hb
  rw [fresh_get] at e; cases e
theorem ev_tuple {es : List Expr} {ps : List PV} {k : Nat} {pos : Pos} (ok : c.Ok) (ha : ArgsOk c es V ps V1) (hz : ps.length ≤ 1000) : EvOk c (.Tuple es k pos) V (.t ps) V1 := by
  intro s Q E I h
  refine Tuple_ (ha s pos _ E I fun s1 vs I1 t1 i1 => ?_)
  have hl := i1.length
  refine wpAny_newObj_type ?_ (by show vs.toArray.size ≤ sizeLine; rw [List.size_toArray, sizeLine_eq]; omega)
  exact h _ _ (I1.pushed ok _ _) (t1.trans (.pushed _ _)) (.t (fresh_notT I1) (Heap.get?_push_size _ rfl) rfl rfl (by simpa using i1.keep (.push (N := c.N) _ _)))
theorem ev_list {es : List Expr} {ps : List PV} {pos : Pos} (ok : c.Ok) (ha : ArgsOk c es V ps V1) (hz : ps.length ≤ 1000) : EvOk c (.List es pos) V (.l ps) V1 := by
  intro s Q E I h
  refine List_ (ha s pos _ E I fun s1 vs I1 t1 i1 => ?_)
  have hl := i1.length
  refine wpAny_newObj_type ?_ (by show vs.toArray.size ≤ sizeLine; rw [List.size_toArray, sizeLine_eq]; omega)
  exact h _ _ (I1.pushed ok _ _) (t1.trans (.pushed _ _)) (.l (fresh_notT I1) (Heap.get?_push_size _ rfl) rfl rfl (by simpa using i1.keep (.push (N := c.N) _ _)))
/-! ### texts -/
/-! ### items, slices -/
noncomputable def idxP (p : PV) (k : Int) : VP := match p with
  | .l xs => some (xs.getD k.toNat (.v .none), [0 ≤ k, k < (xs.length : Int), Ln xs])
  | .t xs => some (xs.getD k.toNat (.v .none), [0 ≤ k, k < (xs.length : Int), Ln xs])
  | .r xs => some (xs.getD (-k - 1).toNat (.v .none), [k < 0, -k ≤ (xs.length : Int), Ln xs])
  | _ => none
noncomputable def plainIdx : Expr → Bool
  | .Constant .. => true
  | .UnaryOp .. => true
  | .Name .. => true
  | .BinOp .. => true
  | _ => false
theorem getD_at {T : List Addr} {ρ : List (Addr × Addr)} {h : Heap} {xs : List PV} {vs : List Value} (i : IsL T ρ h xs vs) {k : Nat} (hk : k < xs.length) : ∃ y, vs[k]? = some y ∧ Is T ρ h (xs.getD k (.v .none)) y := by
  have e : xs[k]? = some (xs.getD k (.v .none)) := by rw [List.getD_eq_getElem?_getD, List.getElem?_eq_getElem hk]; rfl
  exact i.get e
section
variable {value slice : Expr} {k : Int} {t : Tok} {v : Value} {s : Shared} {Q E : Value → Shared → Prop} {T T0 : List Addr} {ρ : List (Addr × Addr)} {prog : Program} {w : World} {A : Around} {a : Addr} {ob : Obj} {vs : Array Value} {n : Nat} {xs : List PV}
theorem sub_plain (hs : plainIdx slice = true) (a : Addr) : subscripted slice false (.ref a) (.int k t) = operate [.ref a, .int k t] (getItem (.ref a) (.int k t)) := by cases slice <;> first | rfl | exact nof hs
theorem ix1 (m : Nat) : (((m + 1 : Nat) : Int) - 1).toNat = m := by omega
theorem ix2 {n m : Nat} (h : m < n) : n - 1 - m = (Int.negSucc m + n).toNat := by rw [Int.negSucc_eq]; omega
theorem ix3 {n m : Nat} (h : m < n) : -(n : Int) ≤ Int.negSucc m := by rw [Int.negSucc_eq]; omega
theorem ix5 {n m : Nat} (h : m < n) (hz : n ≤ 1000000) : -2 ^ 63 ≤ Int.negSucc m := by rw [Int.negSucc_eq]; omega
theorem ix4 {k : Int} {n : Nat} (h1 : 0 ≤ k) (h2 : k < (n : Int)) : k.toNat < n := by omega
theorem idx_l (hs : plainIdx slice = true) (z : SeqI T0 s.heap "list" v a ob vs n) (il : IsL T ρ s.heap xs vs.toList) (h1 : 0 ≤ k) (h2 : k < (xs.length : Int)) (h3 : Ln xs) (h : ∀ x, Is T ρ s.heap (xs.getD k.toNat (.v .none)) x → Q x s) : wpAny (model prog w) A (subscriptTail value slice v (.int k t)) Q E s := by
  have hl := il.length
  have z3 := h3.sz il
  obtain ⟨y, e1, e2⟩ := getD_at il (k := k.toNat) (ix4 h1 h2)
  cases z.v
  exact tail_any z.isList.typeIs slot_list_getitem.lookup (wpAny_getItem_list z.isList h1 (by omega) (by simpa using e1) (h y e2)) (sub_plain hs a)
theorem idx_t (hs : plainIdx slice = true) (z : SeqI T0 s.heap "tuple" v a ob vs n) (il : IsL T ρ s.heap xs vs.toList) (h1 : 0 ≤ k) (h2 : k < (xs.length : Int)) (h3 : Ln xs) (h : ∀ x, Is T ρ s.heap (xs.getD k.toNat (.v .none)) x → Q x s) : wpAny (model prog w) A (subscriptTail value slice v (.int k t)) Q E s := by
  have hl := il.length
  have z3 := h3.sz il
  have hh : vs.toList.length = vs.size := Array.length_toList
  rw [hh] at hl
  obtain ⟨y, e1, e2⟩ := getD_at il (k := k.toNat) (ix4 h1 h2)
  cases z.v
  refine tail_any z.isTuple.typeIs slot_tuple_getitem.lookup (getItem_tuple z.isTuple (by omega) (by omega) (j := k.toNat) ?_ (by simpa using e1) (h y e2)) (sub_plain hs a)
  unfold seqIndex?
  rw [if_neg (Int.not_lt.mpr h1)]
  exact if_pos (by simp only [Bool.and_eq_true, decide_eq_true_eq]; omega)
theorem idx_r (hs : plainIdx slice = true) (z : SeqI T0 s.heap "list" v a ob vs n) (il : IsL T ρ s.heap xs vs.toList.reverse) (h1 : k < 0) (h2 : -k ≤ (xs.length : Int)) (h3 : Ln xs) (h : ∀ x, Is T ρ s.heap (xs.getD (-k - 1).toNat (.v .none)) x → Q x s) : wpAny (model prog w) A (subscriptTail value slice v (.int k t)) Q E s := by
  obtain ⟨m, rfl⟩ : ∃ m : Nat, k = Int.negSucc m := by
    cases k with
    | ofNat m => exact absurd h1 (Int.not_lt.mpr (Int.natCast_nonneg m))
    | negSucc m => exact ⟨m, rfl⟩
  have em : (-Int.negSucc m - 1).toNat = m := by rw [Int.neg_negSucc]; exact ix1 m
  rw [em] at h
  have h2 : m < xs.length := by rw [Int.neg_negSucc] at h2; exact Int.ofNat_le.mp h2
  have hl : xs.length = vs.size := il.length.trans List.length_reverse
  have z3 : vs.size ≤ 1000000 := hl ▸ (show xs.length ≤ 1000000 from h3)
  obtain ⟨y, e1, e2⟩ := getD_at il h2
  cases z.v
  have lt : m < vs.size := hl ▸ h2
  rw [List.getElem?_reverse (by rw [Array.length_toList]; exact lt), Array.length_toList, ix2 lt] at e1
  exact tail_any z.isList.typeIs slot_list_getitem.lookup (wpAny_getItem_list_neg z.isList h1 (ix3 lt) (ix5 lt z3) (by simpa using e1) (h y e2)) (sub_plain hs a)
end
theorem idx_sound {value slice : Expr} {k : Int} {t : Tok} {v : Value} {s : Shared} {Q E : Value → Shared → Prop} {T : List Addr} {ρ : List (Addr × Addr)} {prog : Program} {w : World} {A : Around} (hs : plainIdx slice = true) (e : idxP p k = some (r, P)) (hP : AllP P) (i : Is T ρ s.heap p v) (h : ∀ x, Is T ρ s.heap r x → Q x s) :
    wpAny (model prog w) A (subscriptTail value slice v (.int k t)) Q E s := by
  cases p with
  | l xs => cases e; obtain ⟨a, _, _, _, z, il⟩ := i.il; exact idx_l hs z il hP.1 hP.2.1 hP.2.2.1 h
  | t xs => cases e; obtain ⟨a, _, _, _, z, il⟩ := i.it; exact idx_t hs z il hP.1 hP.2.1 hP.2.2.1 h
  | r xs => cases e; obtain ⟨a, _, _, _, z, il⟩ := i.ir; exact idx_r hs z il hP.1 hP.2.1 hP.2.2.1 h
  | _ => exact no e
theorem ev_item {b idx : Expr} {pos : Pos} {k : Int} (ok : c.Ok) (hb : EvOk c b V p V1) (hi : EvOk c idx V1 (.i k) V2) (hs : plainIdx idx = true) (e : idxP p k = some (r, P)) (hP : AllP P) : EvOk c (.Subscript b idx pos) V r V2 := by
  intro s Q E I h
  refine Subscript_ (hb s _ E I fun s1 v I1 t1 i1 => hi s1 _ E I1 fun s2 u I2 t2 i2 => ?_)
  obtain ⟨t, rfl⟩ := i2.ii
  exact idx_sound hs e hP (i1.st ok t2) fun x ix => h s2 x I2 (t1.trans t2) ix
theorem item_on_str {prog : Program} {w : World} {A : Around} {x : Str} {t : Tok} {i : Value} {Q E : Value → Shared → Prop} {s : Shared} (h : ItemOn (model prog w) A E (.str x t) i Q s) : wpAny (model prog w) A (getItem (.str x t) i) Q E s := let ⟨_, _, _, _, hg⟩ := h; hg
/-- a part of a slice -/
noncomputable def PartOk (c : Fc) (e : Option Expr) (V : View) (k : Option Int) : Prop :=
  ∀ (s : Shared) (Q E : Value → Shared → Prop), Inv c V s → (∀ s' v, Inv c V s' → St c.N c.muts s s' → IsPart v k → Q v s') → wpAny c.M c.A (evalPart e c.env) Q E s
theorem part_none : PartOk c none V none := fun s Q E I h => wpAny_pure (h s _ I (.refl s) .none)
theorem part_some {e : Expr} {k : Int} (he : EvOk c e V (.i k) V) : PartOk c (some e) V (some k) := fun s Q E I h => he s Q E I fun s' v I' t i => by
  obtain ⟨u, rfl⟩ := i.ii
  exact h s' _ I' t (.int _ _)
noncomputable def sliceL (xs : List PV) : Option Int → Option Int → VP
  | none, some b => some (.l (xs.take b.toNat), [0 ≤ b, Ln xs])
  | some a, none => some (.l (xs.drop a.toNat), [0 ≤ a, Ln xs])
  | _, _ => none
noncomputable def sliceR (xs : List PV) : Option Int → Option Int → VP
  | none, some b => some (.r (xs.drop (-b).toNat), [b < 0, Ln xs])
  | _, _ => none
noncomputable def sliceP (p : PV) (lo up : Option Int) : VP := match p with
  | .s x => some (.s (Txt.slice x lo up), [x.length ≤ sizeLine])
  | .l xs => sliceL xs lo up
  | .r xs => sliceR xs lo up
  | _ => none
theorem slice_list_raw {value : Expr} {sp : Pos} {lo up : Option Expr} {vl vu v : Value} {i j : Option Int} {a : Addr} {ob : Obj} {vs : Array Value} {n : Nat} {s : Shared} {T : List Addr} {Q E : Value → Shared → Prop} {prog : Program} {w : World} {A : Around} (z : SeqI T s.heap "list" v a ob vs n) (pl : IsPart vl i) (pu : IsPart vu j) (hz : vs.size ≤ sizeLine)
    (h : Q (.ref (s.heap.objs.size + 1)) { s with heap := (s.heap.push { cls := .type "slice", data := .fields #[vl, vu, .none] }).push { cls := .type "list", data := .seq (slicePick vs i j none) } }) :
    wpAny (model prog w) A (subscriptTail value (.Slice lo up none sp) v (.ref s.heap.objs.size)) Q E { s with heap := s.heap.push { cls := .type "slice", data := .fields #[vl, vu, .none] } } := by
  cases z.v
  refine tail_any (T := "list") (ops := [.ref s.heap.objs.size, .ref a]) ⟨ob, Heap.get?_push_of_some _ z.at_, z.cls⟩ list_getitem_lookup (wpAny_getItem_list_slice (sl := s.heap.objs.size) (z.isList.push _) (Heap.IsSliceOf.new ..) pl pu .none (by simp) ?_ hz) (by with_unfolding_all rfl)
  show Q (.ref (s.heap.push _).objs.size) _
  rw [Heap.size_push]
  exact h
theorem fresh1 {T : List Addr} {h : Heap} {o : Obj} (live : ∀ b ∈ T, ∃ o, h.get? b = some o) : ∀ b ∈ T, ∃ o', (h.push o).get? b = some o' := fun b hb => let ⟨o', e⟩ := live b hb; ⟨o', Heap.get?_push_of_some _ e⟩
theorem up_two {N : Nat} {s : Shared} (o o' : Obj) : St N [] s { s with heap := (s.heap.push o).push o' } := St.trans (s' := { s with heap := s.heap.push o }) (.push _) ⟨.push _ _, .refl _, rfl⟩
section
variable {value : Expr} {sp : Pos} {lo up : Option Expr} {vl vu v : Value} {i j : Option Int} {s : Shared} {T : List Addr} {ρ : List (Addr × Addr)} {N : Nat} {Q E : Value → Shared → Prop} {prog : Program} {w : World} {A : Around} {a : Addr} {ob : Obj} {vs : Array Value} {n : Nat} {ys : List PV}
theorem slice_l (live : ∀ b ∈ T, ∃ o, s.heap.get? b = some o) (pl : IsPart vl i) (pu : IsPart vu j) (h : ∀ s' x, St N [] s s' → Is T ρ s'.heap (.l ys) x → Q x s') (z : SeqI T s.heap "list" v a ob vs n) (hz : vs.size ≤ sizeLine) (il : IsL T ρ s.heap ys (slicePick vs i j none).toList) : wpAny (model prog w) A (subscriptTail value (.Slice lo up none sp) v (.ref s.heap.objs.size)) Q E { s with heap := s.heap.push { cls := .type "slice", data := .fields #[vl, vu, .none] } } := by
  refine slice_list_raw z pl pu hz (h _ _ (up_two _ _) ?_)
  have := is_new (T := T) (h := s.heap.push { cls := .type "slice", data := .fields #[vl, vu, .none] }) (n := 0) (fresh1 live) (il.keep (.push (N := 0) _ _))
  rw [Heap.size_push] at this
  simpa using this
theorem slice_r {xs : List PV} {m : Nat} (live : ∀ b ∈ T, ∃ o, s.heap.get? b = some o) (pl : IsPart vl none) (pu : IsPart vu (some (-(m : Int)))) (h : ∀ s' x, St N [] s s' → Is T ρ s'.heap (.r (xs.drop m)) x → Q x s') (z : SeqI T s.heap "list" v a ob vs n) (hz : vs.size ≤ sizeLine) (hb : 1 ≤ m) (il : IsL T ρ s.heap xs vs.toList.reverse) : wpAny (model prog w) A (subscriptTail value (.Slice lo up none sp) v (.ref s.heap.objs.size)) Q E { s with heap := s.heap.push { cls := .type "slice", data := .fields #[vl, vu, .none] } } := by
  refine slice_list_raw z pl pu hz (h _ _ (up_two _ _) ?_)
  rw [show slicePick vs none (some (-(m : Int))) none = (vs.toList.take (vs.size - m)).toArray from by
    rw [slicePick_plain]
    simp only [Option.elim, clipAt_neg _ _ hb, List.drop_zero, Nat.sub_zero]]
  have e3 : (vs.toList.take (vs.size - m)).reverse = vs.toList.reverse.drop m := by
    rw [List.drop_reverse, Array.length_toList]
  have i2 := il.drop m
  rw [← e3] at i2
  have := is_newr (T := T) (h := s.heap.push { cls := .type "slice", data := .fields #[vl, vu, .none] }) (n := 0) (fresh1 live) (i2.keep (.push (N := 0) _ _))
  rw [Heap.size_push] at this
  exact this
theorem slice_s {x : Str} {t : Tok} (pl : IsPart vl i) (pu : IsPart vu j) (hx : x.length ≤ sizeLine) (h : ∀ s' y, St N [] s s' → Is T ρ s'.heap (.s (Txt.slice x i j)) y → Q y s') : wpAny (model prog w) A (subscriptTail value (.Slice lo up none sp) (.str x t) (.ref s.heap.objs.size)) Q E { s with heap := s.heap.push { cls := .type "slice", data := .fields #[vl, vu, .none] } } := by
  have kp : KeptH fun hp => Keep N [] s.heap hp := fun hp ob k => k.trans (.push hp ob)
  have fin : ∀ h' t' k, Keep N [] s.heap h' → Q (.str (Txt.slice x i j) t') { s with heap := h', toks := k } := fun h' t' k kk => h { s with heap := h', toks := k } _ ⟨kk, .refl _, rfl⟩ (.s _ _)
  refine tail_any (T := "str") (ops := [.ref s.heap.objs.size, .str _ t]) (typeIs_str _ _ _) F.slot_str_getitem.lookup ?_ (by with_unfolding_all rfl)
  cases pl with
  | none => cases pu with
    | none => exact item_on_str (SBH.sliceItem_nn kp (.refl _) fin hx)
    | int b u => exact item_on_str (SBH.sliceItem_ns kp (.refl _) fin hx)
  | int a t => cases pu with
    | none => exact item_on_str (SBH.sliceItem_sn kp (.refl _) fin hx)
    | int b u => exact item_on_str (SBH.sliceItem_ss kp (.refl _) fin hx)
theorem sz_line {xs : List PV} {l : List Value} (h : Ln xs) (il : IsL T ρ s.heap xs l) (e : l.length = vs.size) : vs.size ≤ sizeLine := by
  have := h.sz il
  rw [e] at this
  rw [sizeLine_eq]; omega
end
theorem slice_sound {value : Expr} {sp : Pos} {lo up : Option Expr} {vl vu v : Value} {i j : Option Int} {s : Shared} {T : List Addr} {ρ : List (Addr × Addr)} {N : Nat} {Q E : Value → Shared → Prop} {prog : Program} {w : World} {A : Around} (live : ∀ b ∈ T, ∃ o, s.heap.get? b = some o) (e : sliceP p i j = some (r, P)) (hP : AllP P) (iv : Is T ρ s.heap p v) (pl : IsPart vl i) (pu : IsPart vu j)
    (h : ∀ s' x, St N [] s s' → Is T ρ s'.heap r x → Q x s') : wpAny (model prog w) A (subscriptTail value (.Slice lo up none sp) v (.ref s.heap.objs.size)) Q E { s with heap := s.heap.push { cls := .type "slice", data := .fields #[vl, vu, .none] } } := by
  cases p with
  | s x =>
    cases e
    obtain ⟨t, rfl⟩ := iv.is
    exact slice_s pl pu hP.1 h
  | l xs =>
    obtain ⟨a, ob, vs, n, z, il⟩ := iv.il
    cases i with
    | none => cases j with
      | none => exact no e
      | some b =>
        cases e
        obtain ⟨m, rfl⟩ : ∃ m : Nat, b = (m : Int) := ⟨b.toNat, (Int.toNat_of_nonneg hP.1).symm⟩
        refine slice_l live pl pu h z (sz_line hP.2.1 il Array.length_toList) ?_
        rw [slicePick_upto', Int.toNat_natCast]
        exact il.take m
    | some b => cases j with
      | some _ => exact no e
      | none =>
        cases e
        obtain ⟨m, rfl⟩ : ∃ m : Nat, b = (m : Int) := ⟨b.toNat, (Int.toNat_of_nonneg hP.1).symm⟩
        refine slice_l live pl pu h z (sz_line hP.2.1 il Array.length_toList) ?_
        rw [slicePick_from', Int.toNat_natCast]
        exact il.drop m
  | r xs =>
    obtain ⟨a, ob, vs, n, z, il⟩ := iv.ir
    cases i with
    | some _ => exact no e
    | none => cases j with
      | none => exact no e
      | some b =>
        cases e
        have h0 := hP.1
        obtain ⟨m, rfl⟩ : ∃ m : Nat, b = -(m : Int) := ⟨(-b).toNat, by omega⟩
        rw [show (- -(m : Int)).toNat = m by omega] at h
        exact slice_r live pl pu h z (sz_line hP.2.1 il (by rw [List.length_reverse, Array.length_toList])) (by omega) il
  | _ => exact no e
theorem ev_slice {b : Expr} {lo up : Option Expr} {sp pos : Pos} {i j : Option Int} (ok : c.Ok) (hb : EvOk c b V p V) (hlo : PartOk c lo V i) (hup : PartOk c up V j) (e : sliceP p i j = some (r, P)) (hP : AllP P) : EvOk c (.Subscript b (.Slice lo up none sp) pos) V r V := by
  intro s Q E I h
  refine Subscript_ (hb s _ E I fun s1 v I1 t1 i1 => ?_)
  refine wpAny_Slice (hlo s1 _ E I1 fun s2 u I2 t2 i2 => hup s2 _ E I2 fun s3 u' I3 t3 i3 => ?_)
  show wpAny _ _ (pure Value.none) _ _ _
  refine wpAny_pure ?_
  exact slice_sound (N := c.N) I3.live e hP ((i1.st ok t2).st ok t3) i2 i3 fun s4 x t4 ix => h s4 x (I3.keep ok t4.keep) (((t1.trans t2).trans t3).trans t4.all) ix
end
end M5
section N5
section
variable {c : Fc} {V V1 V2 V' : View} {p q r : PV} {P : List Prop} {b : Bool}
/-! ### lists that are changed -/
theorem Inv.setList {s : Shared} {k a n m : Nat} {vs us : Array Value} {xs : List PV} {h' : Heap} (tk : Nat) (ok : c.Ok) (I : Inv c V s) (hr : c.ρ[k]? = some (a, a)) (ea : s.heap.get? a = some ⟨.type "list", none, .seq vs n, #[]⟩) (sb : Heap.SameBut a s.heap h') (ea' : h'.get? a = some ⟨.type "list", none, .seq us m, #[]⟩) (i : IsL c.T c.ρ s.heap xs us.toList.reverse) :
    Inv c { V with objs := V.objs.set k (.list xs) } { s with heap := h', toks := tk } ∧ St c.N c.muts s { s with heap := h', toks := tk } := by
  have dT : a ∈ c.T := ok.fx.mem a (muts_at hr)
  have kT : Keep c.N c.T s.heap h' := .sameBut sb ea' dT
  have kd : Keep c.N [a] s.heap h' := .sameBut sb ea' (.head _)
  refine ⟨⟨I.rep.change ok.fx hr sb ⟨a, us, m, hr, ea', i.keep kT⟩, I.base.keep (T := [a]) ok.lowK (fun b hb => ?_) ok.lo kd, fun b hb => let ⟨o, e⟩ := I.live b hb; kd.there b o e, I.frs.one kd (.inl ⟨_, ea, show Value.type "list" ≠ Value.type "frame" by decide⟩)⟩, kd.sub fun b hb => ?_, .refl _, rfl⟩
  · rcases List.mem_singleton.mp hb with rfl; exact ok.fx.low _ dT
  · rcases List.mem_singleton.mp hb with rfl; exact muts_at hr
noncomputable abbrev LmP := Option (PV × List PV × List Prop)
noncomputable def lmPop : List PV → LmP
  | [] => none
  | x :: ys => some (x, ys, [Ln (x :: ys)])
noncomputable def lmIns (p : PV) (j : Int) : List PV → LmP
  | [] => none
  | x :: ys => some (.v .none, x :: p :: ys, [j = (ys.length : Int), Ln (x :: ys)])
noncomputable def lmIn2 (xs : List PV) : List PV → LmP
  | [] => none
  | i :: r => two (one r) (intP i) fun p j => lmIns p j xs
noncomputable def lmP (a : Str) (xs ps : List PV) : LmP :=
  if a = "append" then (one ps).bind fun p => some (.v .none, p :: xs, [Ln xs])
  else if a = "pop" then if ps.isEmpty then lmPop xs else none
  else if a = "insert" then lmIn2 xs ps
  else none
noncomputable def lmId (a : Str) : String := if a = "append" then "list.append" else if a = "pop" then "list.pop" else "list.insert"
theorem lm_get {a : Str} {D n : Nat} {vs : Array Value} {s : Shared} {xs xs' ps : List PV} {M : Model} {A : Around} {E : Value → Shared → Prop} {pl : Sem Bool} {Q : Value × List Value → Shared → Prop} (e : lmP a xs ps = some (r, xs', P)) (ea : s.heap.get? D = some ⟨.type "list", none, .seq vs n, #[]⟩) (h : Q (.builtin (lmId a), [.ref D]) s) : wpAny M A (getMethod (.ref D) a pl) Q E s := by
  unfold lmP at e
  unfold lmId at h
  by_cases g : a = "append"
  · subst g
    exact getMethod_builtin ⟨_, ea, rfl⟩ PySem.F.plainAttrs_list PySem.F.slot_list_append PySem.F.type_list_append (fun a e => by cases e; exact ⟨_, ea, rfl⟩) h
  rw [if_neg g] at e h
  by_cases g : a = "pop"
  · subst g
    exact getMethod_builtin ⟨_, ea, rfl⟩ PySem.F.plainAttrs_list PySem.F.slot_list_pop PySem.F.type_list_pop (fun a e => by cases e; exact ⟨_, ea, rfl⟩) h
  rw [if_neg g] at e h
  obtain ⟨g, _⟩ := oi e
  subst g
  exact getMethod_builtin ⟨_, ea, rfl⟩ PySem.F.plainAttrs_list PySem.F.slot_list_insert PySem.F.type_list_insert (fun a e => by cases e; exact ⟨_, ea, rfl⟩) h
theorem lm_keep (K : Frag) (a : Str) : keepOk K (.builtin (lmId a)) = true := rfl
theorem rev_cons {α : Type} {l r : List α} {x : α} (h : l.reverse = x :: r) : l = r.reverse ++ [x] := by
  have := congrArg List.reverse h
  simpa using this
noncomputable def insF (x : Int) (z : Value) (xs : Array Value) : Array Value := have k := if x < 0 then (x + (xs.size : Int)).toNat else min x.toNat xs.size; (xs.extract 0 k).push z ++ xs.extract k
theorem insF_eq {w : List Value} {y z : Value} {j : Int} (hj : j = w.length) : (insF j z (w.reverse ++ [y]).toArray).toList.reverse = y :: z :: w := by
  unfold insF
  have hn : ¬ j < 0 := by omega
  simp only [hn, if_false]
  have : j.toNat = w.length := by omega
  rw [this, kl_ins_eq]
  simp
theorem ins_done {D n k : Nat} {w : List Value} {y z : Value} {j : Int} {u : Tok} {s : Shared} {Q E : Value → Shared → Prop} {x p : PV} {ys : List PV} (ok : c.Ok) (I : Inv c V s) (hr : c.ρ[k]? = some (D, D)) (ea : s.heap.get? D = some ⟨.type "list", none, .seq (w.reverse ++ [y]).toArray n, #[]⟩)
    (iy : Is c.T c.ρ s.heap x y) (ix : Is c.T c.ρ s.heap p z) (i : IsL c.T c.ρ s.heap ys w) (hj : j = w.length) (hz : (y :: w).length ≤ 1000000) (hz' : (w.reverse ++ [y]).toArray.size ≤ sizeLine)
    (h : ∀ s' v, Inv c { V with objs := V.objs.set k (.list (x :: p :: ys)) } s' → St c.N c.muts s s' → Is c.T c.ρ s.heap (.v .none) v → Q v s') : wpAny c.M c.A (call (.builtin "list.insert") [.ref D, .int j u, z]) Q E s := by
  have hfit : Builtin.List.listFitsIndex j = true := fitsIndex_of (by omega) (by simp at hz; omega)
  have eu := PySem.IsL.update (h := s.heap) (l := D) (items := (w.reverse ++ [y]).toArray) (n := n) ea (insF j z)
  refine call_meets PySem.F.slot_list_insert ⟨_, ea, rfl⟩ PySem.F.entry_list_insert (PySem.F.args_list_insert_3 _ _ _) (PySem.AutoSeq1.list_insert_list_int_val_1 D (w.reverse ++ [y]).toArray n j u z (by rw [hfit]; decide) hz') ⟨ea, ?_⟩
  have il : IsL c.T c.ρ s.heap (x :: p :: ys) (insF j z (w.reverse ++ [y]).toArray).toList.reverse := by
    rw [insF_eq hj]; exact .cons iy (.cons ix i)
  obtain ⟨I', st⟩ := I.setList s.toks ok hr ea (Heap.SameBut.update ..) eu il
  exact h _ _ I' st (.v _)
theorem last_of {w : List Value} {y : Value} {vs : Array Value} (hv : vs.toList.reverse = y :: w) : vs = (w.reverse ++ [y]).toArray := by rw [← rev_cons hv, Array.toArray_toList]
theorem sz_last {w : List Value} {y : Value} {xs : List PV} {h : Heap} {T : List Addr} {ρ : List (Addr × Addr)} (hL : Ln xs) (i : IsL T ρ h xs (y :: w)) : (w.reverse ++ [y]).toArray.size ≤ sizeLine := by
  have hz := hL.sz i
  simp at hz ⊢; rw [sizeLine_eq]; omega
theorem lm_pop {D n k : Nat} {vs : Array Value} {s : Shared} {xs xs' : List PV} {Q E : Value → Shared → Prop} (ok : c.Ok) (I : Inv c V s) (hr : c.ρ[k]? = some (D, D)) (e : lmPop xs = some (r, xs', P)) (hP : AllP P) (ea : s.heap.get? D = some ⟨.type "list", none, .seq vs n, #[]⟩) (i : IsL c.T c.ρ s.heap xs vs.toList.reverse)
    (h : ∀ s' x, Inv c { V with objs := V.objs.set k (.list xs') } s' → St c.N c.muts s s' → Is c.T c.ρ s.heap r x → Q x s') : wpAny c.M c.A (call (.builtin "list.pop") [.ref D]) Q E s := by
  cases xs with
  | nil => exact no e
  | cons x ys =>
    cases e
    generalize hv : vs.toList.reverse = w at i
    cases i with
    | cons ix i =>
    rename_i y w
    have hz' := sz_last hP.1 (.cons ix i)
    have e2 := last_of hv
    subst e2
    have hk : (w.reverse ++ [y]).toArray.size - 1 = w.reverse.length := by simp
    have hy : (w.reverse ++ [y]).toArray[(w.reverse ++ [y]).toArray.size - 1]? = some y := by rw [hk]; simp
    have eu := PySem.IsL.update (h := s.heap) (l := D) (items := (w.reverse ++ [y]).toArray) (n := n) ea (fun xs => xs.eraseIdxIfInBounds ((w.reverse ++ [y]).toArray.size - 1))
    refine call_meets PySem.F.slot_list_pop ⟨_, ea, rfl⟩ PySem.F.entry_list_pop (PySem.F.args_list_pop_1 _) (PySem.MeetsSeq.list_pop_last D _ n y hy hz') ⟨ea, ?_⟩
    obtain ⟨I', st⟩ := I.setList (xs := xs') s.toks ok hr ea (Heap.SameBut.update ..) eu (by rw [hk, kl_erase, List.append_nil]; simpa using i)
    exact h _ _ I' st ix
theorem lm_ins {D n k : Nat} {vs : Array Value} {s : Shared} {xs xs' ps : List PV} {us : List Value} {Q E : Value → Shared → Prop} (ok : c.Ok) (I : Inv c V s) (hr : c.ρ[k]? = some (D, D)) (e : lmIn2 xs ps = some (r, xs', P)) (hP : AllP P) (ea : s.heap.get? D = some ⟨.type "list", none, .seq vs n, #[]⟩) (i : IsL c.T c.ρ s.heap xs vs.toList.reverse)
    (ia : IsL c.T c.ρ s.heap ps us) (h : ∀ s' x, Inv c { V with objs := V.objs.set k (.list xs') } s' → St c.N c.muts s s' → Is c.T c.ρ s.heap r x → Q x s') : wpAny c.M c.A (call (.builtin "list.insert") (.ref D :: us)) Q E s := by
  cases ps with
  | nil => exact no e
  | cons q rest =>
    obtain ⟨p, j, e1, e2, e⟩ := two_is e
    have e1 := one_is e1
    have e2 := intP_is e2
    subst e1 e2
    cases xs with
    | nil => exact no e
    | cons x ys =>
      cases e
      cases ia with | cons ij ir =>
      cases ir with | cons ix ir =>
      cases ir
      obtain ⟨u, rfl⟩ := ij.ii
      generalize hv : vs.toList.reverse = w at i
      cases i with
      | cons iy i =>
      rename_i y w
      have hz := hP.2.1.sz (.cons iy i)
      have hz' := sz_last hP.2.1 (.cons iy i)
      have hj := hP.1
      have e2 := last_of hv
      subst e2
      rw [i.length] at hj
      exact ins_done ok I hr ea iy ix i hj hz hz' h
theorem lm_call {a : Str} {D n k : Nat} {vs : Array Value} {s : Shared} {xs xs' ps : List PV} {us : List Value} {Q E : Value → Shared → Prop} (ok : c.Ok) (I : Inv c V s) (hr : c.ρ[k]? = some (D, D)) (e : lmP a xs ps = some (r, xs', P)) (hP : AllP P) (ea : s.heap.get? D = some ⟨.type "list", none, .seq vs n, #[]⟩) (i : IsL c.T c.ρ s.heap xs vs.toList.reverse)
    (ia : IsL c.T c.ρ s.heap ps us) (h : ∀ s' x, Inv c { V with objs := V.objs.set k (.list xs') } s' → St c.N c.muts s s' → Is c.T c.ρ s.heap r x → Q x s') : wpAny c.M c.A (call (.builtin (lmId a)) (.ref D :: us)) Q E s := by
  unfold lmId
  unfold lmP at e
  by_cases g : a = "append"
  · rw [if_pos g] at e ⊢
    obtain ⟨p, e1, e⟩ := ob e
    have e1 := one_is e1
    subst e1
    cases e
    cases ia with | cons ix ir =>
    cases ir
    have hz := hP.1.sz i
    rw [List.length_reverse, Array.length_toList] at hz
    refine append_at ea (fun h' sb ea' => ?_) (by rw [sizeLine_eq]; omega)
    obtain ⟨I', st⟩ := I.setList (xs := _ :: xs) s.toks ok hr ea sb ea' (by rw [Array.toList_push, List.reverse_append]; exact .cons ix i)
    exact h _ _ I' st (.v _)
  rw [if_neg g] at e ⊢
  by_cases g : a = "pop"
  · rw [if_pos g] at e ⊢
    obtain ⟨hp, e⟩ := oi e
    have hp := List.isEmpty_iff.mp hp
    subst hp
    cases ia
    exact lm_pop ok I hr e hP ea i h
  rw [if_neg g] at e ⊢
  obtain ⟨_, e⟩ := oi e
  exact lm_ins ok I hr e hP ea i ia h
theorem ev_lmeth {b : Expr} {n : Str} {apos pos : Pos} {es : List Expr} {xs0 xs xs' ps : List PV} {k : Nat} (ok : c.Ok) (hb : attributeBase b n c.env (eval b c.env) = eval b c.env) (hy : EvOk c b V (.o k) V1) (ho1 : V1.objs[k]? = some (.list xs0)) (hl : (apos.endLine == pos.line) = true) (hs : es.all noStar = true) (h30 : es.length < 30)
    (ha : ArgsOk c es V1 ps V2) (ho : V2.objs[k]? = some (.list xs)) (e : lmP n xs ps = some (r, xs', P)) (hP : AllP P) : EvOk c (.Call (.Attribute b n apos) es [] pos) V r { V2 with objs := V2.objs.set k (.list xs') } := by
  intro s Q E I h
  rw [mc_eq hb hl hs h30]
  refine wpAny_bind (hy s _ E I fun s1 v I1 t1 i1 => wpAny_bind (wpAny_standAt (wpAny_bind (wpAny_holding ?_))))
  obtain ⟨D, m, rfl, e1⟩ := i1.io
  obtain ⟨D', vs, n1, e2, ea, im⟩ := I1.rep.objs k _ ho1
  rw [e1] at e2; cases e2
  refine lm_get e ea ?_
  refine callWith_ok (lm_keep c.K n) hs ha I1 fun s2 us I2 t2 i2 => ?_
  obtain ⟨D', vs2, n2, e2, ea2, im2⟩ := I2.rep.objs k _ ho
  rw [e1] at e2; cases e2
  exact lm_call ok I2 e1 e hP ea2 im2 i2 fun s3 x I3 t3 ix => h s3 x I3 ((t1.trans t2).trans t3) (ix.st ok t3)
/-- an item of a list that is changed -/
noncomputable def idxO (xs : List PV) (k : Int) : VP := if k < 0 then some (xs.getD (-k - 1).toNat (.v .none), [k < 0, -k ≤ (xs.length : Int), Ln xs]) else some (xs.reverse.getD k.toNat (.v .none), [0 ≤ k, k < (xs.length : Int), Ln xs])
theorem ev_itemO {b idx : Expr} {pos : Pos} {k : Nat} {j : Int} {xs : List PV} (ok : c.Ok) (hb : EvOk c b V (.o k) V) (hi : EvOk c idx V (.i j) V) (ho : V.objs[k]? = some (.list xs)) (hs : plainIdx idx = true) (e : idxO xs j = some (r, P)) (hP : AllP P) : EvOk c (.Subscript b idx pos) V r V := by
  intro s Q E I h
  refine Subscript_ (hb s _ E I fun s1 v I1 t1 i1 => hi s1 _ E I1 fun s2 u I2 t2 i2 => ?_)
  obtain ⟨t, rfl⟩ := i2.ii
  obtain ⟨D, m, rfl, e1⟩ := i1.io
  obtain ⟨D', vs, n1, e2, ea, im⟩ := I2.rep.objs k _ ho
  rw [e1] at e2; cases e2
  have z : SeqI [] s2.heap "list" (.ref D) D _ vs n1 := ⟨rfl, (fun z => nomatch z), ea, rfl, rfl⟩
  unfold idxO at e
  by_cases g : j < 0
  · rw [if_pos g] at e
    cases e
    exact idx_r hs z im hP.1 hP.2.1 hP.2.2.1 fun y iy => h _ y I2 (t1.trans t2) iy
  · rw [if_neg g] at e
    cases e
    have ir := im.reverse
    rw [List.reverse_reverse] at ir
    have hl : (xs.reverse.length : Int) = xs.length := by rw [List.length_reverse]
    exact idx_l hs z ir hP.1 (by rw [hl]; exact hP.2.1) (by have := hP.2.2.1; unfold Ln at this ⊢; rwa [List.length_reverse]) fun y iy => h _ y I2 (t1.trans t2) iy
/-- the list the other way round -/
noncomputable def revP (p : PV) : VP := match p with
  | .l xs => some (.r xs, [Ln xs])
  | .r xs => some (.l xs, [Ln xs])
  | _ => none
theorem rev_raw {value st : Expr} {sp : Pos} {t : Tok} {v : Value} {a : Addr} {ob : Obj} {vs : Array Value} {n : Nat} {s : Shared} {T : List Addr} {Q E : Value → Shared → Prop} {prog : Program} {w : World} {A : Around} (z : SeqI T s.heap "list" v a ob vs n) (hz : vs.size ≤ sizeLine)
    (h : Q (.ref (s.heap.objs.size + 1)) { s with heap := (s.heap.push { cls := .type "slice", data := .fields #[.none, .none, .int (-1) t] }).push { cls := .type "list", data := .seq vs.toList.reverse.toArray } }) :
    wpAny (model prog w) A (subscriptTail value (.Slice none none (some st) sp) v (.ref s.heap.objs.size)) Q E { s with heap := s.heap.push { cls := .type "slice", data := .fields #[.none, .none, .int (-1) t] } } := by
  cases z.v
  refine tail_any (T := "list") (ops := [.ref a, .ref s.heap.objs.size]) ⟨ob, Heap.get?_push_of_some _ z.at_, z.cls⟩ list_getitem_lookup (wpAny_getItem_list_slice (sl := s.heap.objs.size) (z.isList.push _) (Heap.IsSliceOf.new ..) .none .none (.int (-1) t) (by decide) ?_ hz) (by with_unfolding_all rfl)
  show Q (.ref (s.heap.push _).objs.size) _
  rw [Heap.size_push, krv_pick]
  exact h
theorem ev_rev {b st : Expr} {sp pos : Pos} (ok : c.Ok) (hb : EvOk c b V p V) (hst : EvOk c st V (.i (-1)) V) (e : revP p = some (r, P)) (hP : AllP P) : EvOk c (.Subscript b (.Slice none none (some st) sp) pos) V r V := by
  intro s Q E I h
  refine Subscript_ (hb s _ E I fun s1 v I1 t1 i1 => ?_)
  refine wpAny_Slice (wpAny_pure (wpAny_pure (hst s1 _ E I1 fun s2 u I2 t2 i2 => ?_)))
  obtain ⟨t, rfl⟩ := i2.ii
  have i1 := i1.st ok t2
  have up2 : ∀ (o o' : Obj), St c.N [] s2 { s2 with heap := (s2.heap.push o).push o' } := fun o o' => St.trans (s' := { s2 with heap := s2.heap.push o }) (.push _) ⟨.push _ _, .refl _, rfl⟩
  have fin : ∀ {o o' : Obj} {v : Value}, Is c.T c.ρ ((s2.heap.push o).push o') r v → Q v { s2 with heap := (s2.heap.push o).push o' } := fun {o o' v} i => h _ v (I2.keep ok (up2 o o').keep) ((t1.trans t2).trans (up2 o o').all) i
  have hsz : ∀ (o : Obj), (s2.heap.push o).objs.size = s2.heap.objs.size + 1 := fun o => Heap.size_push ..
  cases p with
  | l xs =>
    cases e
    obtain ⟨a, ob, vs, n, z, il⟩ := i1.il
    refine rev_raw z (sz_line hP.1 il Array.length_toList) (fin ?_)
    have := is_newr (T := c.T) (h := s2.heap.push { cls := .type "slice", data := .fields #[.none, .none, .int (-1) t] }) (vs := vs.toList.reverse) (n := 0) (fresh1 I2.live) (by rw [List.reverse_reverse]; exact il.keep (.push (N := 0) _ _))
    rwa [hsz] at this
  | r xs =>
    cases e
    obtain ⟨a, ob, vs, n, z, il⟩ := i1.ir
    refine rev_raw z (sz_line hP.1 il (by rw [List.length_reverse, Array.length_toList])) (fin ?_)
    have := is_new (T := c.T) (h := s2.heap.push { cls := .type "slice", data := .fields #[.none, .none, .int (-1) t] }) (vs := vs.toList.reverse) (n := 0) (fresh1 I2.live) (il.keep (.push (N := 0) _ _))
    rwa [hsz] at this
  | _ => exact no e
/-! ### a tuple is taken apart -/
noncomputable def nameOf : Expr → Option Str
  | .Name x _ => some x
  | _ => none
noncomputable def namesOf : List Expr → Option (List Str)
  | [] => some []
  | e :: r => (nameOf e).bind fun x => (namesOf r).map (x :: ·)
theorem nameOf_is {e : Expr} {x : Str} (h : nameOf e = some x) : ∃ p, e = .Name x p := by
  cases e with
  | Name y p => cases h; exact ⟨_, rfl⟩
  | _ => exact no h
noncomputable def putAll : List Str → List PV → List (Str × PV) → List (Str × PV)
  | x :: xs, p :: ps, l => putAll xs ps (put x p l)
  | _, _, l => l
inductive StoresAre (c : Fc) (E : Value → Shared → Prop) : List Str → List (Value → Sem Unit) → Prop
  | nil : StoresAre c E [] []
  | cons {x : Str} {f : Value → Sem Unit} {xs : List Str} {fs : List (Value → Sem Unit)} : (∀ (v : Value) (s : Shared) (Q : Unit → Shared → Prop), wpAny c.M c.A (storeName c.env x v) Q E s → wpAny c.M c.A (f v) Q E s) → StoresAre c E xs fs → StoresAre c E (x :: xs) (f :: fs)
theorem stores {E : Value → Shared → Prop} (ok : c.Ok) {xs : List Str} {fs : List (Value → Sem Unit)} (hf : StoresAre c E xs fs) : ∀ {ps : List PV} {vs : List Value} {V : View} {s : Shared} {Q : Unit → Shared → Prop}, xs.length = ps.length → (∀ x ∈ xs, c.env.kindOf x = some .local) → Inv c V s → IsL c.T c.ρ s.heap ps vs →
    (∀ s', Inv c ⟨putAll xs ps V.loc, V.objs⟩ s' → St c.N c.muts s s' → Q () s') → wpAny c.M c.A (assignInOrder fs vs) Q E s := by
  induction hf with
  | nil =>
    intro ps vs V s Q hl hk I il h
    cases ps with
    | cons _ _ => simp at hl
    | nil => exact wpAny_pure (h s I (.refl s))
  | cons hf _ ih =>
    intro ps vs V s Q hl hk I il h
    cases il with
    | nil => simp at hl
    | cons i il =>
    refine assignInOrder_cons (hf _ s _ (store_name ok (hk _ (.head _)) I i fun s1 I1 t1 => ?_))
    exact ih (by simpa using hl) (fun y hy => hk y (.tail _ hy)) I1 (il.st ok t1) fun s2 I2 t2 => h s2 I2 (t1.trans t2)
theorem StoresAre.map {E : Value → Shared → Prop} {f : Str → Value → Sem Unit} (hf : ∀ (x : Str) (v : Value) (s : Shared) (Q : Unit → Shared → Prop), wpAny c.M c.A (storeName c.env x v) Q E s → wpAny c.M c.A (f x v) Q E s) (xs : List Str) : StoresAre c E xs (xs.map f) := by
  induction xs with
  | nil => exact .nil
  | cons x r ih => exact .cons (hf x) ih
theorem ext_keep {N : Nat} {b : Addr} {h h' : Heap} (x : Heap.ExtBut b h h') (hb : h.get? b = none) : Keep N [] h h' := .of_all fun a o e => x a o (fun q => by subst q; rw [hb] at e; cases e) e
theorem assignEach_names {E : Value → Shared → Prop} : ∀ {ts : List Expr} {xs : List Str}, namesOf ts = some xs → StoresAre c E xs ((assignEach ts c.env).map (·.2)) ∧ (assignEach ts c.env).findIdx? (·.1) = none ∧ (assignEach ts c.env).length = xs.length
  | [], xs, h => by cases h; exact ⟨.nil, rfl, rfl⟩
  | t :: r, xs, h => by
    obtain ⟨x, h1, h⟩ := ob h
    obtain ⟨ys, h2, h⟩ := map_some h
    subst h
    obtain ⟨p, rfl⟩ := nameOf_is h1
    obtain ⟨b, d, e⟩ := assignEach_names (E := E) h2
    refine ⟨.cons (fun v s Q h => assign_Name h) b, ?_, ?_⟩
    · show List.findIdx? (·.1) ((false, _) :: assignEach r c.env) = none
      rw [List.findIdx?_cons]; simp [d]
    · show (assignEach r c.env).length + 1 = _
      rw [e]; rfl
theorem swaps_sole {t e : Expr} {l : Nat} {env : Env} (h : notComp e = true) : swapsWithSole [t] e l env = pure false := swaps_no (t := some t) h
theorem sx_unpack {ts : List Expr} {k : Nat} {tp pos : Pos} {e : Expr} {xs : List Str} {ps : List PV} (ok : c.Ok) (hh : c.A.handled = none) (hn : namesOf ts = some xs) (hl : xs.length = ps.length) (hk : ∀ x ∈ xs, c.env.kindOf x = some .local) (he : EvOk c e V (.t ps) V1) (hc : notComp e = true)
    (hw : swappedStores [.Tuple ts k tp] e c.env = pure none) : SxOk c (.Assign [.Tuple ts k tp] e pos) V .next { V1 with loc := putAll xs ps V1.loc } := by
  intro s Q E I h
  refine Assign_Tuple (he s _ E I fun s1 v I1 t1 i1 => ?_) (swaps_sole hc) hw
  obtain ⟨a, ob, vs, n, z, il⟩ := i1.it
  cases z.v
  obtain ⟨b1, d1, e1⟩ := assignEach_names (c := c) (E := E) hn
  refine assign_Tuple_tuple hh z.isTuple (by rw [e1, hl, il.length]; simp) d1 fun h' x => ?_
  have kp : Keep c.N [] s1.heap h' := ext_keep x (fresh_get _)
  refine stores ok b1 hl hk (I1.keep (s' := { s1 with heap := h' }) ok kp) (il.keep kp.all) fun s2 I2 t2 => ?_
  exact h s2 _ I2 ((t1.trans (s'' := { s1 with heap := h' }) ⟨kp.all, .refl _, rfl⟩).trans t2) rfl
theorem sx_unpackS {ts : List Expr} {k : Nat} {tp pos : Pos} {e : Expr} {xs : List Str} {ps : List PV} (ok : c.Ok) (hh : c.A.handled = none) (hl : xs.length = ps.length) (hk : ∀ x ∈ xs, c.env.kindOf x = some .local) (he : EvOk c e V (.t ps) V1) (hc : notComp e = true)
    (hw : swappedStores [.Tuple ts k tp] e c.env = pure (some xs)) : SxOk c (.Assign [.Tuple ts k tp] e pos) V .next { V1 with loc := putAll xs.reverse ps.reverse V1.loc } := by
  intro s Q E I h
  refine Assign_Tuple_swapped (he s _ E I fun s1 v I1 t1 i1 => ?_) (swaps_sole hc) hw
  obtain ⟨a, ob, vs, n, z, il⟩ := i1.it
  cases z.v
  have hz : xs.length = vs.size := by rw [hl, il.length]; simp
  rw [hz]
  refine unpackItems_tuple hh z.isTuple fun h' x => ?_
  have kp : Keep c.N [] s1.heap h' := ext_keep x (fresh_get _)
  rw [List.map_reverse]
  rw [← List.map_reverse]
  refine stores ok (StoresAre.map (fun x v s Q h => bindName_ h) xs.reverse) (by simpa using hl) (fun x hx => hk x (List.mem_reverse.mp hx)) (I1.keep (s' := { s1 with heap := h' }) ok kp) (il.keep (kp.all (T := c.T))).reverse fun s2 I2 t2 => ?_
  exact h s2 _ I2 ((t1.trans (s'' := { s1 with heap := h' }) ⟨kp.all, .refl _, rfl⟩).trans t2) rfl
end
end N5
section M6
/-! ## a plain evaluator, and that it tells the truth -/
structure Cfg where
  scope : Scope
  nt : List Addr
  glob : List (Str × Value)
  attr : List (Addr × List Str)
  seta : List (Addr × List Str)
  meth : List (Addr × List (Str × Addr))
  alis : List (Addr × List (Str × Str))
  call : Value → List PV → List PO → Option (PV × List Prop)
  ecall : Value → List PV → List PO → Option (PV × List PO × List Prop)
structure CfgOk (c : Fc) (g : Cfg) : Prop where
  scope : c.env.scope = g.scope
  units : c.A.units + 64 < cLine
  handled : c.A.handled = none
  nt : NtOk c.K g.nt
  glob : ∀ x v, g.glob.lookup x = some v → globIs c.K x v = true
  attr : ∀ C ns, g.attr.lookup C = some ns → ∀ n, ns.contains n = true → attrOk c.K C n = true
  seta : ∀ C ns, g.seta.lookup C = some ns → ∀ n, ns.contains n = true → setOk c.K C n = true
  meth : ∀ C ms, g.meth.lookup C = some ms → ∀ n f, ms.lookup n = some f → methOk c.K C n f = true ∧ keepOk c.K (.ref f) = true
  alis : ∀ C ns, g.alis.lookup C = some ns → ∀ n al, ns.lookup n = some al → ∃ pr f, propOk c.K C n pr f = true ∧ ∀ k objs att p, objs[k]? = some (.inst C att) → att.lookup al = some p → handedP p = true → CodeOk { c with A := c.A.in1 } (.ref f) [.o k] objs p objs
  call : ∀ f ps objs r P, g.call f ps objs = some (r, P) → keepOk c.K f = true ∧ (AllP P → CallOk c f ps objs r objs)
  ecall : ∀ f ps objs r objs' P, g.ecall f ps objs = some (r, objs', P) → keepOk c.K f = true ∧ (AllP P → CallOk c f ps objs r objs')
noncomputable def isO : PV → Option Nat
  | .o k => some k
  | _ => none
theorem isO_is {p : PV} {k : Nat} (h : isO p = some k) : p = .o k := by cases p <;> first | exact no h | (cases h; rfl)
noncomputable def isI : PV → Option Int
  | .i k => some k
  | _ => none
theorem isI_is {p : PV} {k : Int} (h : isI p = some k) : p = .i k := by cases p <;> first | exact no h | (cases h; rfl)
noncomputable def isV : PV → Option Value
  | .v k => some k
  | _ => none
theorem isV_is {p : PV} {k : Value} (h : isV p = some k) : p = .v k := by cases p <;> first | exact no h | (cases h; rfl)
noncomputable def isT : PV → Option (List PV)
  | .t k => some k
  | _ => none
theorem isT_is {p : PV} {k : List PV} (h : isT p = some k) : p = .t k := by cases p <;> first | exact no h | (cases h; rfl)
noncomputable def instO : PO → Option (Addr × List (Str × PV))
  | .inst C att => some (C, att)
  | _ => none
noncomputable def instOf (objs : List PO) (k : Nat) : Option (Addr × List (Str × PV)) := objs[k]?.bind instO
theorem instOf_is {objs : List PO} {k : Nat} {C : Addr} {att : List (Str × PV)} (h : instOf objs k = some (C, att)) : objs[k]? = some (.inst C att) := by
  obtain ⟨po, e, h⟩ := ob h
  rw [e]
  cases po <;> first | exact no h | (cases h; rfl)
noncomputable def listO : PO → Option (List PV)
  | .list xs => some xs
  | _ => none
noncomputable def listOfO (objs : List PO) (k : Nat) : Option (List PV) := objs[k]?.bind listO
theorem listOfO_is {objs : List PO} {k : Nat} {xs : List PV} (h : listOfO objs k = some xs) : objs[k]? = some (.list xs) := by
  obtain ⟨po, e, h⟩ := ob h
  rw [e]
  cases po <;> first | exact no h | (cases h; rfl)
noncomputable def peKind (g : Cfg) (x : Str) (V : View) : NameKind → VP
  | .local => (V.loc.lookup x).map fun p => (p, [])
  | .globalImplicit => (g.glob.lookup x).map fun v => (.v v, [])
  | _ => none
noncomputable def peName (g : Cfg) (x : Str) (V : View) : VP := if x == ("__debug__" : Str) then none else (g.scope.names.lookup x).bind (peKind g x V)
noncomputable def peConst (k : Const) : VP := match k with
  | .none => some (.v .none, [])
  | .bool b => some (.v (.bool b), [])
  | .int i => some (.i i, [])
  | .str s => some (.s s, [])
  | _ => none
noncomputable def nameIn : Expr → Option (Str × Pos)
  | .Name x p => some (x, p)
  | _ => none
theorem nameIn_is {e : Expr} {x : Str} {p : Pos} (h : nameIn e = some (x, p)) : e = .Name x p := by
  cases e with
  | Name y q => cases h; rfl
  | _ => exact no h
noncomputable def handO (p : PV) : Option PV := if handedP p then some p else none
theorem handO_is {p q : PV} (h : handO p = some q) : q = p ∧ handedP p = true := by obtain ⟨h1, h2⟩ := oi h; cases h2; exact ⟨rfl, h1⟩
noncomputable def peAlias (g : Cfg) (C : Addr) (att : List (Str × PV)) (a : Str) : Option PV := (g.alis.lookup C).bind fun as => (as.lookup a).bind fun al => (att.lookup al).bind handO
noncomputable def peAttrOf (g : Cfg) (a : Str) (C : Addr) (att : List (Str × PV)) (ns : List Str) : Bool → Option PV
  | true => (att.lookup a).bind handO
  | false => peAlias g C att a
noncomputable def peAttr (g : Cfg) (objs : List PO) (a : Str) (k : Nat) : Option PV := (instOf objs k).bind fun z => (g.attr.lookup z.1).bind fun ns => peAttrOf g a z.1 z.2 ns (ns.contains a)
noncomputable def unlessIn {α β : Type} (o : Option α) (x : Option β) : Option β := match o with
  | none => x
  | some _ => none
theorem unlessIn_is {α β : Type} {o : Option α} {x : Option β} {b : β} (h : unlessIn o x = some b) : o = none ∧ x = some b := by
  cases o with
  | none => exact ⟨rfl, h⟩
  | some _ => exact no h
/-- the def that a method's name tells -/
noncomputable def methOf (g : Cfg) (objs : List PO) (a : Str) (k : Nat) : Option Addr := (instOf objs k).bind fun z => (g.meth.lookup z.1).bind fun ms => unlessIn (z.2.lookup a) (ms.lookup a)
noncomputable def callLine (apos pos : Pos) (es : List Expr) : Bool := es.all noStar && (apos.endLine == pos.line) && decide (es.length < 30)
/-- the two values of one test -/
noncomputable def iteS (b : Bool) (P Q : List Prop) : PV → PV → VP
  | .s u, .s v => some (.s (if b then u else v), [b = true → AllP P, b = false → AllP Q])
  | .i u, .i v => some (.i (if b then u else v), [b = true → AllP P, b = false → AllP Q])
  | _, _ => none
noncomputable def iteB (b : Bool) (x y : VP) : VP := match b with
  | true => x
  | false => y
noncomputable def iteO (x y : VP) : VP := match x with
  | some z => some z
  | none => y
noncomputable def iteP (b : Bool) (x y : VP) : VP := iteO (x.bind fun z => y.bind fun z' => iteS b z.2 z'.2 z.1 z'.1) (iteB b x y)
/-- the truth of what a test gave -/
noncomputable def ptObj (z : PV × List Prop) (po : PO) : BP := (objTruth po).map fun u => (u.1, z.2 ++ u.2)
noncomputable def ptVal1 (objs : List PO) (z : PV × List Prop) : Option Nat → BP
  | some k => objs[k]?.bind (ptObj z)
  | none => (truthP z.1).map fun u => (u.1, z.2 ++ u.2)
noncomputable def ptVal (objs : List PO) (z : PV × List Prop) : BP := ptVal1 objs z (isO z.1)
/-! ### shapes -/
theorem iteO_is {x y : VP} {p : PV} {P : List Prop} (h : iteO x y = some (p, P)) : x = some (p, P) ∨ y = some (p, P) := by
  cases x with
  | some z => exact .inl h
  | none => exact .inr h
noncomputable def retOf : Stmt → Option (Expr × Pos)
  | .Return (some e) p => some (e, p)
  | _ => none
theorem retOf_is {st : Stmt} {e : Expr} {p : Pos} (h : retOf st = some (e, p)) : st = .Return (some e) p := by
  cases st with
  | Return e q => cases e with
    | some e => cases h; rfl
    | none => exact no h
  | _ => exact no h
noncomputable def attOf : Expr → Option (Expr × Str × Pos)
  | .Attribute b a p => some (b, a, p)
  | _ => none
theorem attOf_is {e b : Expr} {a : Str} {p : Pos} (h : attOf e = some (b, a, p)) : e = .Attribute b a p := by
  cases e with
  | Attribute => cases h; rfl
  | _ => exact no h
/-! ### the parts of the evaluator -/
noncomputable abbrev LP := Option (List PV × List Prop)
noncomputable abbrev OP := Option (Option Int × List Prop)
noncomputable def peAttrE (g : Cfg) (b : Expr) (a : Str) (V : View) : VP := (nameIn b).bind fun y => (peName g y.1 V).bind fun z => (isO z.1).bind fun k => (peAttr g V.objs a k).map fun p => (p, z.2)
noncomputable def peCmp (g : Cfg) (op : CmpOp) (z z' : PV × List Prop) : VP := (cmpG g.nt op z.1 z'.1).map fun u => (.v (.bool u.1), z.2 ++ (z'.2 ++ u.2))
noncomputable def ptCmp (g : Cfg) (op : CmpOp) (z z' : PV × List Prop) : BP := (cmpG g.nt op z.1 z'.1).map fun u => (u.1, z.2 ++ (z'.2 ++ u.2))
noncomputable def cmpE {α : Type} (ops : List CmpOp) (rs : List Expr) (z : VP) (F : Expr → VP) (k : CmpOp → PV × List Prop → PV × List Prop → Option α) : Option α := two (one ops) (one rs) fun op r => if behindInMarks op r then none else two z (F r) (k op)
noncomputable def peBin (op : Operator) (z z' : PV × List Prop) : VP := (binP op z.1 z'.1).map fun u => (u.1, z.2 ++ (z'.2 ++ u.2))
noncomputable def peNeg (z : PV × List Prop) : VP := (isI z.1).bind fun i => some (.i (-i), z.2)
noncomputable def peUn (op : UnaryOp) (z : VP) : VP := match op with
  | .USub => z.bind peNeg
  | _ => none
noncomputable def peCallN (g : Cfg) (x : Str) (es : List Expr) (V : View) (as : LP) : VP := if es.all noStar then two (peName g x V) as fun z z' => (isV z.1).bind fun fv => (g.call fv z'.1 V.objs).map fun u => (u.1, z.2 ++ (z'.2 ++ u.2)) else none
noncomputable def peCallM (g : Cfg) (b : Expr) (a : Str) (apos pos : Pos) (es : List Expr) (V : View) (as : LP) : VP := (nameIn b).bind fun y => if callLine apos pos es then two (peName g y.1 V) as fun z z' => (isO z.1).bind fun k => (methOf g V.objs a k).bind fun fa => (g.call (.ref fa) (.o k :: z'.1) V.objs).map fun u => (u.1, z.2 ++ (z'.2 ++ u.2)) else none
inductive Cal where
  | name (x : Str) (px : Pos)
  | attr (b : Expr) (a : Str) (apos : Pos)
noncomputable def calOf : Expr → Option Cal
  | .Name x px => some (.name x px)
  | .Attribute b a apos => some (.attr b a apos)
  | _ => none
noncomputable def Cal.e : Cal → Expr
  | .name x px => .Name x px
  | .attr b a apos => .Attribute b a apos
theorem calOf_is {e : Expr} {k : Cal} (h : calOf e = some k) : e = k.e := by
  cases e with
  | Name x px => cases h; rfl
  | Attribute b a apos => cases h; rfl
  | _ => exact no h
noncomputable def peCal (g : Cfg) (pos : Pos) (es : List Expr) (V : View) (as : LP) : Cal → VP
  | .name x _ => peCallN g x es V as
  | .attr b a apos => peCallM g b a apos pos es V as
noncomputable def peCall (g : Cfg) (f : Expr) (es : List Expr) (kws : List Keyword) (pos : Pos) (V : View) (as : LP) : VP := if kws.isEmpty then (calOf f).bind (peCal g pos es V as) else none
/-- a slice's parts -/
noncomputable def sliceOf : Expr → Option (Option Expr × Option Expr × Option Expr)
  | .Slice lo up st _ => some (lo, up, st)
  | _ => none
theorem sliceOf_is {e : Expr} {lo up st : Option Expr} (h : sliceOf e = some (lo, up, st)) : ∃ p, e = .Slice lo up st p := by
  cases e with
  | Slice a b c p => cases h; exact ⟨p, rfl⟩
  | _ => exact no h
noncomputable def peSl (z : PV × List Prop) (l u : Option Int × List Prop) : VP := (sliceP z.1 l.1 u.1).map fun w => (w.1, z.2 ++ (l.2 ++ (u.2 ++ w.2)))
noncomputable def peRev (lo up : Option Expr) (z y : PV × List Prop) : VP := if lo.isNone && up.isNone then (isI y.1).bind fun i => if i == -1 then (revP z.1).map fun w => (w.1, z.2 ++ (y.2 ++ w.2)) else none else none
noncomputable def peIx1 (objs : List PO) (z y : PV × List Prop) (i : Int) : Option Nat → VP
  | some k => (listOfO objs k).bind fun xs => (idxO xs i).map fun w => (w.1, z.2 ++ (y.2 ++ w.2))
  | none => (idxP z.1 i).map fun w => (w.1, z.2 ++ (y.2 ++ w.2))
noncomputable def peIx (objs : List PO) (z y : PV × List Prop) : VP := (isI y.1).bind fun i => peIx1 objs z y i (isO z.1)
noncomputable def peSt (z : VP) (lo up : Option Expr) (F : Expr → VP) (O : Option Expr → OP) : Option Expr → VP
  | none => two z (O lo) fun z l => (O up).bind (peSl z l)
  | some e => two z (F e) (peRev lo up)
noncomputable def peSub1 (objs : List PO) (z : VP) (ix : Expr) (F : Expr → VP) (O : Option Expr → OP) : Option (Option Expr × Option Expr × Option Expr) → VP
  | some s => peSt z s.1 s.2.1 F O s.2.2
  | none => if plainIdx ix then two z (F ix) (peIx objs) else none
noncomputable def peMany (k : List PV → PV) (z : LP) : VP := z.bind fun z => if decide (z.1.length ≤ 1000) then some (k z.1, z.2) else none
noncomputable def peIf (z : BP) (x y : VP) : VP := z.bind fun z => (iteP z.1 x y).map fun w => (w.1, z.2 ++ w.2)
noncomputable def peB (g : Cfg) (F : Expr → VP) (A : List Expr → LP) (O : Option Expr → OP) (T : Expr → BP) (e : Expr) (V : View) : VP := match e with
  | .Name x _ => peName g x V
  | .Constant k _ _ => peConst k
  | .Attribute b a _ => peAttrE g b a V
  | .Compare l ops rs _ => cmpE ops rs (F l) F (peCmp g)
  | .BinOp l op r _ => two (F l) (F r) (peBin op)
  | .UnaryOp op x _ => peUn op (F x)
  | .Call f es kws pos => peCall g f es kws pos V (A es)
  | .Subscript b ix _ => peSub1 V.objs (F b) ix F O (sliceOf ix)
  | .Tuple es _ _ => peMany .t (A es)
  | .List es _ => peMany .l (A es)
  | .IfExp t a b _ => peIf (T t) (F a) (F b)
  | _ => none
noncomputable def pasB (F : Expr → VP) (A : List Expr → LP) : List Expr → LP
  | [] => some ([], [])
  | e :: r => if noStar e then two (F e) (A r) fun z z' => some (z.1 :: z'.1, z.2 ++ z'.2) else none
noncomputable def popB (F : Expr → VP) : Option Expr → OP
  | none => some (none, [])
  | some e => (F e).bind fun z => (isI z.1).bind fun i => some (some i, z.2)
noncomputable def ptUn (op : UnaryOp) (z : BP) : BP := match op with
  | .Not => z.map fun z => (!z.1, z.2)
  | _ => none
noncomputable def ptB (g : Cfg) (F : Expr → VP) (T : Expr → BP) (L : BoolOp → List Expr → BP) (V : View) (e : Expr) : BP := match e with
  | .Compare l ops rs _ => cmpE ops rs (F l) F (ptCmp g)
  | .UnaryOp op x _ => ptUn op (T x)
  | .BoolOp op es _ => L op es
  | .Name x p => (F (.Name x p)).bind (ptVal V.objs)
  | .Attribute b a p => (F (.Attribute b a p)).bind (ptVal V.objs)
  | .Call f es ks p => (F (.Call f es ks p)).bind (ptVal V.objs)
  | .Constant k u p => (F (.Constant k u p)).bind (ptVal V.objs)
  | .Subscript b i p => (F (.Subscript b i p)).bind (ptVal V.objs)
  | _ => none
noncomputable def palA (z : Bool × List Prop) : BP → BP
  | some z' => some (z.1 && z'.1, z.2 ++ z'.2)
  | none => some (false, z.2 ++ [z.1 = false])
noncomputable def palO (z : Bool × List Prop) : BP → BP
  | some z' => some (z.1 || z'.1, z.2 ++ z'.2)
  | none => some (true, z.2 ++ [z.1 = true])
noncomputable def palB (T : Expr → BP) (L : BoolOp → List Expr → BP) : BoolOp → List Expr → BP
  | .And, [] => some (true, [])
  | .And, e :: r => (T e).bind fun z => palA z (L .And r)
  | .Or, [] => some (false, [])
  | .Or, e :: r => (T e).bind fun z => palO z (L .Or r)
mutual
noncomputable def pe (g : Cfg) : Nat → Expr → View → VP
  | 0, _, _ => none
  | n + 1, e, V => peB g (fun e => pe g n e V) (fun es => pas g n es V) (fun o => pop g n o V) (fun t => pt g n t V) e V
noncomputable def pas (g : Cfg) : Nat → List Expr → View → LP
  | 0, _, _ => none
  | n + 1, es, V => pasB (fun e => pe g n e V) (fun es => pas g n es V) es
noncomputable def pop (g : Cfg) : Nat → Option Expr → View → OP
  | 0, _, _ => none
  | n + 1, e, V => popB (fun e => pe g n e V) e
noncomputable def pt (g : Cfg) : Nat → Expr → View → BP
  | 0, _, _ => none
  | n + 1, e, V => ptB g (fun e => pe g n e V) (fun e => pt g n e V) (fun op es => pal g n op es V) V e
noncomputable def pal (g : Cfg) : Nat → BoolOp → List Expr → View → BP
  | 0, _, _, _ => none
  | n + 1, op, es, V => palB (fun e => pt g n e V) (fun op es => pal g n op es V) op es
end
section
variable {c : Fc} {g : Cfg} {V : View}
theorem kind_of (gk : CfgOk c g) (x : Str) : c.env.kindOf x = g.scope.names.lookup x := by unfold Env.kindOf; rw [gk.scope]
theorem peName_sound (ok : c.Ok) (gk : CfgOk c g) {x : Str} {pos : Pos} {p : PV} {P : List Prop} (h : peName g x V = some (p, P)) : EvOk c (.Name x pos) V p V := by
  obtain ⟨hd, h⟩ := oe h
  obtain ⟨k, hl, h⟩ := ob h
  have hd : (x == ("__debug__" : Str)) = false := Bool.eq_false_iff.mpr hd
  cases k with
  | «local» => obtain ⟨q, e1, e2⟩ := map_some h; cases e2; exact ev_local ok ((kind_of gk x).trans hl) hd e1
  | globalImplicit => obtain ⟨q, e1, e2⟩ := map_some h; cases e2; exact ev_glob ok ((kind_of gk x).trans hl) hd (gk.glob _ _ e1)
  | _ => exact no h
theorem peConst_sound {k : Const} {u : Nat} {pos : Pos} {p : PV} {P : List Prop} (h : peConst k = some (p, P)) : EvOk c (.Constant k u pos) V p V := by
  cases k with
  | none => cases h; exact ev_none
  | bool b => cases h; exact ev_bool
  | int i => cases h; exact ev_int
  | str s => cases h; exact ev_str
  | _ => exact no h
theorem peAttr_sound (ok : c.Ok) (gk : CfgOk c g) {y a : Str} {py pos : Pos} {k : Nat} {p : PV} (hy : EvOk c (.Name y py) V (.o k) V) (h : peAttr g V.objs a k = some p) : EvOk c (.Attribute (.Name y py) a pos) V p V := by
  obtain ⟨z, hz, h⟩ := ob h
  obtain ⟨ns, hns, h⟩ := ob h
  have ho := instOf_is hz
  cases hc : ns.contains a with
  | true =>
    rw [hc] at h
    obtain ⟨q, hq, h⟩ := ob h
    obtain ⟨rfl, hh⟩ := handO_is h
    exact ev_attr ok hy ho (gk.attr _ _ hns _ hc) hq hh
  | false =>
    rw [hc] at h
    obtain ⟨as, has, h⟩ := ob h
    obtain ⟨al, hal, h⟩ := ob h
    obtain ⟨q, hq, h⟩ := ob h
    obtain ⟨rfl, hh⟩ := handO_is h
    obtain ⟨pr, f, hp, hc⟩ := gk.alis _ _ has _ _ hal
    exact ev_prop ok hy ho hp hh (hc k V.objs _ _ ho hq hh)
theorem methOf_is {objs : List PO} {a : Str} {k : Nat} {f : Addr} (gk : CfgOk c g) (h : methOf g objs a k = some f) : ∃ C att, objs[k]? = some (.inst C att) ∧ att.lookup a = none ∧ methOk c.K C a f = true ∧ keepOk c.K (.ref f) = true := by
  obtain ⟨z, hz, h⟩ := ob h
  obtain ⟨ms, hms, h⟩ := ob h
  obtain ⟨hn, h⟩ := unlessIn_is h
  exact ⟨z.1, z.2, instOf_is hz, hn, gk.meth _ _ hms _ _ h⟩
theorem callLine_is {apos pos : Pos} {es : List Expr} (h : callLine apos pos es = true) : es.all noStar = true ∧ (apos.endLine == pos.line) = true ∧ es.length < 30 := by
  obtain ⟨h12, h3⟩ := Bool.and_eq_true_iff.mp h
  obtain ⟨h1, h2⟩ := Bool.and_eq_true_iff.mp h12
  exact ⟨h1, h2, of_decide_eq_true h3⟩
theorem ev_ifexp {t a b : Expr} {pos : Pos} {x : Bool} {p : PV} (ht : TvOk c t V x V) (h1 : x = true → EvOk c a V p V) (h2 : x = false → EvOk c b V p V) : EvOk c (.IfExp t a b pos) V p V := by
  intro s Q E I k
  refine IfExp_ (ht s _ E I fun s1 I1 t1 => ?_)
  cases x with
  | true => exact h1 rfl s1 Q E I1 fun s2 v I2 t2 i2 => k s2 v I2 (t1.trans t2) i2
  | false => exact h2 rfl s1 Q E I1 fun s2 v I2 t2 i2 => k s2 v I2 (t1.trans t2) i2
theorem iteS_is {b : Bool} {P Q R : List Prop} {x y p : PV} (h : iteS b P Q x y = some (p, R)) (hP : AllP R) : (b = true → p = x ∧ AllP P) ∧ (b = false → p = y ∧ AllP Q) := by
  cases x with
  | s u => cases y with
    | s v => cases h; exact ⟨fun e => ⟨by rw [e]; rfl, hP.1 e⟩, fun e => ⟨by rw [e]; rfl, hP.2.1 e⟩⟩
    | _ => exact no h
  | i u => cases y with
    | i v => cases h; exact ⟨fun e => ⟨by rw [e]; rfl, hP.1 e⟩, fun e => ⟨by rw [e]; rfl, hP.2.1 e⟩⟩
    | _ => exact no h
  | _ => exact no h
theorem iteP_sound {a b : Expr} {x : Bool} {u v : VP} {p : PV} {P : List Prop} (h1 : ∀ q Q, u = some (q, Q) → AllP Q → EvOk c a V q V) (h2 : ∀ q Q, v = some (q, Q) → AllP Q → EvOk c b V q V) (h : iteP x u v = some (p, P)) (hP : AllP P) : (x = true → EvOk c a V p V) ∧ (x = false → EvOk c b V p V) := by
  have key : ∀ o : VP, (o = some (p, P) → (x = true → EvOk c a V p V) ∧ (x = false → EvOk c b V p V)) → iteO o (iteB x u v) = some (p, P) → (x = true → EvOk c a V p V) ∧ (x = false → EvOk c b V p V) := fun o k h => by
    cases o with
    | some z => exact k h
    | none => exact ⟨fun e => by subst e; exact h1 _ _ h hP, fun e => by subst e; exact h2 _ _ h hP⟩
  refine key _ (fun h => ?_) h
  obtain ⟨z, e1, h⟩ := ob h
  obtain ⟨z', e2, h⟩ := ob h
  obtain ⟨k1, k2⟩ := iteS_is h hP
  exact ⟨fun e => by obtain ⟨rfl, q⟩ := k1 e; exact h1 _ _ e1 q, fun e => by obtain ⟨rfl, q⟩ := k2 e; exact h2 _ _ e2 q⟩
noncomputable def plainTest : Expr → Bool
  | .Name .. => true
  | .Attribute .. => true
  | .Call .. => true
  | .Constant .. => true
  | .Subscript .. => true
  | _ => false
theorem test_of {e : Expr} (hp : plainTest e = true) : ∀ env whole, isTrue e env whole = (do let v ← whole; standAt e.pos; holding [v] (truthy v)) := fun env whole => by cases e <;> first | rfl | exact nof hp
theorem ptVal_sound {e : Expr} {x : VP} {b : Bool} {P : List Prop} (hp : plainTest e = true) (he : ∀ q Q, x = some (q, Q) → AllP Q → EvOk c e V q V) (h : x.bind (ptVal V.objs) = some (b, P)) (hP : AllP P) : TvOk c e V b V := by
  obtain ⟨z, ez, h⟩ := ob h
  cases hk : isO z.1 with
  | some k =>
    unfold ptVal at h
    rw [hk] at h
    obtain ⟨po, ho, h⟩ := ob h
    obtain ⟨u, e1, e2⟩ := map_some h
    cases e2
    rw [AllP.append] at hP
    have := he _ _ ez hP.1
    rw [isO_is hk] at this
    exact tv_obj (test_of hp) this ho e1 hP.2
  | none =>
    unfold ptVal at h
    rw [hk] at h
    obtain ⟨u, e1, e2⟩ := map_some h
    cases e2
    rw [AllP.append] at hP
    exact tv_plain (test_of hp) (he _ _ ez hP.1) e1 hP.2
/-- what the evaluator says is so -/
structure PeOk (c : Fc) (g : Cfg) (V : View) (n : Nat) : Prop where
  e : ∀ e p P, pe g n e V = some (p, P) → AllP P → EvOk c e V p V
  as : ∀ es ps P, pas g n es V = some (ps, P) → AllP P → ArgsOk c es V ps V
  o : ∀ e k P, pop g n e V = some (k, P) → AllP P → PartOk c e V k
  t : ∀ e b P, pt g n e V = some (b, P) → AllP P → TvOk c e V b V
  al : ∀ op es b P, pal g n op es V = some (b, P) → AllP P → AllOk c op es V b V
section
variable {F : Expr → VP} {A : List Expr → LP} {O : Option Expr → OP} {T : Expr → BP} {L : BoolOp → List Expr → BP} {p : PV} {P : List Prop} {pos : Pos}
noncomputable abbrev FOk (c : Fc) (V : View) (F : Expr → VP) : Prop := ∀ e p P, F e = some (p, P) → AllP P → EvOk c e V p V
noncomputable abbrev AOk (c : Fc) (V : View) (A : List Expr → LP) : Prop := ∀ es ps P, A es = some (ps, P) → AllP P → ArgsOk c es V ps V
noncomputable abbrev OOk (c : Fc) (V : View) (O : Option Expr → OP) : Prop := ∀ e k P, O e = some (k, P) → AllP P → PartOk c e V k
noncomputable abbrev TOk (c : Fc) (V : View) (T : Expr → BP) : Prop := ∀ e b P, T e = some (b, P) → AllP P → TvOk c e V b V
noncomputable abbrev BOk (c : Fc) (V : View) (L : BoolOp → List Expr → BP) : Prop := ∀ op es b P, L op es = some (b, P) → AllP P → AllOk c op es V b V
theorem pas_step (ok : c.Ok) (hF : FOk c V F) (hA : AOk c V A) : AOk c V (pasB F A) := fun es ps P h hP => by
  cases es with
  | nil => cases h; exact args_nil
  | cons e r =>
    obtain ⟨hs, h⟩ := oi h
    obtain ⟨z, z', h1, h2, h⟩ := two_is h
    cases h
    rw [AllP.append] at hP
    exact args_cons ok (hF _ _ _ h1 hP.1) (hA _ _ _ h2 hP.2) hs
theorem pop_step (hF : FOk c V F) : OOk c V (popB F) := fun e k P h hP => by
  cases e with
  | none => cases h; exact part_none
  | some e =>
    obtain ⟨z, h1, h⟩ := ob h
    obtain ⟨i, hi, h⟩ := ob h
    cases h
    have := hF _ _ _ h1 hP
    rw [isI_is hi] at this
    exact part_some this
theorem pal_step (hT : TOk c V T) (hL : BOk c V L) : BOk c V (palB T L) := fun op es b P h hP => by
  cases op with
  | And => cases es with
    | nil => cases h; exact all_and_nil
    | cons e r =>
      obtain ⟨z, h1, h⟩ := ob h
      cases h2 : L .And r with
      | some z' =>
        rw [h2] at h
        cases h
        rw [AllP.append] at hP
        exact all_and (hT _ _ _ h1 hP.1) fun _ => hL _ _ _ _ h2 hP.2
      | none =>
        rw [h2] at h
        cases h
        rw [AllP.append] at hP
        have hb := hP.2.1
        rw [show false = (z.1 && true) by rw [hb]; rfl]
        exact all_and (hT _ _ _ h1 hP.1) (fun q => by rw [hb] at q; cases q)
  | Or => cases es with
    | nil => cases h; exact all_or_nil
    | cons e r =>
      obtain ⟨z, h1, h⟩ := ob h
      cases h2 : L .Or r with
      | some z' =>
        rw [h2] at h
        cases h
        rw [AllP.append] at hP
        exact all_or (hT _ _ _ h1 hP.1) fun _ => hL _ _ _ _ h2 hP.2
      | none =>
        rw [h2] at h
        cases h
        rw [AllP.append] at hP
        have hb := hP.2.1
        rw [show true = (z.1 || true) by rw [hb]; rfl]
        exact all_or (hT _ _ _ h1 hP.1) (fun q => by rw [hb] at q; cases q)
theorem cmpE_is {α : Type} {ops : List CmpOp} {rs : List Expr} {z : VP} {k : CmpOp → PV × List Prop → PV × List Prop → Option α} {b : α} (h : cmpE ops rs z F k = some b) : ∃ op r a a', ops = [op] ∧ rs = [r] ∧ behindInMarks op r = false ∧ z = some a ∧ F r = some a' ∧ k op a a' = some b := by
  obtain ⟨op, r, h1, h2, h⟩ := two_is h
  obtain ⟨hm, h⟩ := oe h
  obtain ⟨a, a', h3, h4, h⟩ := two_is h
  exact ⟨op, r, a, a', one_is h1, one_is h2, Bool.eq_false_iff.mpr hm, h3, h4, h⟩
theorem ptCmp_sound (ok : c.Ok) (gk : CfgOk c g) (hF : FOk c V F) {l : Expr} {ops : List CmpOp} {rs : List Expr} {b : Bool} (h : cmpE ops rs (F l) F (ptCmp g) = some (b, P)) (hP : AllP P) : TvOk c (.Compare l ops rs pos) V b V := by
  obtain ⟨op, r, z, z', rfl, rfl, hm, h1, h2, h⟩ := cmpE_is h
  obtain ⟨u, e1, e2⟩ := map_some h
  cases e2
  rw [AllP.append, AllP.append] at hP
  exact tv_cmp ok gk.units (hF _ _ _ h1 hP.1) (hF _ _ _ h2 hP.2.1) gk.nt e1 hP.2.2 hm
theorem peCmp_sound (ok : c.Ok) (gk : CfgOk c g) (hF : FOk c V F) {l : Expr} {ops : List CmpOp} {rs : List Expr} (h : cmpE ops rs (F l) F (peCmp g) = some (p, P)) (hP : AllP P) : EvOk c (.Compare l ops rs pos) V p V := by
  obtain ⟨op, r, z, z', rfl, rfl, hm, h1, h2, h⟩ := cmpE_is h
  obtain ⟨u, e1, e2⟩ := map_some h
  cases e2
  rw [AllP.append, AllP.append] at hP
  exact ev_cmp ok gk.units (hF _ _ _ h1 hP.1) (hF _ _ _ h2 hP.2.1) gk.nt e1 hP.2.2 hm
theorem pt_step (ok : c.Ok) (gk : CfgOk c g) (hF : FOk c V F) (hT : TOk c V T) (hL : BOk c V L) : TOk c V (ptB g F T L V) := fun e b P h hP => by
  cases e with
  | Compare l ops rs pos => exact ptCmp_sound ok gk hF h hP
  | UnaryOp op x pos => cases op with
    | Not =>
      obtain ⟨u, e1, e2⟩ := map_some h
      cases e2
      exact tv_not (hT _ _ _ e1 hP)
    | _ => exact no h
  | BoolOp op es pos => exact tv_boolop (hL _ _ _ _ h hP)
  | Name x pos => exact ptVal_sound rfl (hF _) h hP
  | Attribute b a pos => exact ptVal_sound rfl (hF _) h hP
  | Call f es ks pos => exact ptVal_sound rfl (hF _) h hP
  | Constant k u pos => exact ptVal_sound rfl (hF _) h hP
  | Subscript b i pos => exact ptVal_sound rfl (hF _) h hP
  | _ => exact no h
theorem callN_sound (ok : c.Ok) (gk : CfgOk c g) (hA : AOk c V A) {x : Str} {px : Pos} {es : List Expr} (h : peCallN g x es V (A es) = some (p, P)) (hP : AllP P) : EvOk c (.Call (.Name x px) es [] pos) V p V := by
  obtain ⟨hs, h⟩ := oi h
  obtain ⟨z, z', h1, h2, h⟩ := two_is h
  obtain ⟨fv, hf, h⟩ := ob h
  obtain ⟨u, e1, e2⟩ := map_some h
  cases e2
  rw [AllP.append, AllP.append] at hP
  obtain ⟨k1, k2⟩ := gk.call _ _ _ _ _ e1
  have h1 := peName_sound (pos := px) ok gk h1
  rw [isV_is hf] at h1
  exact ev_call ok h1 k1 hs (hA _ _ _ h2 hP.2.1) (k2 hP.2.2)
theorem callM_sound (ok : c.Ok) (gk : CfgOk c g) (hA : AOk c V A) {b : Expr} {a : Str} {apos : Pos} {es : List Expr} (h : peCallM g b a apos pos es V (A es) = some (p, P)) (hP : AllP P) : EvOk c (.Call (.Attribute b a apos) es [] pos) V p V := by
  obtain ⟨y, hy, h⟩ := ob h
  obtain ⟨hs, h⟩ := oi h
  obtain ⟨z, z', h1, h2, h⟩ := two_is h
  obtain ⟨k, hk, h⟩ := ob h
  obtain ⟨fa, hfa, h⟩ := ob h
  obtain ⟨u, e1, e2⟩ := map_some h
  cases e2
  rw [AllP.append, AllP.append] at hP
  obtain ⟨s1, s2, s3⟩ := callLine_is hs
  obtain ⟨k1, k2⟩ := gk.call _ _ _ _ _ e1
  obtain ⟨C, att, o1, o2, o3, o4⟩ := methOf_is gk hfa
  have h1 := peName_sound (pos := y.2) ok gk h1
  rw [isO_is hk] at h1
  rw [nameIn_is hy]
  exact ev_meth base_name ok h1 o1 o3 o2 k1 s2 s1 s3 (hA _ _ _ h2 hP.2.1) (k2 hP.2.2)
theorem call_step (ok : c.Ok) (gk : CfgOk c g) (hA : AOk c V A) {f : Expr} {es : List Expr} {kws : List Keyword} (h : peCall g f es kws pos V (A es) = some (p, P)) (hP : AllP P) : EvOk c (.Call f es kws pos) V p V := by
  obtain ⟨hk, h⟩ := oi h
  obtain ⟨k, e, h⟩ := ob h
  rw [List.isEmpty_iff.mp hk, calOf_is e]
  cases k with
  | name x px => exact callN_sound ok gk hA h hP
  | attr b a apos => exact callM_sound ok gk hA h hP
theorem rev_sound (ok : c.Ok) (hF : FOk c V F) {b e : Expr} {lo up : Option Expr} {ip : Pos} (h : two (F b) (F e) (peRev lo up) = some (p, P)) (hP : AllP P) : EvOk c (.Subscript b (.Slice lo up (some e) ip) pos) V p V := by
  obtain ⟨z, y, h1, h2, h⟩ := two_is h
  obtain ⟨hn, h⟩ := oi h
  obtain ⟨i, hi, h⟩ := ob h
  obtain ⟨hm, h⟩ := oi h
  obtain ⟨w, e1, e2⟩ := map_some h
  cases e2
  obtain ⟨n1, n2⟩ := Bool.and_eq_true_iff.mp hn
  rw [Option.isNone_iff_eq_none.mp n1, Option.isNone_iff_eq_none.mp n2]
  rw [AllP.append, AllP.append] at hP
  have h2 := hF _ _ _ h2 hP.2.1
  rw [isI_is hi, beq_iff_eq.mp hm] at h2
  exact ev_rev ok (hF _ _ _ h1 hP.1) h2 e1 hP.2.2
theorem sl_sound (ok : c.Ok) (hF : FOk c V F) (hO : OOk c V O) {b : Expr} {lo up : Option Expr} {ip : Pos} (h : (two (F b) (O lo) fun z l => (O up).bind (peSl z l)) = some (p, P)) (hP : AllP P) : EvOk c (.Subscript b (.Slice lo up none ip) pos) V p V := by
  obtain ⟨z, l, h1, h2, h⟩ := two_is h
  obtain ⟨u, h3, h⟩ := ob h
  obtain ⟨w, e1, e2⟩ := map_some h
  cases e2
  rw [AllP.append, AllP.append, AllP.append] at hP
  exact ev_slice ok (hF _ _ _ h1 hP.1) (hO _ _ _ h2 hP.2.1) (hO _ _ _ h3 hP.2.2.1) e1 hP.2.2.2
theorem ix_sound (ok : c.Ok) (hF : FOk c V F) {b ix : Expr} (hpi : plainIdx ix = true) (h : two (F b) (F ix) (peIx V.objs) = some (p, P)) (hP : AllP P) : EvOk c (.Subscript b ix pos) V p V := by
  obtain ⟨z, y, h1, h2, h⟩ := two_is h
  obtain ⟨i, hi, h⟩ := ob h
  cases hk : isO z.1 with
  | some k =>
    rw [hk] at h
    obtain ⟨xs, hx, h⟩ := ob h
    obtain ⟨w, e1, e2⟩ := map_some h
    cases e2
    rw [AllP.append, AllP.append] at hP
    have h1 := hF _ _ _ h1 hP.1
    have h2 := hF _ _ _ h2 hP.2.1
    rw [isO_is hk] at h1
    rw [isI_is hi] at h2
    exact ev_itemO ok h1 h2 (listOfO_is hx) hpi e1 hP.2.2
  | none =>
    rw [hk] at h
    obtain ⟨w, e1, e2⟩ := map_some h
    cases e2
    rw [AllP.append, AllP.append] at hP
    have h2 := hF _ _ _ h2 hP.2.1
    rw [isI_is hi] at h2
    exact ev_item ok (hF _ _ _ h1 hP.1) h2 hpi e1 hP.2.2
theorem sub_step (ok : c.Ok) (gk : CfgOk c g) (hF : FOk c V F) (hO : OOk c V O) {b ix : Expr} (h : peSub1 V.objs (F b) ix F O (sliceOf ix) = some (p, P)) (hP : AllP P) : EvOk c (.Subscript b ix pos) V p V := by
  cases hs : sliceOf ix with
  | some s =>
    rw [hs] at h
    obtain ⟨lo, up, st⟩ := s
    obtain ⟨ip, rfl⟩ := sliceOf_is hs
    cases st with
    | none => exact sl_sound ok hF hO h hP
    | some e => exact rev_sound ok hF h hP
  | none =>
    rw [hs] at h
    obtain ⟨hpi, h⟩ := oi h
    exact ix_sound ok hF hpi h hP
theorem ev_usub {x : Expr} {i : Int} {pos : Pos} (hx : EvOk c x V (.i i) V) : EvOk c (.UnaryOp .USub x pos) V (.i (-i)) V := fun s Q E I h =>
  wpAny_UnaryOp (hx s _ E I fun s1 v I1 t1 i1 => by
    obtain ⟨t, rfl⟩ := i1.ii
    exact P.neg_int (h _ _ (I1.toks _) (t1.trans (.toks _)) (.i _ _)))
theorem attrE_sound (ok : c.Ok) (gk : CfgOk c g) {b : Expr} {a : Str} (h : peAttrE g b a V = some (p, P)) : EvOk c (.Attribute b a pos) V p V := by
  obtain ⟨y, hy, h⟩ := ob h
  obtain ⟨z, h1, h⟩ := ob h
  obtain ⟨k, hk, h⟩ := ob h
  obtain ⟨q, e1, e2⟩ := map_some h
  cases e2
  have h1 := peName_sound (pos := y.2) ok gk h1
  rw [isO_is hk] at h1
  rw [nameIn_is hy]
  exact peAttr_sound ok gk h1 e1
theorem bin_step (ok : c.Ok) (hF : FOk c V F) {l r : Expr} {op : Operator} (h : two (F l) (F r) (peBin op) = some (p, P)) (hP : AllP P) : EvOk c (.BinOp l op r pos) V p V := by
  obtain ⟨z, z', h1, h2, h⟩ := two_is h
  obtain ⟨u, e1, e2⟩ := map_some h
  cases e2
  rw [AllP.append, AllP.append] at hP
  exact ev_bin ok (hF _ _ _ h1 hP.1) (hF _ _ _ h2 hP.2.1) e1 hP.2.2
theorem un_step (hF : FOk c V F) {x : Expr} {op : UnaryOp} (h : peUn op (F x) = some (p, P)) (hP : AllP P) : EvOk c (.UnaryOp op x pos) V p V := by
  cases op with
  | USub =>
    obtain ⟨z, h1, h⟩ := ob h
    obtain ⟨i, hi, h⟩ := ob h
    cases h
    have h1 := hF _ _ _ h1 hP
    rw [isI_is hi] at h1
    exact ev_usub h1
  | _ => exact no h
theorem many_is {k : List PV → PV} {z : LP} (h : peMany k z = some (p, P)) : ∃ ps, z = some (ps, P) ∧ ps.length ≤ 1000 ∧ p = k ps := by
  obtain ⟨⟨ps, P'⟩, h1, h⟩ := ob h
  obtain ⟨hz, h⟩ := oi h
  cases h
  exact ⟨ps, h1, of_decide_eq_true hz, rfl⟩
theorem pe_step (ok : c.Ok) (gk : CfgOk c g) (hF : FOk c V F) (hA : AOk c V A) (hO : OOk c V O) (hT : TOk c V T) : ∀ e p P, peB g F A O T e V = some (p, P) → AllP P → EvOk c e V p V := fun e p P h hP => by
  cases e with
  | Name x pos => exact peName_sound ok gk h
  | Constant k u pos => exact peConst_sound h
  | Call f es kws pos => exact call_step ok gk hA h hP
  | Subscript b ix pos => exact sub_step ok gk hF hO h hP
  | Attribute b a pos => exact attrE_sound ok gk h
  | Compare l ops rs pos => exact peCmp_sound ok gk hF h hP
  | BinOp l op r pos => exact bin_step ok hF h hP
  | UnaryOp op x pos => exact un_step hF h hP
  | Tuple es k pos => obtain ⟨ps, h1, hz, rfl⟩ := many_is h; exact ev_tuple ok (hA _ _ _ h1 hP) hz
  | List es pos => obtain ⟨ps, h1, hz, rfl⟩ := many_is h; exact ev_list ok (hA _ _ _ h1 hP) hz
  | IfExp t a b pos =>
    obtain ⟨z, h1, h⟩ := ob h
    obtain ⟨w, e1, e2⟩ := map_some h
    cases e2
    rw [AllP.append] at hP
    obtain ⟨k1, k2⟩ := iteP_sound (hF a) (hF b) e1 hP.2
    exact ev_ifexp (hT _ _ _ h1 hP.1) k1 k2
  | _ => exact no h
end
theorem pe_ok (ok : c.Ok) (gk : CfgOk c g) : ∀ n : Nat, PeOk c g V n
  | 0 => ⟨(fun _ _ _ h => no h), (fun _ _ _ h => no h), (fun _ _ _ h => no h), (fun _ _ _ h => no h), (fun _ _ _ _ h => no h)⟩
  | n + 1 => let ih := pe_ok ok gk n; ⟨fun e p P h => pe_step ok gk ih.e ih.as ih.o ih.t e p P h, fun es ps P h => pas_step ok ih.e ih.as es ps P h, fun e k P h => pop_step ih.e e k P h, fun e b P h => pt_step ok gk ih.e ih.t ih.al e b P h, fun op es b P h => pal_step ih.t ih.al op es b P h⟩
end
end M6
section N6
/-! ## expressions whose calls turn the objects -/
noncomputable abbrev FP := Option (PV × List PO × List Prop)
noncomputable abbrev LFP := Option (List PV × List PO × List Prop)
noncomputable def plainBase : Expr → Bool
  | .Name .. => true
  | .Attribute .. => true
  | .Subscript .. => true
  | _ => false
noncomputable def orF (z : VP) (objs : List PO) (y : FP) : FP := match z with
  | some z => some (z.1, objs, z.2)
  | none => y
theorem orF_is {z : VP} {objs objs' : List PO} {y : FP} {p : PV} {P : List Prop} (h : orF z objs y = some (p, objs', P)) : (z = some (p, P) ∧ objs' = objs) ∨ y = some (p, objs', P) := by
  cases z with
  | some z => cases h; exact .inl ⟨rfl, rfl⟩
  | none => exact .inr h
/-- a call, its callee and arguments known -/
noncomputable def appF (g : Cfg) (f : Value) (ps : List PV) (objs : List PO) : FP := orF (g.call f ps objs) objs (g.ecall f ps objs)
noncomputable def pfApp (g : Cfg) (f : Value) (ps : List PV) (objs : List PO) (P Q : List Prop) : FP := (appF g f ps objs).map fun u => (u.1, u.2.1, P ++ (Q ++ u.2.2))
noncomputable def pfCallN (g : Cfg) (x : Str) (es : List Expr) (V : View) (as : LFP) : FP := if es.all noStar then two (peName g x V) as fun z z' => (isV z.1).bind fun fv => pfApp g fv z'.1 z'.2.1 z.2 z'.2.2 else none
noncomputable def pfMeth (g : Cfg) (as : LFP) (a : Str) (z : PV × List PO × List Prop) (k : Nat) : Option (List PV) → FP
  | some _ => as.bind fun z' => (listOfO z'.2.1 k).bind fun xs => (lmP a xs z'.1).map fun u => (u.1, z'.2.1.set k (.list u.2.1), z.2.2 ++ (z'.2.2 ++ u.2.2))
  | none => two (methOf g z.2.1 a k) as fun fa z' => pfApp g (.ref fa) (.o k :: z'.1) z'.2.1 z.2.2 z'.2.2
noncomputable def pfCallM (g : Cfg) (F : Expr → View → FP) (A : List Expr → View → LFP) (b : Expr) (a : Str) (apos pos : Pos) (es : List Expr) (V : View) : FP := if plainBase b && callLine apos pos es then (F b V).bind fun z => (isO z.1).bind fun k => pfMeth g (A es ⟨V.loc, z.2.1⟩) a z k (listOfO z.2.1 k) else none
noncomputable def pfCal (g : Cfg) (F : Expr → View → FP) (A : List Expr → View → LFP) (pos : Pos) (es : List Expr) (V : View) : Cal → FP
  | .name x _ => pfCallN g x es V (A es V)
  | .attr b a apos => pfCallM g F A b a apos pos es V
noncomputable def pfMany (k : List PV → PV) (z : LFP) : FP := z.bind fun z => if decide (z.1.length ≤ 1000) then some (k z.1, z.2) else none
noncomputable def pfBin (F : Expr → View → FP) (op : Operator) (l r : Expr) (V : View) : FP := (F l V).bind fun z => (F r ⟨V.loc, z.2.1⟩).bind fun z' => (binP op z.1 z'.1).map fun u => (u.1, z'.2.1, z.2.2 ++ (z'.2.2 ++ u.2))
noncomputable def pfB (g : Cfg) (F : Expr → View → FP) (A : List Expr → View → LFP) (e : Expr) (V : View) : FP := match e with
  | .Call f es kws pos => if kws.isEmpty then (calOf f).bind (pfCal g F A pos es V) else none
  | .BinOp l op r _ => pfBin F op l r V
  | .Tuple es _ _ => pfMany .t (A es V)
  | .List es _ => pfMany .l (A es V)
  | _ => none
noncomputable def pfsB (F : Expr → View → FP) (A : List Expr → View → LFP) (es : List Expr) (V : View) : LFP := match es with
  | [] => some ([], V.objs, [])
  | e :: r => if noStar e then (F e V).bind fun z => (A r ⟨V.loc, z.2.1⟩).bind fun z' => some (z.1 :: z'.1, z'.2.1, z.2.2 ++ z'.2.2) else none
mutual
noncomputable def pf (g : Cfg) : Nat → Expr → View → FP
  | 0, _, _ => none
  | n + 1, e, V => orF (pe g (n + 1) e V) V.objs (pfB g (fun e V => pf g n e V) (fun es V => pfs g n es V) e V)
noncomputable def pfs (g : Cfg) : Nat → List Expr → View → LFP
  | 0, _, _ => none
  | n + 1, es, V => pfsB (fun e V => pf g n e V) (fun es V => pfs g n es V) es V
end
section
variable {c : Fc} {g : Cfg}
theorem appF_sound (gk : CfgOk c g) {f : Value} {ps : List PV} {objs objs' : List PO} {p : PV} {P : List Prop} (h : appF g f ps objs = some (p, objs', P)) : keepOk c.K f = true ∧ (AllP P → CallOk c f ps objs p objs') := by
  rcases orF_is h with ⟨h1, rfl⟩ | h
  · exact gk.call _ _ _ _ _ h1
  · exact gk.ecall _ _ _ _ _ _ h
theorem pfApp_is (gk : CfgOk c g) {f : Value} {ps : List PV} {objs objs' : List PO} {p : PV} {P Q R : List Prop} (h : pfApp g f ps objs P Q = some (p, objs', R)) (hP : AllP R) : AllP P ∧ AllP Q ∧ keepOk c.K f = true ∧ CallOk c f ps objs p objs' := by
  obtain ⟨u, e1, e2⟩ := map_some h
  cases e2
  rw [AllP.append, AllP.append] at hP
  obtain ⟨k1, k2⟩ := appF_sound gk e1
  exact ⟨hP.1, hP.2.1, k1, k2 hP.2.2⟩
noncomputable abbrev FFOk (c : Fc) (F : Expr → View → FP) : Prop := ∀ e V p objs P, F e V = some (p, objs, P) → AllP P → EvOk c e V p ⟨V.loc, objs⟩
noncomputable abbrev FAOk (c : Fc) (A : List Expr → View → LFP) : Prop := ∀ es V ps objs P, A es V = some (ps, objs, P) → AllP P → ArgsOk c es V ps ⟨V.loc, objs⟩
structure PfOk (c : Fc) (g : Cfg) (n : Nat) : Prop where
  e : FFOk c (pf g n)
  as : FAOk c (pfs g n)
section
variable {F : Expr → View → FP} {A : List Expr → View → LFP}
theorem pfs_step (ok : c.Ok) (hF : FFOk c F) (hA : FAOk c A) : FAOk c (pfsB F A) := fun es V ps objs P h hP => by
  cases es with
  | nil => cases h; exact args_nil
  | cons e r =>
    obtain ⟨hs, h⟩ := oi h
    obtain ⟨z, h1, h⟩ := ob h
    obtain ⟨z', h2, h⟩ := ob h
    cases h
    rw [AllP.append] at hP
    exact args_cons ok (hF _ _ _ _ _ h1 hP.1) (hA _ _ _ _ _ h2 hP.2) hs
theorem base_of {b : Expr} (h : plainBase b = true) {a : Str} {env : Env} : attributeBase b a env (eval b env) = eval b env := by
  cases b <;> first | rfl | exact nof h
variable {V : View} {p : PV} {objs : List PO} {P : List Prop} {pos : Pos}
theorem pfCallN_sound (ok : c.Ok) (gk : CfgOk c g) (hA : FAOk c A) {x : Str} {px : Pos} {es : List Expr} (h : pfCallN g x es V (A es V) = some (p, objs, P)) (hP : AllP P) : EvOk c (.Call (.Name x px) es [] pos) V p ⟨V.loc, objs⟩ := by
  obtain ⟨hs, h⟩ := oi h
  obtain ⟨z, z', h1, h2, h⟩ := two_is h
  obtain ⟨fv, hf, h⟩ := ob h
  obtain ⟨_, q2, k1, k2⟩ := pfApp_is gk h hP
  have h1 := peName_sound (pos := px) ok gk h1
  rw [isV_is hf] at h1
  exact ev_call ok h1 k1 hs (hA _ _ _ _ _ h2 q2) k2
theorem pfCallM_sound (ok : c.Ok) (gk : CfgOk c g) (hF : FFOk c F) (hA : FAOk c A) {b : Expr} {a : Str} {apos : Pos} {es : List Expr} (h : pfCallM g F A b a apos pos es V = some (p, objs, P)) (hP : AllP P) : EvOk c (.Call (.Attribute b a apos) es [] pos) V p ⟨V.loc, objs⟩ := by
  obtain ⟨hs, h⟩ := oi h
  obtain ⟨z, h1, h⟩ := ob h
  obtain ⟨k, hk, h⟩ := ob h
  obtain ⟨hb, hs⟩ := Bool.and_eq_true_iff.mp hs
  obtain ⟨s1, s2, s3⟩ := callLine_is hs
  have hz : AllP z.2.2 → EvOk c b V (.o k) ⟨V.loc, z.2.1⟩ := fun q => by
    have h1 := hF _ _ _ _ _ h1 q
    rwa [isO_is hk] at h1
  cases hx0 : listOfO z.2.1 k with
  | some xs0 =>
    rw [hx0] at h
    obtain ⟨z', h2, h⟩ := ob h
    obtain ⟨xs, hx, h⟩ := ob h
    obtain ⟨u, e1, e2⟩ := map_some h
    cases e2
    rw [AllP.append, AllP.append] at hP
    exact ev_lmeth ok (base_of hb) (hz hP.1) (listOfO_is hx0) s2 s1 s3 (hA _ _ _ _ _ h2 hP.2.1) (listOfO_is hx) e1 hP.2.2
  | none =>
    rw [hx0] at h
    obtain ⟨fa, z', hfa, h2, h⟩ := two_is h
    obtain ⟨q1, q2, k1, k2⟩ := pfApp_is gk h hP
    obtain ⟨C, att, o1, o2, o3, o4⟩ := methOf_is gk hfa
    exact ev_meth (base_of hb) ok (hz q1) o1 o3 o2 k1 s2 s1 s3 (hA _ _ _ _ _ h2 q2) k2
theorem pfMany_is {k : List PV → PV} {z : LFP} (h : pfMany k z = some (p, objs, P)) : ∃ ps, z = some (ps, objs, P) ∧ ps.length ≤ 1000 ∧ p = k ps := by
  obtain ⟨⟨ps, P'⟩, h1, h⟩ := ob h
  obtain ⟨hz, h⟩ := oi h
  cases h
  exact ⟨ps, h1, of_decide_eq_true hz, rfl⟩
theorem pf_step (ok : c.Ok) (gk : CfgOk c g) (hF : FFOk c F) (hA : FAOk c A) : FFOk c (pfB g F A) := fun e V p objs P h hP => by
  cases e with
  | Call f es kws pos =>
    obtain ⟨hk, h⟩ := oi h
    obtain ⟨k, e, h⟩ := ob h
    rw [List.isEmpty_iff.mp hk, calOf_is e]
    cases k with
    | name x px => exact pfCallN_sound ok gk hA h hP
    | attr b a apos => exact pfCallM_sound ok gk hF hA h hP
  | BinOp l op r pos =>
    obtain ⟨z, h1, h⟩ := ob h
    obtain ⟨z', h2, h⟩ := ob h
    obtain ⟨u, e1, e2⟩ := map_some h
    cases e2
    rw [AllP.append, AllP.append] at hP
    exact ev_bin ok (hF _ _ _ _ _ h1 hP.1) (hF _ _ _ _ _ h2 hP.2.1) e1 hP.2.2
  | Tuple es k pos => obtain ⟨ps, h1, hz, rfl⟩ := pfMany_is h; exact ev_tuple ok (hA _ _ _ _ _ h1 hP) hz
  | List es pos => obtain ⟨ps, h1, hz, rfl⟩ := pfMany_is h; exact ev_list ok (hA _ _ _ _ _ h1 hP) hz
  | _ => exact no h
end
theorem pf_ok (ok : c.Ok) (gk : CfgOk c g) : ∀ n : Nat, PfOk c g n
  | 0 => ⟨(fun _ _ _ _ _ h => no h), (fun _ _ _ _ _ h => no h)⟩
  | n + 1 => let ih := pf_ok ok gk n; ⟨fun e V p objs P h hP => by
      rcases orF_is h with ⟨h1, rfl⟩ | h
      · exact (pe_ok ok gk _).e _ _ _ h1 hP
      · exact pf_step ok gk ih.e ih.as e V p objs P h hP, fun es V ps objs P h => pfs_step ok ih.e ih.as es V ps objs P h⟩
end
/-! ### statements: a written way through them -/
noncomputable abbrev Ds := List (Option Bool)
noncomputable abbrev SP := Option (PF × Ds × View × List Prop)
inductive Tgt where
  | name (x : Str)
  | attr (y : Str) (py : Pos) (a : Str)
  | tup (ts : List Expr)
noncomputable def tgtOf : Expr → Option Tgt
  | .Name x _ => some (.name x)
  | .Attribute b a _ => (nameIn b).map fun y => .attr y.1 y.2 a
  | .Tuple ts _ _ => some (.tup ts)
  | _ => none
/-- an environment that has this scope -/
noncomputable def scEnv (s : Scope) : Env := { locals := 0, globals := 0, builtins := 0, scope := s, cells := [] }
noncomputable def pureO {α : Type} : Sem α → Option α
  | .pure r => some r
  | _ => none
theorem pureO_is {α : Type} {t : Sem α} {r : α} (h : pureO t = some r) : t = .pure r := by
  cases t with
  | pure a => cases h; rfl
  | _ => exact no h
/-- in which order the parts of a tuple are stored -/
noncomputable def swOf (g : Cfg) (t e : Expr) : Option (Option (List Str)) := pureO (swappedStores [t] e (scEnv g.scope))
noncomputable def allLocal (g : Cfg) (xs : List Str) : Bool := xs.all fun x => g.scope.names.lookup x == some .local
noncomputable def setAt (g : Cfg) (objs : List PO) (a : Str) (k : Nat) (p : PV) : Option (List PO) := (instOf objs k).bind fun z => (g.seta.lookup z.1).bind fun ns => if ns.contains a && decide (z.2.length ≤ 900) then some (objs.set k (.inst z.1 (put a p z.2))) else none
noncomputable def sxTup (g : Cfg) (ts : List Expr) (ps : List PV) (ds : Ds) (V : View) (objs : List PO) (P : List Prop) : Option (List Str) → SP
  | none => (namesOf ts).bind fun xs => if xs.length == ps.length && allLocal g xs then some (.next, ds, ⟨putAll xs ps V.loc, objs⟩, P) else none
  | some xs => if xs.length == ps.length && allLocal g xs then some (.next, ds, ⟨putAll xs.reverse ps.reverse V.loc, objs⟩, P) else none
noncomputable def sxTgt (g : Cfg) (t e : Expr) (ds : Ds) (V : View) (z : PV × List PO × List Prop) : Tgt → SP
  | .name x => if g.scope.names.lookup x == some .local then some (.next, ds, ⟨put x z.1 V.loc, z.2.1⟩, z.2.2) else none
  | .attr y _ a => (peName g y ⟨V.loc, z.2.1⟩).bind fun z' => (isO z'.1).bind fun k => (setAt g z.2.1 a k z.1).map fun o => (.next, ds, ⟨V.loc, o⟩, z.2.2 ++ z'.2)
  | .tup ts => two (isT z.1) (swOf g t e) fun ps sw => sxTup g ts ps ds V z.2.1 z.2.2 sw
noncomputable def sxAssign (g : Cfg) (n : Nat) (t e : Expr) (ds : Ds) (V : View) : SP := (tgtOf t).bind fun tg => if notComp e then (pf g n e V).bind fun z => sxTgt g t e ds V z tg else none
noncomputable def augRead (g : Cfg) (objs : List PO) (a : Str) (k : Nat) : Option PV := (instOf objs k).bind fun w => (g.attr.lookup w.1).bind fun ns => if ns.contains a then (w.2.lookup a).bind handO else none
noncomputable def sxAugT (g : Cfg) (E : VP) (ds : Ds) (V : View) : Tgt → SP
  | .name x => if g.scope.names.lookup x == some .local then two (V.loc.lookup x) E fun p z => (addP p z.1).map fun u => (.next, ds, { V with loc := put x u.1 V.loc }, z.2 ++ u.2) else none
  | .attr y _ a => (peName g y V).bind fun z => (isO z.1).bind fun k => two (augRead g V.objs a k) E fun p z' => (addP p z'.1).bind fun u => (setAt g V.objs a k u.1).map fun o => (.next, ds, ⟨V.loc, o⟩, z.2 ++ (z'.2 ++ u.2))
  | .tup _ => none
noncomputable def sxAug (g : Cfg) (n : Nat) (t : Expr) (op : Operator) (e : Expr) (ds : Ds) (V : View) : SP := match op with
  | .Add => (tgtOf t).bind (sxAugT g (pe g n e V) ds V)
  | _ => none
noncomputable def addS (P : List Prop) (x : SP) : SP := x.map fun w => (w.1, w.2.1, w.2.2.1, P ++ w.2.2.2)
noncomputable def sxIf (X : List Stmt → Ds → View → SP) (b e : List Stmt) (V : View) (z : Bool × List Prop) : Ds → SP
  | [] => addS z.2 (X (if z.1 then b else e) [] V)
  | some d :: ds => (X (if d then b else e) ds V).map fun w => (w.1, w.2.1, w.2.2.1, z.2 ++ ((z.1 = d) :: w.2.2.2))
  | none :: ds => addS z.2 (X (if z.1 then b else e) ds V)
noncomputable def sxRet (F : Expr → View → FP) (ds : Ds) (V : View) : Option Expr → SP
  | some e => (F e V).map fun z => (.ret z.1, ds, ⟨V.loc, z.2.1⟩, z.2.2)
  | none => some (.ret (.v .none), ds, V, [])
noncomputable def sxB (g : Cfg) (n : Nat) (X : List Stmt → Ds → View → SP) (st : Stmt) (ds : Ds) (V : View) : SP := match st with
  | .Assign ts e _ => (one ts).bind fun t => sxAssign g n t e ds V
  | .AugAssign t op e _ => sxAug g n t op e ds V
  | .If t b e _ => (pt g n t V).bind fun z => sxIf X b e V z ds
  | .Return e _ => sxRet (pf g n) ds V e
  | .Break _ => some (.brk, ds, V, [])
  | .Continue _ => some (.cont, ds, V, [])
  | .Pass _ => some (.next, ds, V, [])
  | .Expr e _ => if notComp e then (pf g n e V).map fun z => (.next, ds, ⟨V.loc, z.2.1⟩, z.2.2) else none
  | _ => none
noncomputable def xsK (X : List Stmt → Ds → View → SP) (r : List Stmt) (z : PF × Ds × View × List Prop) : PF → SP
  | .next => addS z.2.2.2 (X r z.2.1 z.2.2.1)
  | _ => some z
noncomputable def xsB (S : Stmt → Ds → View → SP) (X : List Stmt → Ds → View → SP) (b : List Stmt) (ds : Ds) (V : View) : SP := match b with
  | [] => some (.next, ds, V, [])
  | st :: r => (S st ds V).bind fun z => xsK X r z z.1
mutual
noncomputable def sx (g : Cfg) : Nat → Stmt → Ds → View → SP
  | 0, _, _, _ => none
  | n + 1, st, ds, V => sxB g n (fun b ds V => xs g n b ds V) st ds V
noncomputable def xs (g : Cfg) : Nat → List Stmt → Ds → View → SP
  | 0, _, _, _ => none
  | n + 1, b, ds, V => xsB (fun st ds V => sx g n st ds V) (fun b ds V => xs g n b ds V) b ds V
end
section
variable {c : Fc} {g : Cfg}
noncomputable def TgtIs (t : Expr) : Tgt → Prop
  | .name x => ∃ p, t = .Name x p
  | .attr y py a => ∃ p, t = .Attribute (.Name y py) a p
  | .tup ts => ∃ k p, t = .Tuple ts k p
theorem tgt_is {t : Expr} {tg : Tgt} (h : tgtOf t = some tg) : TgtIs t tg := by
  cases t with
  | Name x p => cases h; exact ⟨_, rfl⟩
  | Attribute b a p =>
    obtain ⟨y, hy, h⟩ := map_some h
    cases h; rw [nameIn_is hy]; exact ⟨_, rfl⟩
  | Tuple ts k p => cases h; exact ⟨_, _, rfl⟩
  | _ => exact no h
theorem setAt_is {objs objs' : List PO} {a : Str} {k : Nat} {p : PV} (gk : CfgOk c g) (h : setAt g objs a k p = some objs') : ∃ C att, objs[k]? = some (.inst C att) ∧ setOk c.K C a = true ∧ att.length ≤ 900 ∧ objs' = objs.set k (.inst C (put a p att)) := by
  obtain ⟨z, hz, h⟩ := ob h
  obtain ⟨ns, hns, h⟩ := ob h
  obtain ⟨hq, h⟩ := oi h
  obtain ⟨q1, q2⟩ := Bool.and_eq_true_iff.mp hq
  cases h
  exact ⟨_, _, instOf_is hz, gk.seta _ _ hns _ q1, of_decide_eq_true q2, rfl⟩
theorem sw_same {ts : List Expr} {e : Expr} : ∀ a b : Env, a.scope = b.scope → swappedStores ts e a = swappedStores ts e b := fun a b h => by
  obtain ⟨⟩ := a
  obtain ⟨⟩ := b
  cases h
  rfl
theorem swOf_is (gk : CfgOk c g) {t e : Expr} {r : Option (List Str)} (h : swOf g t e = some r) : swappedStores [t] e c.env = pure r := (sw_same c.env (scEnv g.scope) gk.scope).trans (pureO_is h)
theorem allLocal_is (gk : CfgOk c g) {xs : List Str} (h : allLocal g xs = true) : ∀ x ∈ xs, c.env.kindOf x = some .local := fun x hx => (kind_of gk x).trans (beq_iff_eq.mp (List.all_eq_true.mp h x hx))
section
variable {V V' : View} {ds ds' : Ds} {f : PF} {P : List Prop} {pos : Pos}
theorem sxTup_sound (ok : c.Ok) (gk : CfgOk c g) {ts : List Expr} {k : Nat} {tp : Pos} {e : Expr} {ps : List PV} {objs : List PO} {Q : List Prop} {sw : Option (List Str)} (he : AllP Q → EvOk c e V (.t ps) ⟨V.loc, objs⟩) (hc : notComp e = true) (hsw : swOf g (.Tuple ts k tp) e = some sw) (h : sxTup g ts ps ds V objs Q sw = some (f, ds', V', P)) (hP : AllP P) : SxOk c (.Assign [.Tuple ts k tp] e pos) V f V' := by
  cases sw with
  | none =>
    obtain ⟨xs, hxs, h⟩ := ob h
    obtain ⟨hq, h⟩ := oi h
    obtain ⟨q1, q2⟩ := Bool.and_eq_true_iff.mp hq
    cases h
    exact sx_unpack ok gk.handled hxs (beq_iff_eq.mp q1) (allLocal_is gk q2) (he hP) hc (swOf_is gk hsw)
  | some xs =>
    obtain ⟨hq, h⟩ := oi h
    obtain ⟨q1, q2⟩ := Bool.and_eq_true_iff.mp hq
    cases h
    exact sx_unpackS ok gk.handled (beq_iff_eq.mp q1) (allLocal_is gk q2) (he hP) hc (swOf_is gk hsw)
theorem attr_sound (ok : c.Ok) (gk : CfgOk c g) {y a : Str} {py ap : Pos} {e : Expr} {z : PV × List PO × List Prop} {t : Expr} (he : AllP z.2.2 → EvOk c e V z.1 ⟨V.loc, z.2.1⟩) (hc : notComp e = true) (h : sxTgt g t e ds V z (.attr y py a) = some (f, ds', V', P)) (hP : AllP P) : SxOk c (.Assign [.Attribute (.Name y py) a ap] e pos) V f V' := by
  obtain ⟨z', h2, h⟩ := ob h
  obtain ⟨k, hk, h⟩ := ob h
  obtain ⟨o, e1, e2⟩ := map_some h
  cases e2
  rw [AllP.append] at hP
  obtain ⟨C, att, o1, o2, o3, rfl⟩ := setAt_is gk e1
  have h2 := peName_sound (pos := py) ok gk h2
  rw [isO_is hk] at h2
  exact sx_setattr ok (he hP.1) h2 o1 o2 o3 hc
theorem sxTgt_sound (ok : c.Ok) (gk : CfgOk c g) {t e : Expr} {tg : Tgt} {z : PV × List PO × List Prop} (ht : TgtIs t tg) (he : AllP z.2.2 → EvOk c e V z.1 ⟨V.loc, z.2.1⟩) (hc : notComp e = true) (h : sxTgt g t e ds V z tg = some (f, ds', V', P)) (hP : AllP P) : SxOk c (.Assign [t] e pos) V f V' := by
  cases tg with
  | name x =>
    obtain ⟨p, rfl⟩ := ht
    obtain ⟨hl, h⟩ := oi h
    cases h
    exact sx_assign ok ((kind_of gk _).trans (beq_iff_eq.mp hl)) (he hP) hc
  | attr y py a =>
    obtain ⟨p, rfl⟩ := ht
    exact attr_sound ok gk he hc h hP
  | tup ts =>
    obtain ⟨k, p, rfl⟩ := ht
    obtain ⟨ps, sw, hps, hsw, h⟩ := two_is h
    rw [isT_is hps] at he
    exact sxTup_sound ok gk he hc hsw h hP
theorem sxAssign_sound (ok : c.Ok) (gk : CfgOk c g) {n : Nat} {t e : Expr} (h : sxAssign g n t e ds V = some (f, ds', V', P)) (hP : AllP P) : SxOk c (.Assign [t] e pos) V f V' := by
  obtain ⟨tg, htg, h⟩ := ob h
  obtain ⟨hc, h⟩ := oi h
  obtain ⟨z, h1, h⟩ := ob h
  exact sxTgt_sound ok gk (tgt_is htg) ((pf_ok ok gk n).e _ _ _ _ _ h1) hc h hP
theorem augRead_is {objs : List PO} {a : Str} {k : Nat} {p : PV} (gk : CfgOk c g) (h : augRead g objs a k = some p) : ∃ C att, objs[k]? = some (.inst C att) ∧ attrOk c.K C a = true ∧ att.lookup a = some p ∧ handedP p = true := by
  obtain ⟨w, hw, h⟩ := ob h
  obtain ⟨ns, hns, h⟩ := ob h
  obtain ⟨hc, h⟩ := oi h
  obtain ⟨q, hp, h⟩ := ob h
  obtain ⟨rfl, hh⟩ := handO_is h
  exact ⟨_, _, instOf_is hw, gk.attr _ _ hns _ hc, hp, hh⟩
theorem augAttr_sound (ok : c.Ok) (gk : CfgOk c g) {y a : Str} {py ap : Pos} {e : Expr} {E : VP} (he : ∀ q Q, E = some (q, Q) → AllP Q → EvOk c e V q V) (h : sxAugT g E ds V (.attr y py a) = some (f, ds', V', P)) (hP : AllP P) : SxOk c (.AugAssign (.Attribute (.Name y py) a ap) .Add e pos) V f V' := by
  obtain ⟨z, h1, h⟩ := ob h
  obtain ⟨k, hk, h⟩ := ob h
  obtain ⟨p, z', hp, h2, h⟩ := two_is h
  obtain ⟨u, hu, h⟩ := ob h
  obtain ⟨o, e1, e2⟩ := map_some h
  cases e2
  rw [AllP.append, AllP.append] at hP
  obtain ⟨C, att, o1, o2, o3, rfl⟩ := setAt_is gk e1
  obtain ⟨C', att', r1, r2, r3, r4⟩ := augRead_is gk hp
  rw [o1] at r1
  cases r1
  have h1 := peName_sound (pos := py) ok gk h1
  rw [isO_is hk] at h1
  exact sx_augattr ok h1 o1 r2 r3 r4 (he _ _ h2 hP.2.1) hu hP.2.2 o2 o3
theorem augT_sound (ok : c.Ok) (gk : CfgOk c g) {t e : Expr} {tg : Tgt} {E : VP} (ht : TgtIs t tg) (he : ∀ q Q, E = some (q, Q) → AllP Q → EvOk c e V q V) (h : sxAugT g E ds V tg = some (f, ds', V', P)) (hP : AllP P) : SxOk c (.AugAssign t .Add e pos) V f V' := by
  cases tg with
  | name x =>
    obtain ⟨p, rfl⟩ := ht
    obtain ⟨hl, h⟩ := oi h
    obtain ⟨p, z, hp, h1, h⟩ := two_is h
    obtain ⟨u, e1, e2⟩ := map_some h
    cases e2
    rw [AllP.append] at hP
    exact sx_aug ok ((kind_of gk _).trans (beq_iff_eq.mp hl)) hp (he _ _ h1 hP.1) e1 hP.2
  | attr y py a =>
    obtain ⟨p, rfl⟩ := ht
    exact augAttr_sound ok gk he h hP
  | tup ts => exact no h
theorem sxAug_sound (ok : c.Ok) (gk : CfgOk c g) {n : Nat} {t e : Expr} {op : Operator} (h : sxAug g n t op e ds V = some (f, ds', V', P)) (hP : AllP P) : SxOk c (.AugAssign t op e pos) V f V' := by
  cases op with
  | Add =>
    obtain ⟨tg, htg, h⟩ := ob h
    exact augT_sound ok gk (tgt_is htg) ((pe_ok (V := V) ok gk n).e e) h hP
  | _ => exact no h
end
noncomputable abbrev SOk (c : Fc) (S : Stmt → Ds → View → SP) : Prop := ∀ st ds V f ds' V' P, S st ds V = some (f, ds', V', P) → AllP P → SxOk c st V f V'
noncomputable abbrev XOk (c : Fc) (X : List Stmt → Ds → View → SP) : Prop := ∀ b ds V f ds' V' P, X b ds V = some (f, ds', V', P) → AllP P → ExOk c b V f V'
structure SxK (c : Fc) (g : Cfg) (n : Nat) : Prop where
  s : SOk c (sx g n)
  b : XOk c (xs g n)
theorem addS_is {P : List Prop} {x : SP} {f : PF} {ds : Ds} {V : View} {R : List Prop} (h : addS P x = some (f, ds, V, R)) : ∃ Q, x = some (f, ds, V, Q) ∧ R = P ++ Q := by
  obtain ⟨w, e1, e2⟩ := map_some h
  cases e2
  exact ⟨_, e1, rfl⟩
/-- the two ends of a statement within a block -/
theorem xsB_is {S : Stmt → Ds → View → SP} {X : List Stmt → Ds → View → SP} {st : Stmt} {r : List Stmt} {ds ds' : Ds} {V V' : View} {f : PF} {P : List Prop} (h : xsB S X (st :: r) ds V = some (f, ds', V', P)) :
    (∃ ds1 V1 P1 P2, S st ds V = some (.next, ds1, V1, P1) ∧ X r ds1 V1 = some (f, ds', V', P2) ∧ P = P1 ++ P2) ∨ (S st ds V = some (f, ds', V', P) ∧ f ≠ .next) := by
  obtain ⟨⟨zf, zd, zV, zP⟩, h1, h⟩ := ob h
  cases zf with
  | next =>
    obtain ⟨Q, h2, rfl⟩ := addS_is h
    exact .inl ⟨_, _, _, _, h1, h2, rfl⟩
  | brk => cases h; exact .inr ⟨h1, fun q => nomatch q⟩
  | cont => cases h; exact .inr ⟨h1, fun q => nomatch q⟩
  | ret p => cases h; exact .inr ⟨h1, fun q => nomatch q⟩
section
variable {S : Stmt → Ds → View → SP} {X : List Stmt → Ds → View → SP}
theorem xs_step (ok : c.Ok) (hS : SOk c S) (hX : XOk c X) : XOk c (xsB S X) := fun b ds V f ds' V' P h hP => by
  cases b with
  | nil => cases h; exact ex_nil
  | cons st r =>
    rcases xsB_is h with ⟨_, _, _, _, h1, h2, rfl⟩ | ⟨h1, hn⟩
    · rw [AllP.append] at hP
      exact ex_cons (hS _ _ _ _ _ _ _ h1 hP.1) (hX _ _ _ _ _ _ _ h2 hP.2)
    · exact ex_stop (hS _ _ _ _ _ _ _ h1 hP) hn
/-- what an if was told -/
theorem sxIf_is {b e : List Stmt} {V V' : View} {z : Bool × List Prop} {ds ds' : Ds} {f : PF} {P : List Prop} (h : sxIf X b e V z ds = some (f, ds', V', P)) (hP : AllP P) : ∃ d ds1 Q, AllP z.2 ∧ z.1 = d ∧ X (if d then b else e) ds1 V = some (f, ds', V', Q) ∧ AllP Q := by
  cases ds with
  | nil =>
    obtain ⟨Q, h2, rfl⟩ := addS_is h
    rw [AllP.append] at hP
    exact ⟨_, _, _, hP.1, rfl, h2, hP.2⟩
  | cons d ds => cases d with
    | some d =>
      obtain ⟨w, e1, e2⟩ := map_some h
      cases e2
      rw [AllP.append] at hP
      exact ⟨d, _, _, hP.1, hP.2.1, e1, hP.2.2⟩
    | none =>
      obtain ⟨Q, h2, rfl⟩ := addS_is h
      rw [AllP.append] at hP
      exact ⟨_, _, _, hP.1, rfl, h2, hP.2⟩
theorem if_step (ok : c.Ok) (gk : CfgOk c g) {n : Nat} (hX : XOk c X) {t : Expr} {b e : List Stmt} {pos : Pos} {ds ds' : Ds} {V V' : View} {f : PF} {P : List Prop} (h : ((pt g n t V).bind fun z => sxIf X b e V z ds) = some (f, ds', V', P)) (hP : AllP P) : SxOk c (.If t b e pos) V f V' := by
  obtain ⟨z, h1, h⟩ := ob h
  obtain ⟨d, ds1, Q, q1, rfl, h2, q2⟩ := sxIf_is h hP
  exact sx_if ((pe_ok (V := V) ok gk n).t _ _ _ h1 q1) (hX _ _ _ _ _ _ _ h2 q2)
theorem sx_step (ok : c.Ok) (gk : CfgOk c g) {n : Nat} (hX : XOk c X) : SOk c (sxB g n X) := fun st ds V f ds' V' P h hP => by
  have ip := (pf_ok ok gk n).e
  cases st with
  | If t b e pos => exact if_step ok gk hX h hP
  | Assign ts e pos =>
    obtain ⟨t, ht, h⟩ := ob h
    rw [one_is ht]
    exact sxAssign_sound ok gk h hP
  | AugAssign t op e pos => exact sxAug_sound (n := n) ok gk h hP
  | Return e pos => cases e with
    | some e =>
      obtain ⟨z, e1, e2⟩ := map_some h
      cases e2
      exact sx_return (ip _ _ _ _ _ e1 hP)
    | none => cases h; exact sx_return0
  | Break => cases h; exact sx_break
  | Continue => cases h; exact sx_continue
  | Pass => cases h; exact sx_pass
  | Expr e pos =>
    obtain ⟨hc, h⟩ := oi h
    obtain ⟨z, e1, e2⟩ := map_some h
    cases e2
    exact sx_expr ok (ip _ _ _ _ _ e1 hP) hc
  | _ => exact no h
end
theorem sx_ok (ok : c.Ok) (gk : CfgOk c g) : ∀ n : Nat, SxK c g n
  | 0 => ⟨(fun _ _ _ _ _ _ _ h => no h), (fun _ _ _ _ _ _ _ h => no h)⟩
  | n + 1 => let ih := sx_ok ok gk n; ⟨fun st ds V f ds' V' P h => sx_step ok gk ih.b st ds V f ds' V' P h, fun b ds V f ds' V' P h => xs_step ok ih.s ih.b b ds V f ds' V' P h⟩
theorem sx_sound (ok : c.Ok) (gk : CfgOk c g) (n : Nat) : (∀ st ds V f ds' V' P, sx g n st ds V = some (f, ds', V', P) → AllP P → SxOk c st V f V') ∧ (∀ b ds V f ds' V' P, xs g n b ds V = some (f, ds', V', P) → AllP P → ExOk c b V f V') := ⟨(sx_ok ok gk n).s, (sx_ok ok gk n).b⟩
theorem pt_sound {V : View} (ok : c.Ok) (gk : CfgOk c g) (n : Nat) : (∀ e b P, pt g n e V = some (b, P) → AllP P → TvOk c e V b V) ∧ (∀ op es b P, pal g n op es V = some (b, P) → AllP P → AllOk c op es V b V) := ⟨(pe_ok ok gk n).t, (pe_ok ok gk n).al⟩
theorem xs_next {n : Nat} {st : Stmt} {r : List Stmt} {ds ds' : Ds} {V V1 : View} {P : List Prop} (h : xs g (n + 1) (st :: r) ds V = some (.next, ds', V1, P)) : ∃ ds1 V0 P1 P2, sx g n st ds V = some (.next, ds1, V0, P1) ∧ xs g n r ds1 V0 = some (.next, ds', V1, P2) ∧ P = P1 ++ P2 := by
  rcases xsB_is (show xsB (fun st ds V => sx g n st ds V) (fun b ds V => xs g n b ds V) (st :: r) ds V = some (.next, ds', V1, P) from h) with h | ⟨_, h⟩
  · exact h
  · exact (h rfl).elim
end
end N6
section M7
/-! ## calls of the text's defs -/
theorem bind_loop {M : Model} {A : Around} {E : Value → Shared → Prop} {env : Env} {L : Addr} (hL : env.locals = L) (hk : env.scope.kind = .function) {Q : Unit → Shared → Prop} (f : Str × Value → PUnit → Sem (ForInStep PUnit)) (hf : ∀ x u, f x u = (do storeName env x.1 x.2; pure (.yield PUnit.unit))) :
    ∀ (binds : List (Str × Value)) (s : Shared) (m : Str → Option Value), FrameAt s.heap L m → (∀ x ∈ binds, env.kindOf x.1 = some .local) →
      (∀ h', FrameAt h' L (fun x => (binds.reverse.lookup x).or (m x)) → Heap.SameBut L s.heap h' → Q () { s with heap := h', toks := s.toks + binds.length }) → wpAny M A (forIn binds PUnit.unit f) Q E s
  | [], s, m, F, _, h => by
    rw [List.forIn_nil]
    exact wpAny_pure (h s.heap (by simpa using F) (Heap.SameBut.refl ..))
  | (x, v) :: r, s, m, F, hl, h => by
    rw [List.forIn_cons, hf]
    refine wpAny_bind (wpAny_bind ?_)
    have hp : (env.scope.kind == .class || (env.scope.kind == .module && env.locals != env.globals)) = false := by rw [hk]; rfl
    rw [storeName_local (hl _ (.head _)) hp, hL]
    refine nsSet_frame F fun h1 F1 S1 => wpAny_pure ?_
    refine bind_loop hL hk f hf r _ _ F1 (fun y hy => hl y (.tail _ hy)) fun h2 F2 S2 => ?_
    have := h h2 (by
      have e : (fun y => (List.lookup y ((x, v) :: r).reverse).or (m y)) = fun y => (List.lookup y r.reverse).or (if y = x then some v else m y) := by
        funext y
        rw [List.reverse_cons, List.lookup_append]
        cases List.lookup y r.reverse with
        | some z => rfl
        | none =>
          show (List.lookup y [(x, v)]).or (m y) = _
          rw [List.lookup_cons]
          by_cases g : y = x
          · simp [g]
          · have : (y == x) = false := by simpa using g
            simp [this, g]
      rw [e]; exact F2) (S1.trans S2)
    rw [List.length_cons, ← Nat.add_assoc, Nat.add_right_comm] at this
    exact this
theorem enter_def {prog : Program} {w : World} {A : Around} {s : Shared} {R : Result → Shared → Prop} {f : Addr} {o : Obj} {fd : FuncData} {body : List Stmt} {args : Args} {binds : List (Str × Value)}
    (hroom : A.depth < recursionLimit) (ho : s.heap.get? f = some o) (hdata : o.data = .func fd) (hlim : s.heap.NoLimit) (hcd : s.heap.CodeRec fd.code fd.qualname) (hbody : fd.body = .stmts body) (hbind : BindsTo s fd args binds)
    (hcell : ∀ x ∈ fd.scope.names, x.2 ≠ .cell) (hloc : ∀ x ∈ binds, fd.scope.names.lookup x.1 = some .local) (hco : fd.scope.isCoroutine = false) (hgen : fd.scope.isGenerator = false) (hk : fd.scope.kind = .function)
    (h : ∀ h', FrameAt h' s.heap.objs.size (fun x => binds.reverse.lookup x) → (∀ b o, s.heap.get? b = some o → h'.get? b = some o) →
      wpAny (model prog w) (A.deeper (callEnv fd s.heap.objs.size f)) (execs body (callEnv fd s.heap.objs.size f)) (fun fl s' => R (.ok (.ret (match fl with | .ret v => v | _ => .none))) s')
        (fun e s' => wpAny (model prog w) (A.deeper (callEnv fd s.heap.objs.size f)) (leaving (callEnv fd s.heap.objs.size f) e) (fun _ s'' => R (.error e) s'') (fun e' s'' => R (.error e') s'') s')
        { s with heap := h', toks := s.toks + binds.length }) : codeAny (model prog w) A (.call (.ref f) args) R s := by
  refine codeAny_call_function hroom ho hdata hco hgen hbody hcd (hbind _ _ _ _ ?_)
  simp only [newFunctionEnv, Option.isSome_none, Bool.false_eq_true, if_false]
  refine wpAny_bind (wpAny_alloc ?_)
  rw [forIn_yield_id fd.closure (fun x hx c => by
    obtain ⟨name, kind⟩ := x
    have : (kind == NameKind.cell) = false := by simpa using hcell _ hx
    simp only [this, Bool.false_eq_true, if_false])]
  refine wpAny_bind (wpAny_pure (wpAny_bind ?_))
  have fresh : ∀ h' : Heap, Heap.SameBut s.heap.objs.size (s.heap.push { cls := .type "frame", data := .dict #[] }) h' → ∀ b o, s.heap.get? b = some o → h'.get? b = some o := fun h' sb b o e =>
    (sb.2 b (Nat.ne_of_lt (Heap.lt_size e))).trans (Heap.get?_push_of_some _ e)
  refine bind_loop (L := s.heap.objs.size) (env := callEnv fd s.heap.objs.size f) rfl hk _ (fun _ _ => rfl) binds { s with heap := s.heap.push { cls := .type "frame", data := .dict #[] } } (fun _ => none) ⟨Heap.Ns.new .., ⟨_, Heap.get?_push_size _ rfl, rfl⟩⟩ hloc fun h' F' S' => ?_
  have k := fresh h' S'
  refine wpAny_pure ⟨hlim.keeps k, codeAny_func (h h' ?_ k)⟩
  have e : (fun x => (List.lookup x binds.reverse).or none) = fun x => binds.reverse.lookup x := by funext x; cases List.lookup x binds.reverse <;> rfl
  rw [e] at F'; exact F'
/-! ### values under one more mutable address -/
theorem to_more {T : List Addr} {ρ : List (Addr × Addr)} {h : Heap} {L : Addr} (hL : h.get? L = none) : IsTo T (L :: T) ρ ρ h h := ⟨fun a ob n e _ _ => ⟨fun z => by rcases List.mem_cons.mp z with rfl | z; rw [hL] at e; exact no e; exact n z, e⟩, fun _ _ _ e => e⟩
theorem to_less {T : List Addr} {ρ : List (Addr × Addr)} {h : Heap} {L : Addr} : IsTo (L :: T) T ρ ρ h h := ⟨fun a ob n e _ _ => ⟨fun z => n (.tail _ z), e⟩, fun _ _ _ e => e⟩
theorem Is.more {T : List Addr} {ρ : List (Addr × Addr)} {h : Heap} {L : Addr} (hL : h.get? L = none) {p : PV} {v : Value} (i : Is T ρ h p v) : Is (L :: T) ρ h p v := i.to (to_more hL)
theorem IsL.more {T : List Addr} {ρ : List (Addr × Addr)} {h : Heap} {L : Addr} (hL : h.get? L = none) {p : List PV} {v : List Value} (i : IsL T ρ h p v) : IsL (L :: T) ρ h p v := i.to (to_more hL)
theorem Is.less {T : List Addr} {ρ : List (Addr × Addr)} {h : Heap} {L : Addr} {p : PV} {v : Value} (i : Is (L :: T) ρ h p v) : Is T ρ h p v := i.to to_less
theorem IsL.less {T : List Addr} {ρ : List (Addr × Addr)} {h : Heap} {L : Addr} {p : List PV} {v : List Value} (i : IsL (L :: T) ρ h p v) : IsL T ρ h p v := i.to to_less
theorem Match.more {T : List Addr} {ρ : List (Addr × Addr)} {h : Heap} {L : Addr} (hL : h.get? L = none) : ∀ {r : List (Str × PV)} {es : List DictEntry}, Match T ρ h r es → Match (L :: T) ρ h r es
  | _, _, .nil => .nil
  | _, _, .cons a b c => .cons a (b.more hL) (c.more hL)
theorem Match.less {T : List Addr} {ρ : List (Addr × Addr)} {h : Heap} {L : Addr} : ∀ {r : List (Str × PV)} {es : List DictEntry}, Match (L :: T) ρ h r es → Match T ρ h r es
  | _, _, .nil => .nil
  | _, _, .cons a b c => .cons a b.less c.less
theorem ObjAt.more {T : List Addr} {ρ : List (Addr × Addr)} {h : Heap} {L : Addr} {k : Nat} {po : PO} (hL : h.get? L = none) (x : ObjAt T ρ h k po) : ObjAt (L :: T) ρ h k po := by
  cases po with
  | inst C att => obtain ⟨a, dx, es, n, e, na, ea, ed, m⟩ := x; exact ⟨a, dx, es, n, e, fun z => by rcases List.mem_cons.mp z with rfl | z; rw [hL] at ea; cases ea; exact na z, ea, ed, m.more hL⟩
  | list xs => obtain ⟨a, vs, n, e, ea, m⟩ := x; exact ⟨a, vs, n, e, ea, m.more hL⟩
  | dq xs => obtain ⟨a, st, vs, e, ea, m⟩ := x; exact ⟨a, st, vs, e, ea, m.more hL⟩
  | opaq ob => exact x
theorem ObjAt.less {T : List Addr} {ρ : List (Addr × Addr)} {h : Heap} {L : Addr} {k : Nat} {po : PO} (x : ObjAt (L :: T) ρ h k po) : ObjAt T ρ h k po := by
  cases po with
  | inst C att => obtain ⟨a, dx, es, n, e, na, ea, ed, m⟩ := x; exact ⟨a, dx, es, n, e, fun z => na (.tail _ z), ea, ed, m.less⟩
  | list xs => obtain ⟨a, vs, n, e, ea, m⟩ := x; exact ⟨a, vs, n, e, ea, m.less⟩
  | dq xs => obtain ⟨a, st, vs, e, ea, m⟩ := x; exact ⟨a, st, vs, e, ea, m.less⟩
  | opaq ob => exact x
/-! ### a def's contract -/
structure Room (A : Around) (D : Nat) : Prop where
  depth : A.depth + D < recursionLimit
  units : A.units + 8 * D + 120 < cLine
  handled : A.handled = none
theorem Room.deeper {A : Around} {D : Nat} {env : Env} (r : Room A (D + 1)) : Room (A.deeper env).in1 D :=
  ⟨rd1 r.depth, ru (k := 4) (by decide) r.units, r.handled⟩
theorem Room.of_in1 {A : Around} {D : Nat} (r : Room A.in1 D) : Room A D := ⟨r.depth, ru1 r.units, r.handled⟩
theorem Room.le {A : Around} {D D' : Nat} (r : Room A D) (h : D' ≤ D) : Room A D' := ⟨rle (z := 0) h r.depth, rle (Nat.mul_le_mul_left 8 h) r.units, r.handled⟩
noncomputable def Spec (W : Wd) (D : Nat) (f : Value) (ps : List PV) (objs : List PO) (r : PV) (objs' : List PO) : Prop :=
  ∀ c : Fc, c.Ok → c.toWd = W → Room c.A D → CallOk c f ps objs r objs'
noncomputable def SpecC (W : Wd) (D : Nat) (f : Value) (ps : List PV) (objs : List PO) (r : PV) (objs' : List PO) : Prop :=
  ∀ c : Fc, c.Ok → c.toWd = W → Room c.A D → CodeOk c f ps objs r objs'
theorem SpecC.spec {W : Wd} {D : Nat} {f : Value} {ps : List PV} {objs objs' : List PO} {r : PV} (h : SpecC W D f ps objs r objs') : Spec W D f ps objs r objs' := fun c ok e room => (h c ok e room).call
/-- what a plain def is -/
structure DefIs (K : Frag) (f : Addr) (fd : FuncData) (body : List Stmt) : Prop where
  at_ : ∃ oc od sl, K.lookup f = some ⟨oc, od, .func fd, sl⟩
  body : fd.body = .stmts body
  glb : fd.globals = mainGlobals
  clo : fd.closure = []
  blt : fd.builtins = builtinsNs
  code : codeIn K fd.code fd.qualname = true
  cell : ∀ x ∈ fd.scope.names, x.2 ≠ .cell
  co : fd.scope.isCoroutine = false
  gen : fd.scope.isGenerator = false
  kind : fd.scope.kind = .function
noncomputable def dataFn : Data → Option FuncData
  | .func fd => some fd
  | _ => none
noncomputable def fnAt (K : Frag) (f : Addr) : Option FuncData := (K.lookup f).bind fun o => dataFn o.data
theorem fnAt_is {K : Frag} {f : Addr} {fd : FuncData} (h : fnAt K f = some fd) : ∃ oc od sl, K.lookup f = some ⟨oc, od, .func fd, sl⟩ := by
  obtain ⟨⟨oc, od, d, sl⟩, e, h⟩ := ob h
  rw [e]
  cases d with
  | func x => cases h; exact ⟨_, _, _, rfl⟩
  | _ => exact no h
noncomputable def isDef (K : Frag) (f : Addr) (fd : FuncData) : Bool := (fnAt K f).isSome && fd.globals == mainGlobals && fd.closure.isEmpty && fd.builtins == builtinsNs && codeIn K fd.code fd.qualname &&
  fd.scope.names.all (fun x => x.2 != .cell) && !fd.scope.isCoroutine && !fd.scope.isGenerator && fd.scope.kind == .function
theorem loc_binds {T : List Addr} {ρ : List (Addr × Addr)} {h : Heap} {loc : List (Str × PV)} {binds : List (Str × Value)} (hb : binds.map (·.1) = loc.map (·.1)) (hi : IsL T ρ h (loc.map (·.2)) (binds.map (·.2))) (nd : (loc.map (·.1)).Nodup) : LocOk T ρ h loc (fun x => binds.reverse.lookup x) := by
  intro x p hx
  have key : ∀ (loc : List (Str × PV)) (binds : List (Str × Value)), binds.map (·.1) = loc.map (·.1) → IsL T ρ h (loc.map (·.2)) (binds.map (·.2)) → loc.lookup x = some p → ∃ v, (x, v) ∈ binds ∧ Is T ρ h p v := by
    intro loc
    induction loc with
    | nil => intro binds _ _ e; cases e
    | cons q r ih =>
      intro binds hb hi e
      cases binds with
      | nil => cases hb
      | cons b bs =>
        simp only [List.map_cons, List.cons.injEq] at hb
        cases hi with
        | cons i1 i2 =>
          rw [List.lookup_cons] at e
          split at e
          · rename_i g
            cases e
            refine ⟨b.2, ?_, i1⟩
            rw [show x = b.1 from (beq_iff_eq.mp g).trans hb.1.symm]
            exact .head _
          · obtain ⟨v, m, i⟩ := ih bs hb.2 i2 e
            exact ⟨v, .tail _ m, i⟩
  obtain ⟨v, m, i⟩ := key loc binds hb hi hx
  refine ⟨v, ?_, i⟩
  have nd' : (binds.reverse.map (·.1)).Nodup := by
    rw [List.map_reverse, hb]
    exact List.pairwise_reverse.mpr (nd.imp fun h => h.symm)
  have m' : (x, v) ∈ binds.reverse := List.mem_reverse.mpr m
  clear hb hi key m
  generalize binds.reverse = l at nd' m'
  induction l with
  | nil => cases m'
  | cons q r ih =>
    simp only [List.map_cons, List.nodup_cons] at nd'
    show List.lookup x (q :: r) = some v
    obtain ⟨q1, q2⟩ := q
    rw [List.lookup_cons]
    rcases List.mem_cons.mp m' with e | m''
    · cases e; simp
    · have : (x == q1) = false := by
        cases g : x == q1 with
        | false => rfl
        | true => exact absurd (List.mem_map.mpr ⟨(x, v), m'', by exact (beq_iff_eq.mp g)⟩) nd'.1
      rw [this]
      exact ih nd'.2 m''
noncomputable def retP : PF → PV
  | .ret p => p
  | _ => .v .none
/-! ### the room of a call -/
noncomputable abbrev Fc.sub (c : Fc) (e : Env) (L : Addr) : Fc := { c with A := c.A.deeper e, env := e, T := L :: c.T, L := L }
theorem fresh_size {h : Heap} : h.get? h.objs.size = none := by
  cases q : h.get? h.objs.size with
  | none => rfl
  | some o => exact absurd (Heap.lt_size q) (Nat.lt_irrefl _)
theorem Fc.Ok.size {c : Fc} (ok : c.Ok) {h : Heap} (live : ∀ b ∈ c.T, ∃ o, h.get? b = some o) : c.N ≤ h.objs.size :=
  let ⟨_, e⟩ := live c.L (ok.fx.mem _ (.head _)); Nat.le_of_lt (Nat.lt_of_le_of_lt (ok.fx.low _ (ok.fx.mem _ (.head _))) (Heap.lt_size e))
theorem Fc.Ok.subc {c : Fc} (ok : c.Ok) {f : Addr} {fd : FuncData} {body : List Stmt} (di : DefIs c.K f fd body) {h : Heap} (live : ∀ b ∈ c.T, ∃ o, h.get? b = some o) : (c.sub (callEnv fd h.objs.size f) h.objs.size).Ok := by
  have nL : h.objs.size ∉ c.T := fun hb => by obtain ⟨o, e⟩ := live _ hb; rw [fresh_size] at e; cases e
  refine ⟨⟨fun b hb => ?_, ?_, fun b hb => ?_⟩, di.kind, rfl, di.glb, di.blt, ok.lowK, ok.lo⟩
  · rcases List.mem_cons.mp hb with rfl | hb
    · exact .head _
    · exact .tail _ (ok.fx.mem b (.tail _ hb))
  · exact List.nodup_cons.mpr ⟨fun hb => nL (ok.fx.mem _ (.tail _ hb)), (List.nodup_cons.mp ok.fx.nodup).2⟩
  · rcases List.mem_cons.mp hb with rfl | hb
    · exact ok.size live
    · exact ok.fx.low b hb
theorem sub_frs {N : Nat} {A : Around} {fd : FuncData} {h h' : Heap} {L : Addr} {f : Addr} {m : Str → Option Value} (frs : Frs N A h') (hk : fd.scope.kind = .function) (NL : N ≤ L) (F' : FrameAt h' L m) : Frs N (A.deeper (callEnv fd L f)) h' := by
  obtain ⟨fs, e, hf⟩ := frs
  refine ⟨callEnv fd L f :: fs, by show (A.frames.map _) = _; rw [e]; rfl, fun env he => ?_⟩
  rcases List.mem_cons.mp he with rfl | he
  · exact ⟨by show fd.scope.kind ≠ _; rw [hk]; decide, _, _, rfl, NL, F'⟩
  · exact hf env he
theorem frs_sub {N : Nat} {A : Around} {e : Env} {h h' : Heap} (frs : Frs N A h) (x : Frs N (A.deeper e) h') : Frs N A h' := by
  obtain ⟨fs, q, hf⟩ := x
  obtain ⟨fs0, e0, _⟩ := frs
  have q : (A.frames.map (e :: ·)) = some fs := q
  rw [e0] at q; cases q
  exact ⟨fs0, e0, fun env he => hf env (.tail _ he)⟩
theorem sub_inv {c : Fc} (ok : c.Ok) {f : Addr} {fd : FuncData} {body : List Stmt} (di : DefIs c.K f fd body) {s : Shared} {h' : Heap} {objs : List PO} {loc : List (Str × PV)} {m : Str → Option Value} {t : Nat} (B : Base c.K c.N s.heap) (live : ∀ b ∈ c.T, ∃ o, s.heap.get? b = some o) (frs : Frs c.N c.A s.heap) (O : ObjsOk c.T c.ρ objs s.heap) (k' : ∀ b o, s.heap.get? b = some o → h'.get? b = some o) (F' : FrameAt h' s.heap.objs.size m) (z : LocOk (s.heap.objs.size :: c.T) c.ρ s.heap loc m) : Inv (c.sub (callEnv fd s.heap.objs.size f) s.heap.objs.size) ⟨loc, objs⟩ { s with heap := h', toks := t } := by
  have kk : Keep c.N [] s.heap h' := .of_all k'
  refine ⟨⟨⟨_, F', fun x p e => let ⟨v, e1, e2⟩ := z x p e; ⟨v, e1, e2.keep kk.all⟩⟩, fun k po e => ((O k po e).more fresh_size).keep kk (fun _ _ _ z => nomatch z) (fun _ z => nomatch z) kk.all⟩, B.keep (T := []) ok.lowK (fun _ h => nomatch h) ok.lo kk, fun b hb => ?_, sub_frs (h := h') (frs.keep kk) di.kind (ok.size live) F'⟩
  rcases List.mem_cons.mp hb with rfl | hb
  · obtain ⟨o, e, _⟩ := F'.cls; exact ⟨o, e⟩
  · obtain ⟨o, e⟩ := live b hb; exact ⟨o, k' b o e⟩
theorem sub_st {N : Nat} {M : List Addr} {s s' : Shared} {h' : Heap} {t : Nat} (k' : ∀ b o, s.heap.get? b = some o → h'.get? b = some o) (st : St N (s.heap.objs.size :: M) { s with heap := h', toks := t } s') : St N M s s' := by
  refine ⟨⟨fun b o nb e => st.keep.off b o (fun z => ?_) (k' b o e), fun b o e => st.keep.there b o (k' b o e)⟩, st.gens, st.os⟩
  rcases List.mem_cons.mp z with rfl | z
  · rw [fresh_size] at e; cases e
  · exact nb z
theorem call_def {W : Wd} {D : Nat} {f : Addr} {fd : FuncData} {body : List Stmt} {ps : List PV} {objs objs' : List PO} {fl : PF} {loc : List (Str × PV)} (di : DefIs W.K f fd body) (nd : (loc.map (·.1)).Nodup) (hl : ∀ x ∈ loc.map (·.1), fd.scope.names.lookup x = some .local)
    (hbind : ∀ (T : List Addr) (ρ : List (Addr × Addr)) (s : Shared) (vs : List Value), Base W.K W.N s.heap → (∀ b ∈ T, W.N ≤ b) → IsL T ρ s.heap ps vs → ∃ binds, BindsTo s fd ⟨vs, []⟩ binds ∧ binds.map (·.1) = loc.map (·.1) ∧ IsL T ρ s.heap (loc.map (·.2)) (binds.map (·.2)))
    (hrun : ∀ c : Fc, c.Ok → c.toWd = W → Room c.A.in1 D → c.env.scope = fd.scope → c.env.code = fd.code → ∃ V', ExOk c body ⟨loc, objs⟩ fl V' ∧ V'.objs = objs') : SpecC W (D + 1) (.ref f) ps objs (retP fl) objs' := by
  rintro c ok rfl room s vs R B live frs O ia hq
  obtain ⟨oc, od, sl, hK⟩ := di.at_
  have ho := B.k _ _ hK
  obtain ⟨binds, hb1, hb2, hb3⟩ := hbind c.T c.ρ s vs B ok.fx.low ia
  refine enter_def (binds := binds) (rd0 room.depth) ho rfl B.lim (codeRec_of B.k di.code) di.body hb1 di.cell (fun x hx => hl _ (hb2 ▸ List.mem_map_of_mem hx)) di.co di.gen di.kind fun h' F' k' => ?_
  have z := loc_binds hb2 (hb3.more fresh_size) nd
  obtain ⟨V', hx, rfl⟩ := hrun _ (ok.subc di live) rfl room.deeper rfl rfl
  refine hx _ _ _ (sub_inv ok di B live frs O k' F' z) fun s' fw I'' st hfl => ?_
  have fin : ∀ v, Is (s.heap.objs.size :: c.T) c.ρ s'.heap (retP fl) v → R (.ok (.ret v)) s' := fun v iv => hq s' v (sub_st k' st) I''.base (frs_sub frs I''.frs) (fun k po e => (I''.rep.objs k po e).less) iv.less
  cases fl with
  | ret p => obtain ⟨v, rfl, iv⟩ := hfl; exact fin _ iv
  | next => cases hfl; exact fin _ (.v _)
  | brk => cases hfl; exact fin _ (.v _)
  | cont => cases hfl; exact fin _ (.v _)
end M7
section M8
theorem Spec.le {W : Wd} {D D' : Nat} {f : Value} {ps : List PV} {objs objs' : List PO} {r : PV} (h : Spec W D f ps objs r objs') (hd : D ≤ D') : Spec W D' f ps objs r objs' := fun c ok e room => h c ok e (room.le hd)
/-- callees that are known: what they give, of which arguments and objects, if the conditions hold -/
structure Orc (W : Wd) (D : Nat) where
  fn : Value → List PV → List PO → Option (PV × List PO × List Prop)
  ok : ∀ f ps objs r objs' P, fn f ps objs = some (r, objs', P) → keepOk W.K f = true ∧ (AllP P → Spec W D f ps objs r objs')
/-- .. that turn no object -/
structure POrc (W : Wd) (D : Nat) where
  fn : Value → List PV → List PO → Option (PV × List Prop)
  ok : ∀ f ps objs r P, fn f ps objs = some (r, P) → keepOk W.K f = true ∧ (AllP P → Spec W D f ps objs r objs)
noncomputable def Orc.none (W : Wd) (D : Nat) : Orc W D := ⟨fun _ _ _ => .none, fun _ _ _ _ _ _ h => nomatch h⟩
noncomputable def POrc.none (W : Wd) (D : Nat) : POrc W D := ⟨fun _ _ _ => .none, fun _ _ _ _ _ h => nomatch h⟩
noncomputable def POrc.or {W : Wd} {D : Nat} (a b : POrc W D) : POrc W D := ⟨fun f ps objs => iteO (a.fn f ps objs) (b.fn f ps objs), fun f ps objs r P h => by
  rcases iteO_is h with e | e
  · exact a.ok _ _ _ _ _ e
  · exact b.ok _ _ _ _ _ e⟩
/-- one callee at these very arguments -/
noncomputable def POrc.one {W : Wd} {D : Nat} {f : Value} {ps : List PV} {objs : List PO} {r : PV} (hk : keepOk W.K f = true) (h : Spec W D f ps objs r objs) : POrc W D := ⟨fun f' ps' objs' => if f' = f then some (r, [(ps', objs') = (ps, objs)]) else .none, fun f' ps' objs' r' P e => by
  obtain ⟨g, e2⟩ := oi e
  subst g
  cases e2
  exact ⟨hk, fun hP => by obtain ⟨e1, e2⟩ := Prod.mk.inj hP.1; rw [e1, e2]; exact h⟩⟩
noncomputable def Orc.one {W : Wd} {D : Nat} {f : Value} {ps : List PV} {objs objs1 : List PO} {r : PV} (hk : keepOk W.K f = true) (h : Spec W D f ps objs r objs1) : Orc W D := ⟨fun f' ps' objs' => if f' = f then some (r, objs1, [(ps', objs') = (ps, objs)]) else .none, fun f' ps' objs' r' objs2 P e => by
  obtain ⟨g, e2⟩ := oi e
  subst g
  cases e2
  exact ⟨hk, fun hP => by obtain ⟨e1, e2⟩ := Prod.mk.inj hP.1; rw [e1, e2]; exact h⟩⟩
/-- the tables of a text -/
structure Tabs where
  nt : List Addr := []
  glob : List (Str × Value)
  attr : List (Addr × List Str)
  seta : List (Addr × List Str)
  meth : List (Addr × List (Str × Addr))
  alis : List (Addr × List (Str × Str))
noncomputable def ntB (K : Frag) (a : Addr) : Bool := (K.lookup a).any fun o => o.cls != .type "tuple" && o.cls != .type "list"
noncomputable def Tabs.okB (t : Tabs) (K : Frag) : Bool :=
  t.nt.all (ntB K) && (t.glob.all (fun p => globIs K p.1 p.2) && t.attr.all (fun p => p.2.all (attrOk K p.1)) && t.seta.all (fun p => p.2.all (setOk K p.1)) && t.meth.all (fun p => p.2.all fun q => methOk K p.1 q.1 q.2 && keepOk K (.ref q.2)))
theorem mem_of_lookup {α β : Type} [BEq α] [LawfulBEq α] {l : List (α × β)} {a : α} {b : β} (e : l.lookup a = some b) : (a, b) ∈ l := mem_lookup e
/-! ### built-ins that give a plain value -/
theorem callOk_pure {c : Fc} {f : Value} {ps : List PV} {objs : List PO} {r : PV} (h : ∀ (s : Shared) (vs : List Value) (Q E : Value → Shared → Prop), IsL c.T c.ρ s.heap ps vs → (∀ v tk, Is c.T c.ρ s.heap r v → Q v { s with toks := tk }) → wpAny c.M c.A (call f vs) Q E s) : CallOk c f ps objs r objs := by
  intro s vs Q E B live frs O ia hq
  exact h s vs Q E ia fun v tk iv => hq _ v (.toks tk) B frs O iv
theorem isL1 {T : List Addr} {ρ : List (Addr × Addr)} {h : Heap} {p : PV} {vs : List Value} (i : IsL T ρ h [p] vs) : ∃ v, vs = [v] ∧ Is T ρ h p v := by
  cases i with | cons a b => cases b; exact ⟨_, rfl, a⟩
theorem isL2 {T : List Addr} {ρ : List (Addr × Addr)} {h : Heap} {p q : PV} {vs : List Value} (i : IsL T ρ h [p, q] vs) : ∃ v u, vs = [v, u] ∧ Is T ρ h p v ∧ Is T ρ h q u := by
  cases i with | cons a b => obtain ⟨u, rfl, i⟩ := isL1 b; exact ⟨_, u, rfl, a, i⟩
inductive BN where
  | type | int | len | isi
noncomputable def BN.v : BN → Value
  | .type => .type "type"
  | .int => .type "int"
  | .len => .builtin "len"
  | .isi => .builtin "isinstance"
noncomputable def bnOf (f : Value) : Option BN := [BN.type, .int, .len, .isi].find? fun k => decide (f = k.v)
theorem bnOf_is {f : Value} {k : BN} (h : bnOf f = some k) : f = k.v := of_decide_eq_true (p := f = k.v) (List.find?_some (p := fun k : BN => decide (f = k.v)) (l := [BN.type, .int, .len, .isi]) h)
noncomputable def lenP (p : PV) (objs : List PO) : VP := match p with
  | .s x => some (.i x.length, [x.length ≤ sizeLine])
  | .l xs => some (.i xs.length, [Ln xs])
  | .r xs => some (.i xs.length, [Ln xs])
  | .o k => (listOfO objs k).map fun xs => (.i xs.length, [Ln xs])
  | _ => none
noncomputable def typeP (p : PV) : VP := match p with
  | .i _ => some (.v (.type "int"), [])
  | .s _ => some (.v (.type "str"), [])
  | _ => none
/-- isinstance(p, str | tuple) -/
noncomputable def isStrP : PV → VP
  | .s _ => some (.v (.bool true), [])
  | .l _ => some (.v (.bool false), [])
  | .t _ => some (.v (.bool false), [])
  | _ => none
noncomputable def isTupP : PV → VP
  | .s _ => some (.v (.bool false), [])
  | .l _ => some (.v (.bool false), [])
  | .t _ => some (.v (.bool true), [])
  | _ => none
noncomputable def isiP (p q : PV) : VP := (isV q).bind fun t => if t = .type "str" then isStrP p else if t = .type "tuple" then isTupP p else none
noncomputable def isi2 : List PV → VP
  | [] => none
  | p :: r => (one r).bind (isiP p)
noncomputable def bltB (ps : List PV) (objs : List PO) : BN → VP
  | .isi => isi2 ps
  | .type => (one ps).bind typeP
  | .len => (one ps).bind fun p => lenP p objs
  | .int => (one ps).bind fun p => (isI p).map fun n => (.i n, [])
/-- type, int, len, isinstance of plain values -/
noncomputable def bltFn (f : Value) (ps : List PV) (objs : List PO) : VP := (bnOf f).bind (bltB ps objs)
theorem callOk_blt {c : Fc} {f : Value} {ps : List PV} {objs : List PO} {r : PV} (h : ∀ (s : Shared) (vs : List Value) (Q E : Value → Shared → Prop), IsL c.T c.ρ s.heap ps vs → ObjsOk c.T c.ρ objs s.heap → (∀ v tk, Is c.T c.ρ s.heap r v → Q v { s with toks := tk }) → wpAny c.M c.A (call f vs) Q E s) : CallOk c f ps objs r objs := by
  intro s vs Q E B live frs O ia hq
  exact h s vs Q E ia O fun v tk iv => hq _ v (.toks tk) B frs O iv
section
variable {c : Fc} {p q r : PV} {objs : List PO} {P : List Prop}
theorem lenP_ok (h : lenP p objs = some (r, P)) (hP : AllP P) : CallOk c (.builtin "len") [p] objs r objs := by
  refine callOk_blt fun s vs Q E ia O hq => ?_
  obtain ⟨v, rfl, i⟩ := isL1 ia
  cases p with
  | s x =>
    cases h
    obtain ⟨t, rfl⟩ := i.is
    have hP := hP.1
    exact P.len_str (by rw [sizeLine_eq] at hP; omega) (hq _ _ (.i _ _))
  | l xs =>
    cases h
    obtain ⟨a, ob, vs, n, z, il⟩ := i.il
    have hz := hP.1.sz il
    cases z.v
    refine len_list z.isList (by simp at hz; omega) (hq _ _ ?_)
    rw [il.length]; exact .i _ _
  | r xs =>
    cases h
    obtain ⟨a, ob, vs, n, z, il⟩ := i.ir
    have hz := hP.1.sz il
    cases z.v
    refine len_list z.isList (by simp at hz; omega) (hq _ _ ?_)
    rw [il.length, List.length_reverse]; exact .i _ _
  | o k =>
    obtain ⟨xs, hx, h⟩ := map_some h
    cases h
    obtain ⟨a, m, rfl, e1⟩ := i.io
    obtain ⟨D', vs, n1, e2, ea, im⟩ := O _ _ (listOfO_is hx)
    rw [e1] at e2; cases e2
    have hz := hP.1.sz im
    refine len_list ⟨_, ea, rfl, _, rfl⟩ (by simp at hz; omega) (hq _ _ ?_)
    rw [im.length, List.length_reverse]; exact .i _ _
  | _ => exact no h
theorem typeP_ok (h : typeP p = some (r, P)) : CallOk c (.type "type") [p] objs r objs := by
  refine callOk_blt fun s vs Q E ia O hq => ?_
  obtain ⟨v, rfl, i⟩ := isL1 ia
  cases p with
  | i n =>
    cases h
    obtain ⟨t, rfl⟩ := i.ii
    exact call_type_of (typeIs_int s _ _) (by decide) (hq _ s.toks (.v _))
  | s x =>
    cases h
    obtain ⟨t, rfl⟩ := i.is
    exact call_type_of (typeIs_str s _ _) (by decide) (hq _ s.toks (.v _))
  | _ => exact no h
theorem isiP_ok (h : isiP p q = some (r, P)) : CallOk c (.builtin "isinstance") [p, q] objs r objs := by
  refine callOk_blt fun s vs Q E ia O hq => ?_
  obtain ⟨v, u, rfl, i, j⟩ := isL2 ia
  obtain ⟨t, ht, h⟩ := ob h
  rw [isV_is ht] at j
  cases j.iv
  by_cases e : u = .type "str"
  · rw [if_pos e] at h
    subst e
    cases p with
    | s x => cases h; obtain ⟨t, rfl⟩ := i.is; exact PySem.IsiPair.str_str (hq _ s.toks (.v _))
    | l xs => cases h; obtain ⟨a, ob, vs, n, z, il⟩ := i.il; cases z.v; exact PySem.IsiPair.list_str z.at_ z.cls (hq _ _ (.v _))
    | t xs => cases h; obtain ⟨a, ob, vs, n, z, il⟩ := i.it; cases z.v; exact PySem.IsiPair.tuple_str z.at_ z.cls (hq _ _ (.v _))
    | _ => exact no h
  · rw [if_neg e] at h
    obtain ⟨e, h⟩ := oi h
    subst e
    cases p with
    | s x => cases h; obtain ⟨t, rfl⟩ := i.is; exact PySem.IsiPair.str_tuple (hq _ _ (.v _))
    | l xs => cases h; obtain ⟨a, ob, vs, n, z, il⟩ := i.il; cases z.v; exact PySem.IsiPair.list_tuple z.at_ z.cls (hq _ _ (.v _))
    | t xs => cases h; obtain ⟨a, ob, vs, n, z, il⟩ := i.it; cases z.v; exact PySem.IsiPair.tuple_tuple z.at_ z.cls (hq _ s.toks (.v _))
    | _ => exact no h
theorem bltB_ok {b : BN} {ps : List PV} (h : bltB ps objs b = some (r, P)) (hP : AllP P) : CallOk c b.v ps objs r objs := by
  cases b with
  | isi => cases ps with
    | nil => exact no h
    | cons p q =>
      obtain ⟨q, hq, h⟩ := ob h
      rw [one_is hq]
      exact isiP_ok h
  | type => obtain ⟨p, hp, h⟩ := ob h; rw [one_is hp]; exact typeP_ok h
  | len => obtain ⟨p, hp, h⟩ := ob h; rw [one_is hp]; exact lenP_ok h hP
  | int =>
    obtain ⟨p, hp, h⟩ := ob h
    rw [one_is hp]
    obtain ⟨n, e1, e2⟩ := map_some h
    cases e2
    rw [isI_is e1]
    refine callOk_pure fun s vs Q E ia hq => ?_
    obtain ⟨v, rfl, i⟩ := isL1 ia
    obtain ⟨t, rfl⟩ := i.ii
    exact call_int_int (hq _ s.toks (.i _ _))
end
noncomputable def blt (W : Wd) (D : Nat) : POrc W D := ⟨bltFn, fun f ps objs r P h => by
  obtain ⟨b, hb, h⟩ := ob h
  rw [bnOf_is hb]
  exact ⟨by cases b <;> rfl, fun hP c ok e room => bltB_ok h hP⟩⟩
/-! ### defs read off the written part -/
noncomputable def fdOf (K : Frag) (f : Addr) : FuncData := (fnAt K f).getD default
noncomputable def stmtsOf : FuncBody → Option (List Stmt)
  | .stmts b => some b
  | _ => none
theorem stmtsOf_is {x : FuncBody} {b : List Stmt} (h : stmtsOf x = some b) : x = .stmts b := by
  cases x with
  | stmts => cases h; rfl
  | _ => exact no h
noncomputable def bodyOf (fd : FuncData) : List Stmt := (stmtsOf fd.body).getD []
noncomputable def hasBody (fd : FuncData) : Bool := (stmtsOf fd.body).isSome
theorem getD_some {α : Type} {o : Option α} {d : α} (h : o.isSome = true) : o = some (o.getD d) := by
  cases o with
  | some a => rfl
  | none => cases h
noncomputable def nodupB : List Str → Bool
  | [] => true
  | x :: r => !r.contains x && nodupB r
theorem nodupB_ok : ∀ {l : List Str}, nodupB l = true → l.Nodup
  | [], _ => .nil
  | x :: r, h => by
    obtain ⟨h1, h2⟩ := Bool.and_eq_true_iff.mp h
    exact List.nodup_cons.mpr ⟨(fun z => by rw [List.contains_iff_mem.mpr z] at h1; cases h1), nodupB_ok h2⟩
theorem defIs_of {K : Frag} {f : Addr} (h : (isDef K f (fdOf K f) && hasBody (fdOf K f)) = true) : DefIs K f (fdOf K f) (bodyOf (fdOf K f)) := by
  obtain ⟨h, hb⟩ := Bool.and_eq_true_iff.mp h
  unfold isDef at h
  simp only [Bool.and_eq_true] at h
  obtain ⟨⟨⟨⟨⟨⟨⟨⟨h1, h2⟩, h3⟩, h4⟩, h5⟩, h6⟩, h7⟩, h8⟩, h9⟩ := h
  refine ⟨?_, ?_, beq_iff_eq.mp h2, List.isEmpty_iff.mp h3, beq_iff_eq.mp h4, h5, fun x hx => by simpa using List.all_eq_true.mp h6 x hx, by simpa using h7, by simpa using h8, beq_iff_eq.mp h9⟩
  · exact fnAt_is (getD_some h1)
  · exact stmtsOf_is (getD_some hb)
/-- a tree that only reads the written part -/
noncomputable def runPure {α : Type} (K : Frag) : Nat → Sem α → Option α
  | 0, _ => none
  | n + 1, t => match t with
    | .pure a => some a
    | .load a _ k => (K.lookup a).bind fun o => runPure K n (k o)
    | .rule _ k => runPure K n (k ())
    | .at _ k => runPure K n (k ())
    | .point _ k => runPure K n (k ())
    | _ => none
theorem runPure_sound {α : Type} {K : Frag} {M : Model} {A : Around} {s : Shared} (X : K.In s.heap) : ∀ {n : Nat} {t : Sem α} {a : α} {Q : α → Shared → Prop} {E : Value → Shared → Prop}, runPure K n t = some a → Q a s → wpAny M A t Q E s
  | 0, _, _, _, _, h, _ => no h
  | n + 1, t, a, Q, E, h, q => by
    have ih := @runPure_sound α K M A s X n
    cases t with
    | pure a => cases h; exact wpAny_pure q
    | load a x k => obtain ⟨o, e, h⟩ := ob h; exact nd_load (X _ _ e) (ih h q)
    | rule x k => exact nd_rule (ih h q)
    | «at» x k => exact fun Γ p hΓ => ih h q Γ _ hΓ
    | point x k => exact nd_point (ih h q)
    | _ => exact no h
/-- the tables are so -/
structure Tabs.Ok (t : Tabs) (W : Wd) : Prop where
  b : t.okB W.K = true
  al : ∀ C ns, t.alis.lookup C = some ns → ∀ n al, ns.lookup n = some al → ∃ pr f, propOk W.K C n pr f = true ∧ ∀ k objs att p, objs[k]? = some (.inst C att) → att.lookup al = some p → handedP p = true → SpecC W 1 (.ref f) [.o k] objs p objs
noncomputable def mkCfg {W : Wd} {D : Nat} (scope : Scope) (t : Tabs) (po : POrc W D) (eo : Orc W D) : Cfg := ⟨scope, t.nt, t.glob, t.attr, t.seta, t.meth, t.alis, po.fn, eo.fn⟩
theorem mkCfg_ok {W : Wd} {D : Nat} {scope : Scope} {t : Tabs} {po : POrc W D} {eo : Orc W D} {c : Fc} (ok : c.Ok) (e : c.toWd = W) (room : Room c.A.in1 D) (hD1 : 1 ≤ D) (hs : c.env.scope = scope) (ht : t.Ok W) : CfgOk c (mkCfg scope t po eo) := by
  subst e
  obtain ⟨ht, hal⟩ := ht
  obtain ⟨h0, ht⟩ := Bool.and_eq_true_iff.mp ht
  obtain ⟨h123, h4⟩ := Bool.and_eq_true_iff.mp ht
  obtain ⟨h12, h3⟩ := Bool.and_eq_true_iff.mp h123
  obtain ⟨h1, h2⟩ := Bool.and_eq_true_iff.mp h12
  refine ⟨hs, by have := room.units; have e : c.A.in1.units = c.A.units + 1 := rfl; omega, room.handled, fun a ha => ?_, fun x v e => List.all_eq_true.mp h1 _ (mem_of_lookup e), fun C ns e n hn => ?_, fun C ns e n hn => ?_, fun C ms e n f hf => ?_, fun C ns e n al hn => ?_, fun f ps objs r P e => ?_, fun f ps objs r objs' P e => ?_⟩
  · have z := List.all_eq_true.mp h0 a (List.contains_iff_mem.mp ha)
    obtain ⟨o, eo, z⟩ := (Option.any_eq_true _ _).mp z
    obtain ⟨z1, z2⟩ := Bool.and_eq_true_iff.mp z
    exact ⟨o, eo, by simpa using z1, by simpa using z2⟩
  · exact List.all_eq_true.mp (List.all_eq_true.mp h2 _ (mem_of_lookup e)) n (List.contains_iff_mem.mp hn)
  · exact List.all_eq_true.mp (List.all_eq_true.mp h3 _ (mem_of_lookup e)) n (List.contains_iff_mem.mp hn)
  · exact Bool.and_eq_true_iff.mp (List.all_eq_true.mp (List.all_eq_true.mp h4 _ (mem_of_lookup e)) (n, f) (mem_of_lookup hf))
  · obtain ⟨pr, f, h1, h2⟩ := hal C ns e n al hn
    exact ⟨pr, f, h1, fun k objs att p a b d => h2 k objs att p a b d { c with A := c.A.in1 } ⟨ok.fx, ok.kind, ok.loc, ok.glb, ok.blt, ok.lowK, ok.lo⟩ rfl (room.le hD1)⟩
  · obtain ⟨x, y⟩ := po.ok _ _ _ _ _ e; exact ⟨x, fun z => y z c ok rfl room.of_in1⟩
  · obtain ⟨x, y⟩ := eo.ok _ _ _ _ _ _ e; exact ⟨x, fun z => y z c ok rfl room.of_in1⟩
/-- a def that is run straight through -/
noncomputable def defOk (K : Frag) (f : Addr) (names : List Str) : Bool := isDef K f (fdOf K f) && hasBody (fdOf K f) && nodupB names && names.all (fun x => (fdOf K f).scope.names.lookup x == some .local)
noncomputable def xr (g : Cfg) (n : Nat) (b : List Stmt) (ds : Ds) (V : View) : Option (PF × List PO × List Prop) := match xs g n b ds V with
  | some (f, _, V', P) => some (f, V'.objs, P)
  | none => none
theorem xr_ok {g : Cfg} {n : Nat} {b : List Stmt} {ds : Ds} {V : View} {f : PF} {objs : List PO} {P : List Prop} (h : xr g n b ds V = some (f, objs, P)) : ∃ ds' V', xs g n b ds V = some (f, ds', V', P) ∧ V'.objs = objs := by
  unfold xr at h
  split at h
  · rename_i e; cases h; exact ⟨_, _, e, rfl⟩
  · cases h
/-- what is so by itself -/
noncomputable abbrev Rf {α : Type} (a : α) : Prop := a = a
theorem spec_run {W : Wd} {D : Nat} {f : Addr} {ps : List PV} {objs objs' : List PO} {fl : PF} {loc : List (Str × PV)} {t : Tabs} {po : POrc W D} {eo : Orc W D} {n : Nat} {ds : Ds} {P : List Prop} {names : List Str}
    (hd : defOk W.K f names = true) (ht : t.Ok W) (hn : loc.map (·.1) = names)
    (hbind : ∀ (T : List Addr) (ρ : List (Addr × Addr)) (s : Shared) (vs : List Value), Base W.K W.N s.heap → (∀ b ∈ T, W.N ≤ b) → IsL T ρ s.heap ps vs → ∃ binds, runPure W.K 30 (bindArgs (fdOf W.K f) ⟨vs, []⟩) = some binds ∧ binds.map (·.1) = names ∧ IsL T ρ s.heap (loc.map (·.2)) (binds.map (·.2)))
    (run : xr (mkCfg (fdOf W.K f).scope t po eo) n (bodyOf (fdOf W.K f)) ds ⟨loc, objs⟩ = some (fl, objs', P)) (hP : AllP P) (hD : 1 ≤ D := by decide) : SpecC W (D + 1) (.ref f) ps objs (retP fl) objs' := by
  obtain ⟨h123, h4⟩ := Bool.and_eq_true_iff.mp hd
  obtain ⟨h12, h3⟩ := Bool.and_eq_true_iff.mp h123
  obtain ⟨ds', V', run, ho⟩ := xr_ok run
  refine call_def (loc := loc) (defIs_of h12) (hn ▸ nodupB_ok h3) (fun x hx => ?_) (fun T ρ s vs B hT ia => ?_) fun c ok e room hs _ => ⟨_, (sx_sound ok (mkCfg_ok ok e room hD hs ht) n).2 _ _ _ _ _ _ _ run hP, ho⟩
  · exact beq_iff_eq.mp (List.all_eq_true.mp h4 x (hn ▸ hx))
  · obtain ⟨binds, a, b, c⟩ := hbind T ρ s vs B hT ia
    exact ⟨binds, fun M A E Q q => runPure_sound B.k a q, hn ▸ b, c⟩
/-- a def that hands out an attribute of its first argument -/
noncomputable def getterOk (K : Frag) (f C : Addr) (al : Str) : Bool := defOk K f ["self"] && attrOk K C al && (((one (bodyOf (fdOf K f))).bind retOf).bind fun e => (attOf e.1).bind fun x => (nameIn x.1).bind fun y => if y.1 == ("self" : Str) && x.2.1 == al then some () else none).isSome
theorem getter_ok {W : Wd} {f C : Addr} {al : Str} {k : Nat} {objs : List PO} {att : List (Str × PV)} {p : PV} (h : getterOk W.K f C al = true) (hb : ∀ v, runPure W.K 30 (bindArgs (fdOf W.K f) ⟨[v], []⟩) = some ([("self", v)] : List (Str × Value))) (ho : objs[k]? = some (.inst C att)) (hp : att.lookup al = some p) (hh : handedP p = true) :
    SpecC W 1 (.ref f) [.o k] objs p objs := by
  unfold getterOk at h
  simp only [Bool.and_eq_true] at h
  obtain ⟨⟨hd, ha⟩, hbody⟩ := h
  obtain ⟨h123, h4⟩ := Bool.and_eq_true_iff.mp hd
  obtain ⟨h12, h3⟩ := Bool.and_eq_true_iff.mp h123
  have hl : (fdOf W.K f).scope.names.lookup ("self" : Str) = some .local := beq_iff_eq.mp (List.all_eq_true.mp h4 _ (.head _))
  refine call_def (D := 0) (fl := .ret p) (loc := [("self", .o k)]) (defIs_of h12) (nodupB_ok h3) (fun x hx => ?_) (fun T ρ s vs B hT ia => ?_) fun c ok e room hs _ => ?_
  · rcases List.mem_singleton.mp hx with rfl; exact hl
  · obtain ⟨v, rfl, i⟩ := isL1 ia
    exact ⟨_, fun M A E Q q => runPure_sound B.k (hb v) q, rfl, .cons i .nil⟩
  · refine ⟨⟨[("self", .o k)], objs⟩, ?_, rfl⟩
    subst e
    obtain ⟨_, hb⟩ := Option.isSome_iff_exists.mp hbody
    obtain ⟨e, h1, hb⟩ := ob hb
    obtain ⟨st, h0, h1⟩ := ob h1
    obtain ⟨x, h2, hb⟩ := ob hb
    obtain ⟨y, h3, hb⟩ := ob hb
    obtain ⟨⟨e1, e2⟩, _⟩ := oi hb
    rw [one_is h0, retOf_is h1, attOf_is h2, nameIn_is h3, beq_iff_eq.mp e1, beq_iff_eq.mp e2]
    exact ex_stop (sx_return (ev_attr ok (ev_local ok (by unfold Env.kindOf; rw [hs]; exact hl) (by decide) rfl) ho ha hp hh)) (fun q => nomatch q)
/-- a def whose body is run by whatever proof -/
theorem spec_bodyC {W : Wd} {D : Nat} {f : Addr} {ps : List PV} {objs objs' : List PO} {fl : PF} {loc : List (Str × PV)} {names : List Str}
    (hd : defOk W.K f names = true) (hn : loc.map (·.1) = names)
    (hbind : ∀ (T : List Addr) (ρ : List (Addr × Addr)) (s : Shared) (vs : List Value), Base W.K W.N s.heap → (∀ b ∈ T, W.N ≤ b) → IsL T ρ s.heap ps vs → ∃ binds, runPure W.K 30 (bindArgs (fdOf W.K f) ⟨vs, []⟩) = some binds ∧ binds.map (·.1) = names ∧ IsL T ρ s.heap (loc.map (·.2)) (binds.map (·.2)))
    (hrun : ∀ c : Fc, c.Ok → c.toWd = W → Room c.A.in1 D → c.env.scope = (fdOf W.K f).scope → c.env.code = (fdOf W.K f).code → ∃ V', ExOk c (bodyOf (fdOf W.K f)) ⟨loc, objs⟩ fl V' ∧ V'.objs = objs') : SpecC W (D + 1) (.ref f) ps objs (retP fl) objs' := by
  obtain ⟨h123, h4⟩ := Bool.and_eq_true_iff.mp hd
  obtain ⟨h12, h3⟩ := Bool.and_eq_true_iff.mp h123
  refine call_def (loc := loc) (defIs_of h12) (hn ▸ nodupB_ok h3) (fun x hx => ?_) (fun T ρ s vs B hT ia => ?_) hrun
  · exact beq_iff_eq.mp (List.all_eq_true.mp h4 x (hn ▸ hx))
  · obtain ⟨binds, a, b, c⟩ := hbind T ρ s vs B hT ia
    exact ⟨binds, fun M A E Q q => runPure_sound B.k a q, hn ▸ b, c⟩
theorem spec_body {W : Wd} {D : Nat} {f : Addr} {ps : List PV} {objs objs' : List PO} {fl : PF} {loc : List (Str × PV)} {names : List Str}
    (hd : defOk W.K f names = true) (hn : loc.map (·.1) = names)
    (hbind : ∀ (T : List Addr) (ρ : List (Addr × Addr)) (s : Shared) (vs : List Value), Base W.K W.N s.heap → (∀ b ∈ T, W.N ≤ b) → IsL T ρ s.heap ps vs → ∃ binds, runPure W.K 30 (bindArgs (fdOf W.K f) ⟨vs, []⟩) = some binds ∧ binds.map (·.1) = names ∧ IsL T ρ s.heap (loc.map (·.2)) (binds.map (·.2)))
    (hrun : ∀ c : Fc, c.Ok → c.toWd = W → Room c.A.in1 D → c.env.scope = (fdOf W.K f).scope → ∃ V', ExOk c (bodyOf (fdOf W.K f)) ⟨loc, objs⟩ fl V' ∧ V'.objs = objs') : SpecC W (D + 1) (.ref f) ps objs (retP fl) objs' :=
  spec_bodyC hd hn hbind fun c ok e room hs _ => hrun c ok e room hs
end M8
section M9
/-! ## while -/
inductive LoopN (c : Fc) (test : Expr) (body : List Stmt) : Nat → View → PF → View → Prop
  | stop {n : Nat} {V V1 : View} : TvOk c test V false V1 → LoopN c test body n V .next V1
  | step {n : Nat} {V V1 V2 V3 : View} {f g : PF} : TvOk c test V true V1 → ExOk c body V1 f V2 → (f = .next ∨ f = .cont) → LoopN c test body n V2 g V3 → LoopN c test body (n + 1) V g V3
  | brk {n : Nat} {V V1 V2 : View} : TvOk c test V true V1 → ExOk c body V1 .brk V2 → LoopN c test body n V .next V2
  | ret {n : Nat} {V V1 V2 : View} {p : PV} : TvOk c test V true V1 → ExOk c body V1 (.ret p) V2 → LoopN c test body n V (.ret p) V2
theorem sx_while {c : Fc} {test : Expr} {body : List Stmt} {pos : Pos} {n : Nat} {V V' : View} {f : PF} (h : LoopN c test body n V f V') : SxOk c (.While test body [] pos) V f V' := by
  intro s Q E I k
  refine wpAny_While (codeAny_whileLoop (fun m s' => ∃ V1, LoopN c test body m V1 f V' ∧ Inv c V1 s' ∧ St c.N c.muts s s') ?_ n ⟨V, h, I, .refl s⟩)
  rintro m s1 ⟨V1, hl, I1, t1⟩
  cases hl with
  | stop ht =>
    refine ht s1 _ _ I1 fun s2 I2 t2 => ?_
    exact wpAny_execs_nil (k s2 _ I2 (t1.trans t2) rfl)
  | step ht hb hf hr =>
    refine ht s1 _ _ I1 fun s2 I2 t2 => ?_
    rw [if_pos rfl]
    refine hb s2 _ _ I2 fun s3 fl I3 t3 hfl => ?_
    rcases hf with rfl | rfl
    · cases hfl; exact ⟨_, Nat.lt_succ_self _, _, hr, I3, (t1.trans t2).trans t3⟩
    · cases hfl; exact ⟨_, Nat.lt_succ_self _, _, hr, I3, (t1.trans t2).trans t3⟩
  | brk ht hb =>
    refine ht s1 _ _ I1 fun s2 I2 t2 => ?_
    rw [if_pos rfl]
    refine hb s2 _ _ I2 fun s3 fl I3 t3 hfl => ?_
    cases hfl; exact k s3 _ I3 ((t1.trans t2).trans t3) rfl
  | ret ht hb =>
    refine ht s1 _ _ I1 fun s2 I2 t2 => ?_
    rw [if_pos rfl]
    refine hb s2 _ _ I2 fun s3 fl I3 t3 hfl => ?_
    obtain ⟨v, rfl, iv⟩ := hfl; exact k s3 _ I3 ((t1.trans t2).trans t3) ⟨v, rfl, iv⟩
theorem tv_true {c : Fc} {V : View} {k : Nat} {pos : Pos} : TvOk c (.Constant (.bool true) k pos) V true V := tv_plain (fun _ _ => rfl) ev_bool rfl trivial
/-! ### fewer names are known behind -/
theorem lookup_pre {α : Type} {l r : List (Str × α)} {x : Str} {p : α} (h : l.lookup x = some p) : (l ++ r).lookup x = some p := by
  rw [List.lookup_append, h]; rfl
theorem Inv.drop {c : Fc} {l r : List (Str × PV)} {objs : List PO} {s : Shared} (I : Inv c ⟨l ++ r, objs⟩ s) : Inv c ⟨l, objs⟩ s := by
  obtain ⟨⟨⟨m, hn, hl⟩, ho⟩, B, lv, F⟩ := I
  exact ⟨⟨⟨m, hn, fun x p e => hl x p (lookup_pre e)⟩, ho⟩, B, lv, F⟩
theorem ExOk.drop {c : Fc} {b : List Stmt} {V : View} {f : PF} {l r : List (Str × PV)} {objs : List PO} (h : ExOk c b V f ⟨l ++ r, objs⟩) : ExOk c b V f ⟨l, objs⟩ := fun s Q E I k => h s Q E I fun s' fl I' t hf => k s' fl I'.drop t hf
/-! ### a body with one while -/
noncomputable def whOf : Stmt → Option (Expr × List Stmt × Pos)
  | .While t b els pos => if els.isEmpty then some (t, b, pos) else none
  | _ => none
theorem whOf_is {st : Stmt} {t : Expr} {b : List Stmt} {pos : Pos} (h : whOf st = some (t, b, pos)) : st = .While t b [] pos := by
  cases st with
  | While t b els pos => obtain ⟨h1, h⟩ := oi h; cases h; rw [List.isEmpty_iff.mp h1]
  | _ => exact no h
noncomputable abbrev WhX := List Stmt × Expr × List Stmt × Pos × List Stmt
noncomputable def splitW1 (st : Stmt) (r : List Stmt) (y : Option WhX) : Option (Expr × List Stmt × Pos) → Option WhX
  | some x => some ([], x.1, x.2.1, x.2.2, r)
  | none => y.map fun y => (st :: y.1, y.2)
noncomputable def splitW : List Stmt → Option WhX
  | [] => none
  | st :: r => splitW1 st r (splitW r) (whOf st)
theorem splitW_eq {l : List Stmt} : ∀ {pre post : List Stmt} {t : Expr} {b : List Stmt} {pos : Pos}, splitW l = some (pre, t, b, pos, post) → l = pre ++ .While t b [] pos :: post := by
  induction l with
  | nil => intro _ _ _ _ _ h; exact no h
  | cons st r ih =>
    intro pre post t b pos h
    have h : splitW1 st r (splitW r) (whOf st) = some (pre, t, b, pos, post) := h
    cases e : whOf st with
    | some x => rw [e] at h; cases h; rw [whOf_is e]; rfl
    | none =>
      rw [e] at h
      obtain ⟨⟨p, y⟩, hy, h⟩ := map_some h
      cases h
      rw [ih hy]; rfl
noncomputable def wX : WhX := ([], .Constant .none 0 default, [], default, [])
noncomputable def preW (l : List Stmt) : List Stmt := ((splitW l).getD wX).1
noncomputable def testW (l : List Stmt) : Expr := ((splitW l).getD wX).2.1
noncomputable def bodyW (l : List Stmt) : List Stmt := ((splitW l).getD wX).2.2.1
noncomputable def postW (l : List Stmt) : List Stmt := ((splitW l).getD wX).2.2.2.2
noncomputable def posW (l : List Stmt) : Pos := ((splitW l).getD wX).2.2.2.1
theorem splitW_is {l : List Stmt} (h : (splitW l).isSome = true) : l = preW l ++ .While (testW l) (bodyW l) [] (posW l) :: postW l := splitW_eq (getD_some h)
theorem xs_app {c : Fc} {g : Cfg} (ok : c.Ok) (gk : CfgOk c g) {rest : List Stmt} {f : PF} {V2 : View} : ∀ {n : Nat} {pre : List Stmt} {ds ds' : Ds} {V V1 : View} {P : List Prop}, xs g n pre ds V = some (.next, ds', V1, P) → AllP P → ExOk c rest V1 f V2 → ExOk c (pre ++ rest) V f V2
  | 0, _, _, _, _, _, _, h, _, _ => no h
  | n + 1, [], _, _, _, _, _, h, _, hr => by cases h; exact hr
  | n + 1, st :: r, ds, ds', V, V1, P, h, hP, hr => by
    obtain ⟨ds1, V0, P1, P2, h1, h2, rfl⟩ := xs_next h
    rw [AllP.append] at hP
    exact ex_cons ((sx_sound ok gk n).1 _ _ _ _ _ _ _ h1 hP.1) (xs_app ok gk h2 hP.2 hr)
end M9
section M10
/-! ## a def that raises StopIteration -/
noncomputable def frAddrs (l : List Env) : List Addr := l.filterMap (·.frame)
theorem frs_fun {N : Nat} {h : Heap} {as : List Addr} : ∀ {fs : List Env}, (∀ env ∈ fs, env.scope.kind ≠ .module ∧ ∃ L m, env.frame = some L ∧ N ≤ L ∧ FrameAt h L m) → (∀ env ∈ fs, ∀ a, env.frame = some a → a ∈ as) → h.FunFrames (hideAll h as) fs
  | [], _, _ => trivial
  | env :: r, hf, hin => by
    obtain ⟨h1, L, m, h2, h3, h4⟩ := hf env (.head _)
    obtain ⟨o, es, ep, ho, hd, _⟩ := h4.ns
    exact ⟨h1, ⟨L, o, h2, hideAll_none _ (hin env (.head _) L h2), ho, fun vs q => by rw [hd] at q; cases q⟩, frs_fun (fun e he => hf e (.tail _ he)) fun e he => hin e (.tail _ he)⟩
theorem leave_made {M : Model} {A : Around} {N : Nat} {h : Heap} {env : Env} {s : Shared} {e L : Addr} {X : String} {Q : Unit → Shared → Prop} {E : Value → Shared → Prop} (frs : Frs N A h) (hfr : ∃ r, A.frames = some (env :: r)) (hf : env.frame = some L) (hx : Heap.MadeExcOf h s.heap e (.type X) [])
    (hq : ∀ h', Keep N [] h h' → (∃ o, h'.get? e = some o ∧ o.cls = .type X) → Q () { s with heap := h' }) : wpAny M A (leaving env (.ref e)) Q E s := by
  obtain ⟨fs, e1, hfs⟩ := frs
  obtain ⟨r, e2⟩ := hfr
  rw [e1] at e2; cases e2
  have hin : ∀ env' ∈ (env :: r), ∀ a, env'.frame = some a → a ∈ frAddrs (env :: r) := fun env' he a ha => List.mem_filterMap.mpr ⟨env', he, ha⟩
  refine wpAny_leaves_madeW (base := hideAll h (frAddrs (env :: r))) e1 hf (fun b o q => of_hideAll _ q) (frs_fun hfs hin) hx fun h' t fl _ _ up => ?_
  have key : ∀ b o, h.get? b = some o → Same N b o (h'.get? b) := by
    intro b o hb
    by_cases g : b ∈ frAddrs (env :: r)
    · obtain ⟨env', he, ha⟩ := List.mem_filterMap.mp g
      obtain ⟨_, L', m, h2, h3, h4⟩ := hfs env' he
      rw [h2] at ha; cases ha
      obtain ⟨o1, ho1, hc⟩ := h4.cls
      obtain ⟨o2, es, ep, ho2, hd, _⟩ := h4.ns
      rw [hb] at ho1 ho2; cases ho1; cases ho2
      obtain ⟨sl, q⟩ := up b o (hx.keeps b o hb) (fun vs q => by rw [hd] at q; cases q)
      rw [q]
      exact .slots sl h3 hc
    · rw [fl.1 b o (hideAll_get _ hb g)]; exact .same
  refine hq h' ⟨fun b o _ hb => key b o hb, fun b o hb => ?_⟩ fl.there
  have := key b o hb
  generalize h'.get? b = r at this
  cases this <;> exact ⟨_, rfl⟩
/-- the new exception is made of what stood -/
noncomputable def MadeSt (s1 s' : Shared) (e : Addr) : Prop := Heap.MadeExcOf s1.heap s'.heap e (.type "StopIteration") [] ∧ s'.gens = s1.gens ∧ s'.os = s1.os
noncomputable def ExR (c : Fc) (b : List Stmt) (V V' : View) : Prop :=
  ∀ (s : Shared) (Q : Flow → Shared → Prop) (E : Value → Shared → Prop), Inv c V s → (∀ s1 s' e, Inv c V' s1 → St c.N c.muts s s1 → MadeSt s1 s' e → E (.ref e) s') → wpAny c.M c.A (execs b c.env) Q E s
/-- a call that raises StopIteration -/
noncomputable def SpecX (W : Wd) (D : Nat) (f : Value) (ps : List PV) (objs objs' : List PO) : Prop :=
  ∀ c : Fc, c.Ok → c.toWd = W → Room c.A D → ∀ (s : Shared) (vs : List Value) (Q E : Value → Shared → Prop), Base c.K c.N s.heap → (∀ b ∈ c.T, ∃ o, s.heap.get? b = some o) → Frs c.N c.A s.heap → ObjsOk c.T c.ρ objs s.heap → IsL c.T c.ρ s.heap ps vs →
    (∀ s' e, St c.N (mutsOf c.ρ) s s' → Base c.K c.N s'.heap → Frs c.N c.A s'.heap → ObjsOk c.T c.ρ objs' s'.heap → s'.TypeIs (.ref e) "StopIteration" → E (.ref e) s') → wpAny c.M c.A (call f vs) Q E s
theorem call_stop {W : Wd} {D : Nat} {f : Addr} {fd : FuncData} {body : List Stmt} {ps : List PV} {objs objs' : List PO} {loc : List (Str × PV)} (di : DefIs W.K f fd body) (nd : (loc.map (·.1)).Nodup) (hl : ∀ x ∈ loc.map (·.1), fd.scope.names.lookup x = some .local)
    (hbind : ∀ (T : List Addr) (ρ : List (Addr × Addr)) (s : Shared) (vs : List Value), Base W.K W.N s.heap → (∀ b ∈ T, W.N ≤ b) → IsL T ρ s.heap ps vs → ∃ binds, BindsTo s fd ⟨vs, []⟩ binds ∧ binds.map (·.1) = loc.map (·.1) ∧ IsL T ρ s.heap (loc.map (·.2)) (binds.map (·.2)))
    (hrun : ∀ c : Fc, c.Ok → c.toWd = W → Room c.A.in1 D → c.env.scope = fd.scope → ∃ V', ExR c body ⟨loc, objs⟩ V' ∧ V'.objs = objs') : SpecX W (D + 1) (.ref f) ps objs objs' := by
  rintro c ok rfl room s vs Q E B live frs O ia hq
  refine wpAny_call ?_
  obtain ⟨oc, od, sl, hK⟩ := di.at_
  have ho := B.k _ _ hK
  obtain ⟨binds, hb1, hb2, hb3⟩ := hbind c.T c.ρ s vs B ok.fx.low ia
  refine enter_def (binds := binds) (rd0 room.depth) ho rfl B.lim (codeRec_of B.k di.code) di.body hb1 di.cell (fun x hx => hl _ (hb2 ▸ List.mem_map_of_mem hx)) di.co di.gen di.kind fun h' F' k' => ?_
  have z := loc_binds hb2 (hb3.more fresh_size) nd
  obtain ⟨V', hx, rfl⟩ := hrun _ (ok.subc di live) rfl room.deeper rfl
  refine hx _ _ _ (sub_inv ok di B live frs O k' F' z) fun s1 s' e I'' st hm => ?_
  refine leave_made (N := c.N) (h := s1.heap) (X := "StopIteration") (A := c.A.deeper (callEnv fd s.heap.objs.size f)) I''.frs ?_ rfl hm.1 fun h2 k2 ht => ?_
  · obtain ⟨fs0, e0, _⟩ := frs
    exact ⟨fs0, by show (c.A.frames.map _) = _; rw [e0]; rfl⟩
  have I2 : Inv _ V' { s' with heap := h2 } := I''.keep (s' := { s' with heap := h2 }) (ok.subc di live) k2
  have st0 : St c.N (mutsOf c.ρ) s { s' with heap := h2 } := sub_st k' ⟨Keep.trans (h' := s1.heap) st.keep k2.all, by show Gn s.gens s'.gens; rw [hm.2.1]; exact st.gens, hm.2.2.trans st.os⟩
  obtain ⟨o, ho, hc⟩ := ht
  exact hq { s' with heap := h2 } e st0 I2.base (frs_sub frs I2.frs) (fun k po e => (I2.rep.objs k po e).less) ⟨o, ho, hc⟩
/-- the way to a raise of StopIteration -/
noncomputable abbrev XP := Option (View × List Prop)
noncomputable def raiseOf : Stmt → Option (Str × Pos × Pos)
  | .Raise (some e) none p => (nameIn e).map fun y => (y.1, y.2, p)
  | _ => none
theorem raiseOf_is {st : Stmt} {x : Str} {q p : Pos} (h : raiseOf st = some (x, q, p)) : st = .Raise (some (.Name x q)) none p := by
  cases st with
  | Raise e c p => cases e with
    | some e => cases c with
      | none => obtain ⟨y, hy, h⟩ := map_some h; cases h; rw [nameIn_is hy]
      | some _ => exact no h
    | none => exact no h
  | _ => exact no h
structure IfX where
  t : Expr
  b : List Stmt
  e : List Stmt
  p : Pos
noncomputable def ifOf : Stmt → Option IfX
  | .If t b e p => some ⟨t, b, e, p⟩
  | _ => none
theorem ifOf_is {st : Stmt} {i : IfX} (h : ifOf st = some i) : st = .If i.t i.b i.e i.p := by
  cases st with
  | If => cases h; rfl
  | _ => exact no h
noncomputable def addX (P : List Prop) (x : XP) : XP := x.map fun z => (z.1, P ++ z.2)
theorem addX_is {P R : List Prop} {x : XP} {V : View} (h : addX P x = some (V, R)) : ∃ Q, x = some (V, Q) ∧ R = P ++ Q := by
  obtain ⟨z, e1, e2⟩ := map_some h
  cases e2
  exact ⟨_, e1, rfl⟩
noncomputable def xxD (X : List Stmt → Ds → View → XP) (b e : List Stmt) (V : View) (z : Bool × List Prop) : Ds → XP
  | some d :: ds => (X (if d then b else e) ds V).map fun w => (w.1, z.2 ++ ((z.1 = d) :: w.2))
  | none :: ds => addX z.2 (X (if z.1 then b else e) ds V)
  | [] => addX z.2 (X (if z.1 then b else e) [] V)
noncomputable def xxK (X : List Stmt → Ds → View → XP) (r : List Stmt) (z : PF × Ds × View × List Prop) : PF → XP
  | .next => addX z.2.2.2 (X r z.2.1 z.2.2.1)
  | _ => none
noncomputable def xxN (X : List Stmt → Ds → View → XP) (r : List Stmt) (y : XP) : SP → XP
  | some z => xxK X r z z.1
  | none => y
noncomputable def xxS (g : Cfg) (n : Nat) (X : List Stmt → Ds → View → XP) (st : Stmt) (r : List Stmt) (ds : Ds) (V : View) : Option (Str × Pos × Pos) → XP
  | some x => if x.1 == ("StopIteration" : Str) && g.scope.names.lookup x.1 == some .globalImplicit && (g.glob.lookup x.1 == some (.type "StopIteration")) then some (V, []) else none
  | none => xxN X r ((ifOf st).bind fun i => (pt g n i.t V).bind fun z => xxD X i.b i.e V z ds) (sx g n st ds V)
noncomputable def xxB (g : Cfg) (n : Nat) (X : List Stmt → Ds → View → XP) (b : List Stmt) (ds : Ds) (V : View) : XP := match b with
  | [] => none
  | st :: r => xxS g n X st r ds V (raiseOf st)
noncomputable def xx (g : Cfg) : Nat → List Stmt → Ds → View → XP
  | 0, _, _, _ => none
  | n + 1, b, ds, V => xxB g n (fun b ds V => xx g n b ds V) b ds V
section
variable {c : Fc} {V V1 V2 : View}
theorem exr_cons {st : Stmt} {r : List Stmt} (h1 : SxOk c st V .next V1) (h2 : ExR c r V1 V2) : ExR c (st :: r) V V2 := by
  intro s Q E I k
  refine wpAny_execs_cons (h1 s _ E I fun s1 fl I1 t1 hf => ?_)
  cases hf
  exact h2 s1 Q E I1 fun s2 s3 e I2 t2 hm => k s2 s3 e I2 (t1.trans t2) hm
theorem exr_if {t : Expr} {bd el r : List Stmt} {pos : Pos} {b : Bool} (ht : TvOk c t V b V1) (h : ExR c (if b then bd else el) V1 V2) : ExR c (.If t bd el pos :: r) V V2 := by
  intro s Q E I k
  refine wpAny_execs_cons (wpAny_If (ht s _ E I fun s1 I1 t1 => ?_))
  cases b <;> exact h s1 _ E I1 fun s2 s3 e I2 t2 hm => k s2 s3 e I2 (t1.trans t2) hm
theorem glob_same {x : Str} {pos : Pos} {v : Value} {s : Shared} {E : Value → Shared → Prop} (ok : c.Ok) (I : Inv c V s) (hk : c.env.kindOf x = some .globalImplicit) (hd : (x == ("__debug__" : Str)) = false) (hg : globIs c.K x v = true) : wpAny c.M c.A (eval (.Name x pos) c.env) (fun u s₁ => u = v ∧ s₁ = s) E s := by
  refine Calls.Name_function_global ok.kind hk ?_ hd
  unfold loadGlobal
  rw [ok.glb]
  rcases Bool.or_eq_true_iff.mp hg with e | e
  · have e := beq_iff_eq.mp e
    exact nsMain I.base.k e rfl (wpAny_pure ⟨rfl, rfl⟩)
  · obtain ⟨e, e3⟩ := Bool.and_eq_true_iff.mp e
    obtain ⟨e1, e2⟩ := Bool.and_eq_true_iff.mp e
    refine nsMain I.base.k (beq_iff_eq.mp e1) rfl ?_
    obtain ⟨mb, hb, hx⟩ := I.base.b
    refine wpAny_bind (wpAny_nsGet (by rw [ok.blt]; exact hb) ?_)
    rw [hx x (by simpa using e3), beq_iff_eq.mp e2]
    exact wpAny_pure ⟨rfl, rfl⟩
theorem exr_raise {x : Str} {np pos : Pos} {r : List Stmt} (ok : c.Ok) (hh : c.A.handled = none) (hk : c.env.kindOf x = some .globalImplicit) (hd : (x == ("__debug__" : Str)) = false) (hg : globIs c.K x (.type "StopIteration") = true) : ExR c (.Raise (some (.Name x np)) none pos :: r) V V := by
  intro s Q E I k
  refine wpAny_execs_cons (owsi_raiseC hh ?_ fun h' e hm => ?_)
  · exact glob_same ok I hk hd hg
  · exact k s _ e I (.refl s) ⟨⟨hm.keeps, hm.new, hm.there⟩, rfl, rfl⟩
noncomputable abbrev RxOk (c : Fc) (X : List Stmt → Ds → View → XP) : Prop := ∀ b ds V V' P, X b ds V = some (V', P) → AllP P → ExR c b V V'
theorem xxD_is {X : List Stmt → Ds → View → XP} {b e : List Stmt} {z : Bool × List Prop} {ds : Ds} {P : List Prop} (h : xxD X b e V z ds = some (V1, P)) (hP : AllP P) : ∃ d ds1 Q, AllP z.2 ∧ z.1 = d ∧ X (if d then b else e) ds1 V = some (V1, Q) ∧ AllP Q := by
  cases ds with
  | nil =>
    obtain ⟨Q, h2, rfl⟩ := addX_is h
    rw [AllP.append] at hP
    exact ⟨_, _, _, hP.1, rfl, h2, hP.2⟩
  | cons d ds => cases d with
    | some d =>
      obtain ⟨w, e1, e2⟩ := map_some h
      cases e2
      rw [AllP.append] at hP
      exact ⟨d, _, _, hP.1, hP.2.1, e1, hP.2.2⟩
    | none =>
      obtain ⟨Q, h2, rfl⟩ := addX_is h
      rw [AllP.append] at hP
      exact ⟨_, _, _, hP.1, rfl, h2, hP.2⟩
theorem xxN_is {X : List Stmt → Ds → View → XP} {r : List Stmt} {y : XP} {z : SP} {P : List Prop} (h : xxN X r y z = some (V1, P)) : (∃ ds V0 P1 P2, z = some (.next, ds, V0, P1) ∧ X r ds V0 = some (V1, P2) ∧ P = P1 ++ P2) ∨ y = some (V1, P) := by
  cases z with
  | none => exact .inr h
  | some z =>
    obtain ⟨zf, zd, zV, zP⟩ := z
    cases zf with
    | next => obtain ⟨Q, h2, rfl⟩ := addX_is h; exact .inl ⟨_, _, _, _, rfl, h2, rfl⟩
    | _ => exact no h
theorem xx_step {g : Cfg} {X : List Stmt → Ds → View → XP} (ok : c.Ok) (gk : CfgOk c g) (hh : c.A.handled = none) {n : Nat} (hX : RxOk c X) : RxOk c (xxB g n X) := fun b ds V V' P h hP => by
  cases b with
  | nil => exact no h
  | cons st r =>
    have h : xxS g n X st r ds V (raiseOf st) = some (V', P) := h
    cases e : raiseOf st with
    | some x =>
      rw [e] at h
      obtain ⟨hq, h⟩ := oi h
      obtain ⟨hq12, hq3⟩ := Bool.and_eq_true_iff.mp hq
      obtain ⟨hq1, hq2⟩ := Bool.and_eq_true_iff.mp hq12
      cases h
      rw [raiseOf_is e]
      exact exr_raise ok hh ((kind_of gk _).trans (beq_iff_eq.mp hq2)) (by rw [beq_iff_eq.mp hq1]; decide) (gk.glob _ _ (beq_iff_eq.mp hq3))
    | none =>
      rw [e] at h
      rcases xxN_is h with ⟨_, _, _, _, h1, h2, rfl⟩ | h
      · rw [AllP.append] at hP
        exact exr_cons ((sx_sound ok gk n).1 _ _ _ _ _ _ _ h1 hP.1) (hX _ _ _ _ _ h2 hP.2)
      · obtain ⟨i, hi, h⟩ := ob h
        obtain ⟨z, h1, h⟩ := ob h
        obtain ⟨d, ds1, Q, q1, rfl, h2, q2⟩ := xxD_is h hP
        rw [ifOf_is hi]
        exact exr_if ((pt_sound (V := V) ok gk n).1 _ _ _ h1 q1) (hX _ _ _ _ _ h2 q2)
theorem xx_sound {g : Cfg} (ok : c.Ok) (gk : CfgOk c g) (hh : c.A.handled = none) : ∀ n : Nat, RxOk c (xx g n)
  | 0 => fun _ _ _ _ _ h _ => no h
  | n + 1 => fun b ds V V' P h => xx_step ok gk hh (xx_sound ok gk hh n) b ds V V' P h
end
noncomputable def xxo (g : Cfg) (n : Nat) (b : List Stmt) (ds : Ds) (V : View) : Option (List PO × List Prop) := (xx g n b ds V).map fun z => (z.1.objs, z.2)
theorem xxo_ok {g : Cfg} {n : Nat} {b : List Stmt} {ds : Ds} {V : View} {objs : List PO} {P : List Prop} (h : xxo g n b ds V = some (objs, P)) : ∃ V', xx g n b ds V = some (V', P) ∧ V'.objs = objs := by
  obtain ⟨z, e1, e2⟩ := Option.map_eq_some_iff.mp h
  cases e2
  exact ⟨_, e1, rfl⟩
/-- a def that raises, run straight through -/
theorem spec_runX {W : Wd} {D : Nat} {f : Addr} {ps : List PV} {objs objs' : List PO} {loc : List (Str × PV)} {t : Tabs} {po : POrc W D} {eo : Orc W D} {n : Nat} {ds : Ds} {P : List Prop} {names : List Str}
    (hd : defOk W.K f names = true) (ht : t.Ok W) (hn : loc.map (·.1) = names)
    (hbind : ∀ (T : List Addr) (ρ : List (Addr × Addr)) (s : Shared) (vs : List Value), Base W.K W.N s.heap → (∀ b ∈ T, W.N ≤ b) → IsL T ρ s.heap ps vs → ∃ binds, runPure W.K 30 (bindArgs (fdOf W.K f) ⟨vs, []⟩) = some binds ∧ binds.map (·.1) = names ∧ IsL T ρ s.heap (loc.map (·.2)) (binds.map (·.2)))
    (run : xxo (mkCfg (fdOf W.K f).scope t po eo) n (bodyOf (fdOf W.K f)) ds ⟨loc, objs⟩ = some (objs', P)) (hP : AllP P) (hD : 1 ≤ D := by decide) : SpecX W (D + 1) (.ref f) ps objs objs' := by
  obtain ⟨h123, h4⟩ := Bool.and_eq_true_iff.mp hd
  obtain ⟨h12, h3⟩ := Bool.and_eq_true_iff.mp h123
  obtain ⟨V', run, ho⟩ := xxo_ok run
  refine call_stop (loc := loc) (defIs_of h12) (hn ▸ nodupB_ok h3) (fun x hx => ?_) (fun T ρ s vs B hT ia => ?_) fun c ok e room hs => ⟨_, xx_sound ok (mkCfg_ok ok e room hD hs ht) room.handled n _ _ _ _ _ run hP, ho⟩
  · exact beq_iff_eq.mp (List.all_eq_true.mp h4 x (hn ▸ hx))
  · obtain ⟨binds, a, b, c⟩ := hbind T ρ s vs B hT ia
    exact ⟨binds, fun M A E Q q => runPure_sound B.k a q, hn ▸ b, c⟩
/-! ### a body with one while that is left at once -/
theorem while_stop {c : Fc} {g : Cfg} (ok : c.Ok) (gk : CfgOk c g) {l : List Stmt} (hs : (splitW l).isSome = true) {n : Nat} {ds ds1 dsp : Ds} {V V1 : View} {P1 P2 P3 : List Prop} {b : Bool} {fl : PF} {objs : List PO}
    (h1 : xs g n (preW l) ds V = some (.next, ds1, V1, P1)) (q1 : AllP P1) (h2 : pt g n (testW l) V1 = some (b, P2)) (q2 : AllP P2) (hb : b = false) (h3 : xr g n (postW l) dsp V1 = some (fl, objs, P3)) (q3 : AllP P3) : ∃ V', ExOk c l V fl V' ∧ V'.objs = objs := by
  obtain ⟨ds', V', run, ho⟩ := xr_ok h3
  subst hb
  refine ⟨V', ?_, ho⟩
  rw [splitW_is hs]
  exact xs_app ok gk h1 q1 (ex_cons (sx_while (n := 0) (.stop ((pt_sound ok gk n).1 _ _ _ h2 q2))) ((sx_sound ok gk n).2 _ _ _ _ _ _ _ run q3))
theorem while_ret {c : Fc} {g : Cfg} (ok : c.Ok) (gk : CfgOk c g) {l : List Stmt} (hs : (splitW l).isSome = true) {n : Nat} {ds ds1 dsp : Ds} {V V1 : View} {P1 P2 P3 : List Prop} {b : Bool} {p : PV} {objs : List PO}
    (h1 : xs g n (preW l) ds V = some (.next, ds1, V1, P1)) (q1 : AllP P1) (h2 : pt g n (testW l) V1 = some (b, P2)) (q2 : AllP P2) (hb : b = true) (h3 : xr g n (bodyW l) dsp V1 = some (.ret p, objs, P3)) (q3 : AllP P3) : ∃ V', ExOk c l V (.ret p) V' ∧ V'.objs = objs := by
  obtain ⟨ds', V', run, ho⟩ := xr_ok h3
  subst hb
  refine ⟨V', ?_, ho⟩
  rw [splitW_is hs]
  exact xs_app ok gk h1 q1 (ex_stop (sx_while (n := 0) (.ret ((pt_sound ok gk n).1 _ _ _ h2 q2) ((sx_sound ok gk n).2 _ _ _ _ _ _ _ run q3))) (fun q => nomatch q))
end M10
section M11
/-! ## list(x), x with a __next__ of its own -/
/-- objects that are instances stay of their class -/
noncomputable def instC (objs : List PO) (k : Nat) (C : Addr) : Prop := ∃ att, objs[k]? = some (.inst C att)
inductive ToksC (W : Wd) (D : Nat) (f : Value) (k : Nat) (C : Addr) : List PO → List PV → List PO → Prop
  | stop {objs objs' : List PO} : instC objs k C → SpecX W D f [.o k] objs objs' → ToksC W D f k C objs [] objs'
  | step {objs objs1 objs2 : List PO} {p : PV} {ps : List PV} : instC objs k C → Spec W D f [.o k] objs p objs1 → ToksC W D f k C objs1 ps objs2 → ToksC W D f k C objs (p :: ps) objs2
theorem own_next {M : Model} {A : Around} {E : Value → Shared → Prop} {s : Shared} {K : Frag} {x C f : Addr} {ox : Obj} {od : Option Obj} {Q : Option Value → Shared → Prop} (X : K.In s.heap) (I : InstAt s.heap x ox C od) (hs : findIn K (.ref C) "__next__" = some (some (.ref f))) (hf : isFn K (.ref f) = true)
    (h : wpAny M A (call (.ref f) [.ref x]) (fun v s' => Q (some v) s') (OwitStop M A Q E) s) : wpAny M A (pyNext (.ref x)) Q E s := by
  unfold pyNext
  refine wpAny_bind (wpAny_attempt (special_fn (name := "__next__") (args := []) X I hs (beq_iff_eq.mp hf) (wpAny_mono h (fun v s' hq => ?_) (fun e s' he => ?_))))
  · exact wpAny_pure hq
  · refine wpAny_bind (wpAny_mono he (fun b s₂ hb => ?_) fun _ _ z => z)
    cases b with
    | true => exact wpAny_pure hb
    | false => exact wpAny_throw hb
theorem inst_at {T : List Addr} {ρ : List (Addr × Addr)} {h : Heap} {k : Nat} {C a d : Addr} {att : List (Str × PV)} (x : ObjAt T ρ h k (.inst C att)) (e : ρ[k]? = some (a, d)) : ∃ od, InstAt h a ⟨.ref C, some d, .plain, #[]⟩ C od := by
  obtain ⟨a', dx, es, n, e', na, ea, ed, m⟩ := x
  rw [e] at e'; cases e'
  exact ⟨some (dictOf es n), ea, rfl, rfl, ed⟩
theorem stop_sub : isSubtype (.type "StopIteration") (.type "StopIteration") = pure true := by rw [isSubtype_type]; kernel_rfl
theorem list_loop {c : Fc} {f : Addr} {k : Nat} {C a d S : Addr} {D : Nat} {A : Around} {res : Value} (ok : c.Ok) (hA : c.A = A.in1) (room : Room c.A D) (hr : c.ρ[k]? = some (a, d)) (hST : S ∈ c.T) (hSm : S ∉ mutsOf c.ρ) (hs : findIn c.K (.ref C) "__next__" = some (some (.ref f))) (hf : isFn c.K (.ref f) = true) {R : Result → Shared → Prop} :
    ∀ {ps : List PV} {objs objs' : List PO}, ToksC c.toWd D (.ref f) k C objs ps objs' → ∀ (s : Shared) (acc : Array Value) (n : Nat) (done : List PV), done.length + ps.length ≤ 1000000 → Base c.K c.N s.heap → (∀ b ∈ c.T, ∃ o, s.heap.get? b = some o) → Frs c.N c.A s.heap → ObjsOk c.T c.ρ objs s.heap →
      s.heap.get? S = some { cls := .type "list", data := .seq acc n } → IsL c.T c.ρ s.heap done acc.toList →
      (∀ s' acc' n', St c.N (S :: mutsOf c.ρ) s s' → Base c.K c.N s'.heap → Frs c.N c.A s'.heap → ObjsOk c.T c.ρ objs' s'.heap → s'.heap.get? S = some { cls := .type "list", data := .seq acc' n' } → IsL c.T c.ρ s'.heap (done ++ ps) acc'.toList → R (.ok (.ret res)) s') →
      codeAny (model c.prog c.w) A (.builtin "list.extend.loop" ⟨[.ref S, .ref a, res], []⟩) R s := by
  intro ps objs objs' tk
  induction tk with
  | stop hi hx =>
    intro s acc n done hz B live frs O hS id hq
    obtain ⟨att, ho⟩ := hi
    obtain ⟨od, I⟩ := inst_at (O k _ ho) hr
    refine codeAny_builtin F.entry_extend_loop ?_
    rw [Around.under_plainId F.plain_extend_loop _]
    show wpAny _ A.in1 (pyNext (.ref a) >>= _) _ _ s
    rw [← hA]
    refine wpAny_bind (own_next B.k I hs hf (hx c ok rfl room s _ _ _ B live frs O (.cons (.o hr) .nil) fun s' e st B' F' O' hT => ?_))
    unfold OwitStop
    refine wpAny_isInstance hT stop_sub ?_
    rw [if_pos rfl]
    refine wpAny_pure (hq s' acc n (st.sub fun b hb => .tail _ hb) B' F' O' ?_ ?_)
    · exact st.keep.exact hSm hS (show Value.type "list" ≠ Value.type "frame" by decide) (show Value.type "list" ≠ Value.none by decide)
    · rw [List.append_nil]; exact id.keep (st.keep.sub fun b hb => ok.fx.mem b (mutsOf_sub b hb))
  | step hi hx _ ih =>
    rename_i objs objs1 objs2 p ps _
    intro s acc n done hz B live frs O hS id hq
    obtain ⟨att, ho⟩ := hi
    obtain ⟨od, I⟩ := inst_at (O k _ ho) hr
    refine codeAny_builtin F.entry_extend_loop ?_
    rw [Around.under_plainId F.plain_extend_loop _]
    show wpAny _ A.in1 (pyNext (.ref a) >>= _) _ _ s
    rw [← hA]
    refine wpAny_bind (own_next B.k I hs hf (hx c ok rfl room s _ _ _ B live frs O (.cons (.o hr) .nil) fun s1 v st B1 F1 O1 iv => ?_))
    have hS1 := st.keep.exact hSm hS (show Value.type "list" ≠ Value.type "frame" by decide) (show Value.type "list" ≠ Value.none by decide)
    have id1 := id.keep (st.keep.sub fun b hb => ok.fx.mem b (mutsOf_sub b hb))
    have hl := id1.length
    have hsz : acc.size ≤ 1000000 := by simp at hl hz; omega
    show wpAny _ _ (updateSeq S (·.push v) >>= _) _ _ _
    refine wpAny_bind ?_
    refine wpAny_updateSeq hS1 rfl ?_ (by rw [sizeLine_eq]; omega) (by show (acc.push v).size ≤ sizeLine + 1; rw [Array.size_push, sizeLine_eq]; omega)
    have hS2 := Heap.get?_update_self (Obj.mapSeq (·.push v)) hS1 rfl
    have sb : Heap.SameBut S s1.heap (s1.heap.update S (Obj.mapSeq (·.push v))) := Heap.SameBut.update ..
    have kS : Keep c.N [S] s1.heap (s1.heap.update S (Obj.mapSeq (·.push v))) := .sameBut sb hS2 (.head _)
    have kT : Keep c.N c.T s1.heap (s1.heap.update S (Obj.mapSeq (·.push v))) := .sameBut sb hS2 hST
    refine wpAny_pure ⟨plainId_quiet F.plain_extend_loop _, ?_⟩
    refine ih { s1 with heap := s1.heap.update S (Obj.mapSeq (·.push v)) } (acc.push v) _ (done ++ [p]) (by simp at hz ⊢; omega) (B1.keep (T := [S]) ok.lowK (fun b hb => by rcases List.mem_singleton.mp hb with rfl; exact ok.fx.low _ hST) ok.lo kS) (fun b hb => let ⟨o, e⟩ := live b hb; let ⟨o', e'⟩ := st.keep.there b o e; kS.there b o' e')
      (F1.one kS (.inl ⟨_, hS1, show Value.type "list" ≠ Value.type "frame" by decide⟩)) (fun j po e => (O1 j po e).keep kS (fun a' d' e' z => ?_) (fun b hb => by rcases List.mem_singleton.mp hb with rfl; exact hST) kT) hS2 ?_ fun s' acc' n' st' B' F' O' hS' i' => ?_
    · rcases List.mem_singleton.mp z with rfl
      exact hSm (List.mem_map.mpr ⟨_, List.mem_of_getElem? e', rfl⟩)
    · rw [Array.toList_push]
      exact (id1.keep kT).append (.cons (iv.keep kT) .nil)
    · refine hq s' acc' n' (St.trans (St.trans (st.sub fun b hb => .tail _ hb) (s'' := { s1 with heap := s1.heap.update S (Obj.mapSeq (·.push v)) }) ⟨kS.sub fun b hb => ?_, .refl _, rfl⟩) st') B' F' O' hS' (by simpa using i')
      rcases List.mem_singleton.mp hb with rfl; exact .head _
/-- a class whose instances are their own iterators -/
noncomputable def ownIter (K : Frag) (C fi fn : Addr) : Bool := findIn K (.ref C) "__iter__" == some (some (.ref fi)) && isFn K (.ref fi) && findIn K (.ref C) "__next__" == some (some (.ref fn)) && isFn K (.ref fn) && findIn K (.ref C) "__len__" == some none && findIn K (.ref C) "__length_hint__" == some none
theorem own_iter {M : Model} {A : Around} {E : Value → Shared → Prop} {s : Shared} {K : Frag} {x C f : Addr} {ox : Obj} {od : Option Obj} {Q : Value → Shared → Prop} (X : K.In s.heap) (I : InstAt s.heap x ox C od) (hs : findIn K (.ref C) "__iter__" = some (some (.ref f))) (hf : isFn K (.ref f) = true)
    (h : wpAny M A (call (.ref f) [.ref x]) (OwitIt M A Q E) E s) : wpAny M A (pyIter (.ref x)) Q E s := by
  have fin : wpAny M A (call (.ref f) [.ref x] >>= fun v => pure (some v)) (fun r s' => ∃ v, r = some v ∧ OwitIt M A Q E v s') E s :=
    wpAny_bind (wpAny_mono h (fun v s' h' => wpAny_pure ⟨v, rfl, h'⟩) fun _ _ z => z)
  have one : ∀ refuse : Sem Value, wpAny M A (callSpecialIfBoundUnlessNone? (.ref x) "__iter__" refuse) (fun r s' => ∃ v, r = some v ∧ OwitIt M A Q E v s') E s := by
    intro refuse
    simp only [callSpecialIfBoundUnlessNone?, bindSpecialIfBound?]
    refine wpAny_holding (wpAny_bind (wpAny_bind (wpAny_bind (I.type.here ((looks_findIn X hs).here ?_)))))
    refine wpAny_bind (wpAny_askSetting (wpAny_ite ?_))
    have fin2 : wpAny M A (if (Value.ref f == Value.none) = true then (refuse >>= fun v => pure (some v)) else (call (.ref f) [.ref x] >>= fun v => pure (some v))) (fun r s' => ∃ v, r = some v ∧ OwitIt M A Q E v s') E s := by
      rw [if_neg (show ¬ ((Value.ref f == Value.none) = true) from Bool.false_ne_true)]
      exact fin
    split
    · exact wpAny_bind ((bind_fn X _ (beq_iff_eq.mp hf)).here (wpAny_pure (by exact fin2)))
    · exact wpAny_tryCatch (wpAny_bind ((bind_fn X _ (beq_iff_eq.mp hf)).here (wpAny_pure (by exact fin2))))
  unfold pyIter
  refine wpAny_bind (wpAny_bind (I.type.here ((looks_findIn X hs).here ?_)))
  show wpAny M A (callSpecialIfBoundUnlessNone? (.ref x) "__iter__" _ >>= _) Q E s
  refine wpAny_bind (wpAny_mono (one _) (fun r s' hr => ?_) fun _ _ z => z)
  obtain ⟨v, rfl, hv⟩ := hr
  refine wpAny_bind (wpAny_mono hv (fun r s₂ hr => ?_) fun _ _ z => z)
  cases r with
  | none => exact hr.elim
  | some g => exact wpAny_pure hr
theorem own_it {M : Model} {A : Around} {E : Value → Shared → Prop} {s : Shared} {K : Frag} {x C : Addr} {ox : Obj} {od : Option Obj} {Q : Value → Shared → Prop} {g : Value} (X : K.In s.heap) (I : InstAt s.heap x ox C od) (hs : findIn K (.ref C) "__next__" = some (some g)) (h : Q (.ref x) s) : OwitIt M A Q E (.ref x) s := by
  unfold OwitIt
  exact wpAny_bind (I.type.here ((looks_findIn X hs).here h))
/-- what stands beside an owned list -/
structure WrS (c : Fc) (objs : List PO) (h : Heap) : Prop where
  base : Base c.K c.N h
  live : ∀ b ∈ c.T, ∃ o, h.get? b = some o
  frs : Frs c.N c.A h
  objs : ObjsOk c.T c.ρ objs h
theorem list_wr {c : Fc} {objs : List PO} {S : Addr} {h h' : Heap} {f : Array Value → Array Value} {ob : Obj} {acc : Array Value} {n : Nat} (ok : c.Ok) (hST : S ∈ c.T) (hSm : S ∉ mutsOf c.ρ) (e2 : h' = h.update S (Obj.mapSeq f)) (eo : h.get? S = some ob) (ec : ob.cls = .type "list") (e3 : h'.get? S = some { cls := .type "list", data := .seq acc n }) (x : WrS c objs h) :
    Keep c.N [S] h h' ∧ WrS c objs h' := by
  subst e2
  have sb : Heap.SameBut S h (h.update S (Obj.mapSeq f)) := Heap.SameBut.update ..
  have kS : Keep c.N [S] h (h.update S (Obj.mapSeq f)) := .sameBut sb e3 (.head _)
  have kT : Keep c.N c.T h (h.update S (Obj.mapSeq f)) := .sameBut sb e3 hST
  have one : ∀ b ∈ [S], b ∈ c.T := fun b hb => by rcases List.mem_singleton.mp hb with rfl; exact hST
  refine ⟨kS, x.base.keep (T := [S]) ok.lowK (fun b hb => ok.fx.low _ (one b hb)) ok.lo kS, fun b hb => let ⟨o, e⟩ := x.live b hb; kS.there b o e, x.frs.one kS (.inl ⟨_, eo, by rw [ec]; decide⟩), fun j po e => (x.objs j po e).keep kS (fun a' d' e' z => ?_) one kT⟩
  rcases List.mem_singleton.mp z with rfl
  exact hSm (List.mem_map.mpr ⟨_, List.mem_of_getElem? e', rfl⟩)
theorem list_own {W : Wd} {D : Nat} {fi fn C : Addr} {k : Nat} {objs objs' : List PO} {ps : List PV} (hz : ps.length ≤ 1000000) (hc : ownIter W.K C fi fn = true) (hi : Spec W D (.ref fi) [.o k] objs (.o k) objs) (tk : ToksC W D (.ref fn) k C objs ps objs') (hC : instC objs k C) :
    Spec W (D + 1) (.type "list") [.o k] objs (.l ps) objs' := by
  rintro c ok rfl room s vs Q E B live frs O ia hq
  unfold ownIter at hc
  simp only [Bool.and_eq_true] at hc
  obtain ⟨⟨⟨⟨⟨q1, q2⟩, q3⟩, q4⟩, q5⟩, q6⟩ := hc
  obtain ⟨v, rfl, i⟩ := isL1 ia
  cases i with
  | o hr =>
  rename_i a d
  obtain ⟨att, ho⟩ := hC
  obtain ⟨od, I⟩ := inst_at (O k _ ho) hr
  have fresh : s.heap.get? s.heap.objs.size = none := fresh_get _
  have NL : c.N ≤ s.heap.objs.size := by
    obtain ⟨o, e⟩ := live c.L (ok.fx.mem _ (.head _))
    exact Nat.le_of_lt (Nat.lt_of_le_of_lt (ok.fx.low c.L (ok.fx.mem _ (.head _))) (Heap.lt_size e))
  have nT : s.heap.objs.size ∉ c.T := fun hb => by obtain ⟨o, e⟩ := live _ hb; rw [fresh] at e; cases e
  refine callType_codes (Q₁ := fun obj s₁ => obj = .ref s.heap.objs.size ∧ s₁ = { s with heap := s.heap.push { cls := .type "list", data := .seq #[] } }) F.called_list (F.typeCall_list_1 _) F.entry_list_init (code_list_new _ ⟨rfl, rfl⟩) fun obj s₁ h₁ => ?_
  obtain ⟨rfl, rfl⟩ := h₁
  have hS : (s.heap.push { cls := .type "list", data := .seq #[] }).get? s.heap.objs.size = some { cls := .type "list", data := .seq #[] } := Heap.get?_push_size _ rfl
  refine ⟨⟨_, hS, rfl⟩, F.args_list_init_2 _ _, ?_⟩
  generalize eS : s.heap.objs.size = S at *
  have up : ∀ b o, s.heap.get? b = some o → (s.heap.push { cls := .type "list", data := .seq #[] }).get? b = some o := fun b o e => Heap.get?_push_of_some _ e
  generalize s.heap.push { cls := .type "list", data := .seq #[] } = hp at *
  have kp : Keep c.N [] s.heap hp := .of_all up
  -- the frame with the list among what may change
  let c' : Fc := { c with A := c.A.in1.in1, T := S :: c.T }
  have ok' : c'.Ok := ⟨⟨fun b hb => .tail _ (ok.fx.mem b hb), ok.fx.nodup, fun b hb => by
    rcases List.mem_cons.mp hb with rfl | hb
    · exact NL
    · exact ok.fx.low b hb⟩, ok.kind, ok.loc, ok.glb, ok.blt, ok.lowK, ok.lo⟩
  have room' : Room c'.A D := ⟨rdD room.depth, ru (k := 2) (by decide) room.units, room.handled⟩
  have hSm : S ∉ mutsOf c'.ρ := fun hb => nT (ok.fx.mem _ (mutsOf_sub _ hb))
  have live1 : ∀ b ∈ c'.T, ∃ o, hp.get? b = some o := fun b hb => by
    rcases List.mem_cons.mp hb with rfl | hb
    · exact ⟨_, hS⟩
    · obtain ⟨o, e⟩ := live b hb; exact ⟨o, up b o e⟩
  have O1 : ObjsOk c'.T c'.ρ objs hp := fun j po e => ((O j po e).more fresh).keep kp (fun _ _ _ z => nomatch z) (fun _ z => nomatch z) kp.all
  have B1 : Base c.K c.N hp := B.keep (T := []) ok.lowK (fun _ h => nomatch h) ok.lo kp
  have F1 : Frs c.N c'.A hp := frs.keep kp
  show wpAny _ c.A.in1.in1 (do let old ← Builtin.List.listItems (.ref S); Builtin.List.listUpdate (.ref S) (fun _ => #[]); letGo old.toList.reverse; Builtin.List.listExtendWith (.ref S) (.ref a) .none) _ _ { s with heap := hp }
  refine wpAny_bind ?_
  unfold Builtin.List.listItems
  refine wpAny_bind (wpAny_seqItems hS rfl (wpAny_pure ?_))
  show wpAny _ c.A.in1.in1 (updateSeq S (fun _ => #[]) >>= fun _ => letGo (#[] : Array Value).toList.reverse >>= fun _ => Builtin.List.listExtendWith (.ref S) (.ref a) .none) _ _ { s with heap := hp }
  refine wpAny_bind (wpAny_updateSeq hS rfl ?_)
  have hS2 := Heap.get?_update_self (Obj.mapSeq (fun _ => (#[] : Array Value))) hS rfl
  obtain ⟨k2, B2, live2, F2, O2⟩ := list_wr (c := c') ok' (.head _) hSm rfl hS rfl hS2 ⟨B1, live1, F1, O1⟩
  generalize hp.update S (Obj.mapSeq (fun _ => (#[] : Array Value))) = h2 at *
  refine wpAny_bind (wpAny_letGo ?_)
  unfold Builtin.List.listExtendWith
  obtain ⟨od2, I2⟩ := inst_at (O2 k _ ho) hr
  refine wpAny_bind (I2.type.here ?_)
  have hSa : S ≠ a := fun q => by
    obtain ⟨a', dx, es, n, e', na, ea, ed, m⟩ := O2 k _ ho
    rw [hr] at e'; cases e'
    exact na (q ▸ .head _)
  have e1 : Builtin.List.listSameRef (.ref S) (.ref a) = false := by simp [Builtin.List.listSameRef, hSa]
  have e2 : (Value.ref C == Value.type "list") = false := rfl
  have e3 : (Value.ref C == Value.type "tuple") = false := rfl
  simp only [e1, e2, e3, Bool.or_false, Bool.false_eq_true, if_false]
  refine wpAny_bind (own_iter B2.k I2 (beq_iff_eq.mp q1) q2 ?_)
  refine hi c' ok' rfl room' { s with heap := h2 } _ _ _ B2 live2 F2 O2 (.cons (.o hr) .nil) fun s3 v3 st3 B3 F3 O3 i3 => ?_
  cases i3 with
  | o hr3 =>
  rw [hr] at hr3; cases hr3
  obtain ⟨od3, I3⟩ := inst_at (O3 k _ ho) hr
  have hS3 : s3.heap.get? S = _ := st3.keep.exact hSm hS2 (show Value.type "list" ≠ Value.type "frame" by decide) (show Value.type "list" ≠ Value.none by decide)
  have live3 : ∀ b ∈ c'.T, ∃ o, s3.heap.get? b = some o := fun b hb => let ⟨o, e⟩ := live2 b hb; st3.keep.there b o e
  refine own_it B3.k I3 (beq_iff_eq.mp q3) ?_
  refine wpAny_bind (wpAny_holding ?_)
  unfold Builtin.List.listLengthHint
  refine wpAny_bind (wpAny_bind (I3.type.here ((looks_findIn B3.k (beq_iff_eq.mp q5)).here ?_)))
  show wpAny _ _ (specialOf (Value.ref a) (Str.ofString "__length_hint__") >>= _) _ _ _
  refine wpAny_bind (wpAny_bind (I3.type.here ((looks_findIn B3.k (beq_iff_eq.mp q6)).here ?_)))
  refine wpAny_pure ?_
  show wpAny _ _ (rule "list.extend.makes-room" >>= fun _ => Builtin.List.listTouch (.ref S) >>= fun _ => again (.builtin "list.extend.loop" ⟨[.ref S, .ref a, .none], []⟩)) _ _ _
  refine wpAny_bind (wpAny_rule ?_)
  refine wpAny_bind ?_
  show wpAny _ _ (updateSeq S (·.push .none) >>= fun _ => updateSeq S (·.pop)) _ _ _
  refine wpAny_bind (wpAny_updateSeq hS3 rfl ?_)
  have hS4 := Heap.get?_update_self (Obj.mapSeq (·.push Value.none)) hS3 rfl
  obtain ⟨k4, W4⟩ := list_wr (c := c') ok' (.head _) hSm rfl hS3 rfl hS4 ⟨B3, live3, F3, O3⟩
  refine wpAny_updateSeq (hz := by seq_fits) hS4 rfl ?_
  have hS5 := Heap.get?_update_self (Obj.mapSeq (·.pop)) hS4 rfl
  obtain ⟨k5, B5, live5, F5, O5⟩ := list_wr (c := c') ok' (.head _) hSm rfl hS4 rfl hS5 W4
  refine wpAny_pure ⟨plainId_quiet F.plain_extend_loop _, ?_⟩
  refine list_loop (c := c') (A := c.A.in1) ok' rfl room' hr (.head _) hSm (beq_iff_eq.mp q3) q4 tk _ _ _ [] (by simpa using hz) B5 live5 F5 O5 hS5 .nil fun s' acc' n' st' B' F' O' hS' i' => ?_
  refine ⟨rfl, ?_⟩
  have kAll : Keep c.N (S :: mutsOf c.ρ) s.heap s'.heap := (((((kp.all.trans (k2.sub (fun b hb => by rcases List.mem_singleton.mp hb with rfl; exact .head _))).trans (st3.keep.sub fun b hb => .tail _ hb)).trans (k4.sub (fun b hb => by rcases List.mem_singleton.mp hb with rfl; exact .head _))).trans (k5.sub (fun b hb => by rcases List.mem_singleton.mp hb with rfl; exact .head _)))).trans st'.keep
  refine hq s' _ ⟨⟨fun b o nb e => kAll.off b o (fun z => ?_) e, kAll.there⟩, st3.gens.trans st'.gens, st'.os.trans st3.os⟩ B' F' (fun j po e => (O' j po e).less) ?_
  · rcases List.mem_cons.mp z with rfl | z
    · rw [fresh] at e; cases e
    · exact nb z
  · exact .l nT hS' rfl rfl (by simpa using i'.less)
end M11
section M12
/-! ## objects that are made within a frame -/
noncomputable abbrev Fc.at (c : Fc) (T : List Addr) (ρ : List (Addr × Addr)) : Fc := { c with T := T, ρ := ρ }
structure Grow (c : Fc) (s : Shared) (T : List Addr) (ρ : List (Addr × Addr)) : Prop where
  ok : (c.at T ρ).Ok
  sub : ∀ b ∈ c.T, b ∈ T
  fresh : ∀ b ∈ T, b ∈ c.T ∨ s.heap.get? b = none
  ext : ∃ ν, ρ = c.ρ ++ ν ∧ ∀ p ∈ ν, s.heap.get? p.2 = none
theorem Grow.refl {c : Fc} {s : Shared} (ok : c.Ok) : Grow c s c.T c.ρ := ⟨ok, fun _ h => h, fun _ h => .inl h, [], by simp, fun _ h => nomatch h⟩
theorem Grow.trans {c : Fc} {s s1 : Shared} {T T' : List Addr} {ρ ρ' : List (Addr × Addr)} {F : List Addr} {N : Nat} (g : Grow c s T ρ) (k : Keep N F s.heap s1.heap) (g' : Grow (c.at T ρ) s1 T' ρ') : Grow c s T' ρ' := by
  have back : ∀ b, s1.heap.get? b = none → s.heap.get? b = none := fun b e => by
    cases q : s.heap.get? b with
    | none => rfl
    | some o => obtain ⟨o', e'⟩ := k.there b o q; rw [e] at e'; cases e'
  refine ⟨g'.ok, fun b hb => g'.sub b (g.sub b hb), fun b hb => ?_, ?_⟩
  · rcases g'.fresh b hb with h | h
    · exact g.fresh b h
    · exact .inr (back b h)
  · obtain ⟨ν, rfl, h1⟩ := g.ext
    obtain ⟨ν', rfl, h2⟩ := g'.ext
    refine ⟨ν ++ ν', by simp, fun p hp => ?_⟩
    rcases List.mem_append.mp hp with hp | hp
    · exact h1 p hp
    · exact back _ (h2 p hp)
/-- what the grown frame turns is, of what stood, what the frame may turn -/
theorem Grow.keep {c : Fc} {s s1 s2 : Shared} {T : List Addr} {ρ : List (Addr × Addr)} (g : Grow c s T ρ) (x : St c.N c.muts s s1) (y : St c.N (muts c.L ρ) s1 s2) : St c.N c.muts s s2 := by
  obtain ⟨ν, rfl, h1⟩ := g.ext
  refine ⟨⟨fun b o nb e => ?_, fun b o e => let ⟨o', e'⟩ := x.keep.there b o e; y.keep.there b o' e'⟩, x.gens.trans y.gens, y.os.trans x.os⟩
  have nb2 : b ∉ muts c.L (c.ρ ++ ν) := fun z => by
    rcases List.mem_cons.mp z with rfl | z
    · exact nb (.head _)
    · rw [List.map_append] at z
      rcases List.mem_append.mp z with z | z
      · exact nb (.tail _ z)
      · obtain ⟨p, hp, rfl⟩ := List.mem_map.mp z
        rw [h1 p hp] at e; cases e
  -- as Keep.trans, for this one place
  have one : Keep c.N (muts c.L (c.ρ ++ ν)) s.heap s2.heap := (x.keep.sub fun b hb => by
    rcases List.mem_cons.mp hb with rfl | hb
    · exact .head _
    · exact .tail _ (by rw [List.map_append]; exact List.mem_append.mpr (.inl hb))).trans y.keep
  exact one.off b o nb2 e
theorem to_grow {T T' : List Addr} {ρ ν : List (Addr × Addr)} {h : Heap} (hf : ∀ b ∈ T', b ∈ T ∨ h.get? b = none) : IsTo T T' ρ (ρ ++ ν) h h := ⟨fun a ob n e _ _ => ⟨fun z => by rcases hf _ z with q | q; exact n q; rw [q] at e; exact no e, e⟩, fun _ _ _ e => by rw [List.getElem?_append_left (List.getElem?_eq_some_iff.mp e).1]; exact e⟩
theorem Is.grow {T T' : List Addr} {ρ ν : List (Addr × Addr)} {h : Heap} (hf : ∀ b ∈ T', b ∈ T ∨ h.get? b = none) {p : PV} {v : Value} (i : Is T ρ h p v) : Is T' (ρ ++ ν) h p v := i.to (to_grow hf)
theorem IsL.grow {T T' : List Addr} {ρ ν : List (Addr × Addr)} {h : Heap} (hf : ∀ b ∈ T', b ∈ T ∨ h.get? b = none) {p : List PV} {v : List Value} (i : IsL T ρ h p v) : IsL T' (ρ ++ ν) h p v := i.to (to_grow hf)
mutual
/-- names no numbered object from n on -/
noncomputable def PV.lt (n : Nat) : PV → Bool
  | .o k => decide (k < n)
  | .l xs => PV.ltL n xs
  | .r xs => PV.ltL n xs
  | .t xs => PV.ltL n xs
  | _ => true
noncomputable def PV.ltL (n : Nat) : List PV → Bool
  | [] => true
  | p :: rest => p.lt n && PV.ltL n rest
end
theorem Is.back {T T' : List Addr} {ρ ν : List (Addr × Addr)} {h : Heap} (hs : ∀ b ∈ T, b ∈ T') {p : PV} {v : Value} (i : Is T' (ρ ++ ν) h p v) : p.lt ρ.length = true → Is T ρ h p v :=
  Is.rec (motive_1 := fun p v _ => p.lt ρ.length = true → Is T ρ h p v) (motive_2 := fun ps vs _ => PV.ltL ρ.length ps = true → IsL T ρ h ps vs) (fun x _ => .v x) (fun x t _ => .s x t) (fun x t _ => .i x t) (fun e q => .o (by rw [List.getElem?_append_left (of_decide_eq_true q)] at e; exact e)) (fun n e c d _ r q => .l (fun z => n (hs _ z)) e c d (r q)) (fun n e c d _ r q => .r (fun z => n (hs _ z)) e c d (r q))
    (fun n e c d _ r q => .t (fun z => n (hs _ z)) e c d (r q)) (fun _ => .any) (fun _ => .nil) (fun _ _ a b q => .cons (a (Bool.and_eq_true_iff.mp q).1) (b (Bool.and_eq_true_iff.mp q).2)) i
theorem IsL.back {T T' : List Addr} {ρ ν : List (Addr × Addr)} {h : Heap} (hs : ∀ b ∈ T, b ∈ T') {p : List PV} {v : List Value} (i : IsL T' (ρ ++ ν) h p v) : PV.ltL ρ.length p = true → IsL T ρ h p v :=
  IsL.ind (M := fun p v => PV.ltL ρ.length p = true → IsL T ρ h p v) (fun _ => .nil) (fun a _ b q => .cons (Is.back hs a (Bool.and_eq_true_iff.mp q).1) (b (Bool.and_eq_true_iff.mp q).2)) i
theorem Match.grow {T T' : List Addr} {ρ ν : List (Addr × Addr)} {h : Heap} (hf : ∀ b ∈ T', b ∈ T ∨ h.get? b = none) : ∀ {r : List (Str × PV)} {es : List DictEntry}, Match T ρ h r es → Match T' (ρ ++ ν) h r es
  | _, _, .nil => .nil
  | _, _, .cons a b c => .cons a (b.grow hf) (c.grow hf)
theorem ObjAt.grow {T T' : List Addr} {ρ ν : List (Addr × Addr)} {h : Heap} {k : Nat} {po : PO} (hf : ∀ b ∈ T', b ∈ T ∨ h.get? b = none) (x : ObjAt T ρ h k po) : ObjAt T' (ρ ++ ν) h k po := by
  have up : ∀ {q : Addr × Addr}, ρ[k]? = some q → (ρ ++ ν)[k]? = some q := fun e => by rw [List.getElem?_append_left (List.getElem?_eq_some_iff.mp e).1]; exact e
  cases po with
  | inst C att => obtain ⟨a, dx, es, n, e, na, ea, ed, m⟩ := x; exact ⟨a, dx, es, n, up e, (fun z => by rcases hf _ z with q | q; exact na q; rw [q] at ea; cases ea), ea, ed, m.grow hf⟩
  | list xs => obtain ⟨a, vs, n, e, ea, m⟩ := x; exact ⟨a, vs, n, up e, ea, m.grow hf⟩
  | dq xs => obtain ⟨a, st, vs, e, ea, m⟩ := x; exact ⟨a, st, vs, up e, ea, m.grow hf⟩
  | opaq ob => obtain ⟨a, e, r⟩ := x; exact ⟨a, up e, r⟩
/-! ### judgments -/
noncomputable def EvG (c : Fc) (e : Expr) (V : View) (p : PV) (V' : View) : Prop :=
  ∀ (s : Shared) (Q E : Value → Shared → Prop), Inv c V s → V.objs.length = c.ρ.length → (∀ s' v T ρ, Grow c s T ρ → V'.objs.length = ρ.length → Inv (c.at T ρ) V' s' → St c.N c.muts s s' → Is T ρ s'.heap p v → Q v s') → wpAny c.M c.A (eval e c.env) Q E s
noncomputable def SxG (c : Fc) (st : Stmt) (V : View) (f : PF) (V' : View) : Prop :=
  ∀ (s : Shared) (Q : Flow → Shared → Prop) (E : Value → Shared → Prop), Inv c V s → V.objs.length = c.ρ.length → (∀ s' fl T ρ, Grow c s T ρ → V'.objs.length = ρ.length → Inv (c.at T ρ) V' s' → St c.N c.muts s s' → FlIs (c.at T ρ) s'.heap f fl → Q fl s') → wpAny c.M c.A (exec st c.env) Q E s
noncomputable def ExG (c : Fc) (b : List Stmt) (V : View) (f : PF) (V' : View) : Prop :=
  ∀ (s : Shared) (Q : Flow → Shared → Prop) (E : Value → Shared → Prop), Inv c V s → V.objs.length = c.ρ.length → (∀ s' fl T ρ, Grow c s T ρ → V'.objs.length = ρ.length → Inv (c.at T ρ) V' s' → St c.N c.muts s s' → FlIs (c.at T ρ) s'.heap f fl → Q fl s') → wpAny c.M c.A (execs b c.env) Q E s
section
variable {c : Fc} {V V1 V2 V' : View} {p : PV} {f : PF} {b : Bool}
theorem EvOk.g {e : Expr} (ok : c.Ok) (h : EvOk c e V p V') (hl : V'.objs.length = V.objs.length) : EvG c e V p V' := fun s Q E I l k => h s Q E I fun s' v I' t i => k s' v _ _ (.refl ok) (hl.trans l) I' t i
theorem SxOk.g {st : Stmt} (ok : c.Ok) (h : SxOk c st V f V') (hl : V'.objs.length = V.objs.length) : SxG c st V f V' := fun s Q E I l k => h s Q E I fun s' v I' t i => k s' v _ _ (.refl ok) (hl.trans l) I' t i
theorem ExOk.g {b : List Stmt} (ok : c.Ok) (h : ExOk c b V f V') (hl : V'.objs.length = V.objs.length) : ExG c b V f V' := fun s Q E I l k => h s Q E I fun s' v I' t i => k s' v _ _ (.refl ok) (hl.trans l) I' t i
theorem exg_cons {st : Stmt} {r : List Stmt} (h1 : SxG c st V .next V1) (h2 : ∀ T ρ, (c.at T ρ).Ok → ExG (c.at T ρ) r V1 f V2) : ExG c (st :: r) V f V2 := by
  intro s Q E I l k
  refine wpAny_execs_cons (h1 s _ E I l fun s1 fl T ρ g l1 I1 t1 hf => ?_)
  cases hf
  exact h2 T ρ g.ok s1 Q E I1 l1 fun s2 fl T' ρ' g' l2 I2 t2 hf => k s2 fl T' ρ' (g.trans t1.keep g') l2 I2 (g.keep t1 t2) hf
theorem exg_stop {st : Stmt} {r : List Stmt} (h1 : SxG c st V f V1) (hn : f ≠ .next) : ExG c (st :: r) V f V1 := by
  intro s Q E I l k
  refine wpAny_execs_cons (h1 s _ E I l fun s1 fl T ρ g l1 I1 t1 hf => ?_)
  have := k s1 fl T ρ g l1 I1 t1 hf
  cases f with
  | next => exact absurd rfl hn
  | brk => cases hf; exact this
  | cont => cases hf; exact this
  | ret p => obtain ⟨v, rfl, _⟩ := hf; exact this
theorem sxg_if {t : Expr} {bd el : List Stmt} {pos : Pos} (ht : TvOk c t V b V) (h : ExG c (if b then bd else el) V f V2) : SxG c (.If t bd el pos) V f V2 := by
  intro s Q E I l k
  refine wpAny_If (ht s _ E I fun s1 I1 t1 => ?_)
  cases b <;> exact h s1 Q E I1 l fun s2 fl T ρ g l2 I2 t2 hf => k s2 fl T ρ ⟨g.ok, g.sub, fun x hx => (g.fresh x hx).imp id fun e => (by cases q : s.heap.get? x with | none => rfl | some o => obtain ⟨o', e'⟩ := t1.keep.there x o q; rw [e] at e'; cases e'), let ⟨ν, e1, e2⟩ := g.ext; ⟨ν, e1, fun p hp => (by have e := e2 p hp; cases q : s.heap.get? p.2 with | none => rfl | some o => obtain ⟨o', e'⟩ := t1.keep.there _ o q; rw [e] at e'; cases e')⟩⟩ l2 I2 (t1.trans t2) hf
theorem sxg_assign {x : Str} {e : Expr} {pos' pos : Pos} (hk : c.env.kindOf x = some .local) (he : EvG c e V p V1) (hc : notComp e = true) : SxG c (.Assign [.Name x pos'] e pos) V .next { V1 with loc := put x p V1.loc } := by
  intro s Q E I l h
  refine wpAny_Assign_Name (he s _ E I l fun s1 v T ρ g l1 I1 t1 i1 => ?_) (swaps_no hc)
  exact store_name (c := c.at T ρ) g.ok hk I1 i1 fun s2 I2 t2 => h s2 _ T ρ g l1 I2 (g.keep t1 t2) rfl
theorem xs_then {g : Cfg} (ok : c.Ok) (gk : CfgOk c g) {rest : List Stmt} {Q : Flow → Shared → Prop} {E : Value → Shared → Prop} : ∀ {n : Nat} {pre : List Stmt} {ds ds' : Ds} {V V1 : View} {P : List Prop}, xs g n pre ds V = some (.next, ds', V1, P) → AllP P → ∀ s, Inv c V s → (∀ s', Inv c V1 s' → St c.N c.muts s s' → wpAny c.M c.A (execs rest c.env) Q E s') → wpAny c.M c.A (execs (pre ++ rest) c.env) Q E s
  | 0, _, _, _, _, _, _, h, _, _, _, _ => no h
  | n + 1, [], _, _, _, _, _, h, _, s, I, hr => by cases h; exact hr s I (.refl s)
  | n + 1, st :: r, ds, ds', V, V1, P, h, hP, s, I, hr => by
    obtain ⟨ds1, V0, P1, P2, h1, h2, rfl⟩ := xs_next h
    rw [AllP.append] at hP
    refine wpAny_execs_cons ((sx_sound ok gk n).1 _ _ _ _ _ _ _ h1 hP.1 s _ E I fun s1 fl I1 t1 hf => ?_)
    cases hf
    exact xs_then ok gk h2 hP.2 s1 I1 fun s2 I2 t2 => hr s2 I2 (t1.trans t2)
theorem Grow.from {s s1 : Shared} {T : List Addr} {ρ : List (Addr × Addr)} {F : List Addr} {N : Nat} (k : Keep N F s.heap s1.heap) (g : Grow c s1 T ρ) : Grow c s T ρ := by
  have back : ∀ b, s1.heap.get? b = none → s.heap.get? b = none := fun b e => by
    cases q : s.heap.get? b with
    | none => rfl
    | some o => obtain ⟨o', e'⟩ := k.there b o q; rw [e] at e'; cases e'
  obtain ⟨ν, e1, e2⟩ := g.ext
  exact ⟨g.ok, g.sub, fun x hx => (g.fresh x hx).imp id (back x), ν, e1, fun p hp => back _ (e2 p hp)⟩
theorem xg_app {g : Cfg} (ok : c.Ok) (gk : CfgOk c g) {rest : List Stmt} {n : Nat} {pre : List Stmt} {ds ds' : Ds} {P : List Prop} (h : xs g n pre ds V = some (.next, ds', V1, P)) (hP : AllP P) (hl : V1.objs.length = V.objs.length) (hr : ExG c rest V1 f V2) : ExG c (pre ++ rest) V f V2 := by
  intro s Q E I l k
  refine xs_then ok gk h hP s I fun s1 I1 t1 => ?_
  exact hr s1 Q E I1 (hl.trans l) fun s2 fl T ρ g l2 I2 t2 hf => k s2 fl T ρ (g.from t1.keep) l2 I2 (t1.trans t2) hf
end
end M12
section M13
section
variable {c : Fc} {V V1 V2 V' : View} {p : PV} {f : PF}
theorem Inv.size {s : Shared} (ok : c.Ok) (I : Inv c V s) : c.N ≤ s.heap.objs.size := by
  obtain ⟨o, e⟩ := I.live c.L (ok.fx.mem _ (.head _))
  exact Nat.le_of_lt (Nat.lt_of_le_of_lt (ok.fx.low c.L (ok.fx.mem _ (.head _))) (Heap.lt_size e))
/-- a new object is numbered -/
theorem grow_one {s : Shared} {a d : Addr} (ok : c.Ok) (I : Inv c V s) (fd : s.heap.get? d = none) (hN : c.N ≤ d) : Grow c s (d :: c.T) (c.ρ ++ [(a, d)]) := by
  have nT : d ∉ c.T := fun hb => by obtain ⟨o, e⟩ := I.live _ hb; rw [fd] at e; cases e
  refine ⟨⟨⟨fun b hb => ?_, ?_, fun b hb => ?_⟩, ok.kind, ok.loc, ok.glb, ok.blt, ok.lowK, ok.lo⟩, fun b hb => .tail _ hb, fun b hb => ?_, [(a, d)], rfl, fun p hp => by rcases List.mem_singleton.mp hp with rfl; exact fd⟩
  · have hb : b ∈ c.L :: (c.ρ ++ [(a, d)]).map (·.2) := hb
    rw [List.map_append] at hb
    rcases List.mem_cons.mp hb with rfl | hb
    · exact .tail _ (ok.fx.mem _ (.head _))
    · rcases List.mem_append.mp hb with hb | hb
      · exact .tail _ (ok.fx.mem _ (.tail _ hb))
      · rcases List.mem_singleton.mp hb with rfl; exact .head _
  · show (c.L :: (c.ρ ++ [(a, d)]).map (·.2)).Nodup
    rw [List.map_append, ← List.cons_append]
    refine List.nodup_append.mpr ⟨ok.fx.nodup, by simp, fun x hx y hy => ?_⟩
    rcases List.mem_singleton.mp hy with rfl
    intro q; subst q
    exact nT (ok.fx.mem _ hx)
  · rcases List.mem_cons.mp hb with rfl | hb
    · exact hN
    · exact ok.fx.low b hb
  · rcases List.mem_cons.mp hb with rfl | hb
    · exact .inr fd
    · exact .inl hb
/-- what is known goes along -/
theorem Inv.grow {s s' : Shared} {T : List Addr} {ρ : List (Addr × Addr)} {new : List PO} (ok : c.Ok) (g : Grow c s T ρ) (I : Inv c V s) (k : Keep c.N [] s.heap s'.heap) (live : ∀ b ∈ T, ∃ o, s'.heap.get? b = some o)
    (hl : V.objs.length = c.ρ.length) (hn : ∀ j po, new[j]? = some po → ObjAt T ρ s'.heap (c.ρ.length + j) po) : Inv (c.at T ρ) ⟨V.loc, V.objs ++ new⟩ s' := by
  obtain ⟨ν, rfl, e2⟩ := g.ext
  obtain ⟨⟨m, hn', hl'⟩, ho⟩ := I.rep
  refine ⟨⟨⟨m, k.frame (fun z => nomatch z) hn', fun x p e => ?_⟩, fun j po e => ?_⟩, I.base.keep (T := []) ok.lowK (fun _ h => nomatch h) ok.lo k, live, I.frs.keep k⟩
  · obtain ⟨v, e1, e3⟩ := hl' x p e
    exact ⟨v, e1, (e3.grow g.fresh).keep (k.all (T := T))⟩
  · rw [List.getElem?_append] at e
    split at e
    · exact ((ho j po e).grow g.fresh).keep k (fun _ _ _ z => nomatch z) (fun _ z => nomatch z) k.all
    · rename_i h
      have := hn (j - V.objs.length) po e
      rw [← hl] at this
      rwa [Nat.add_sub_cancel' (Nat.not_lt.mp h)] at this
/-- deque() -/
theorem evg_deque {x : Str} {px pos : Pos} (ok : c.Ok) (hk : c.env.kindOf x = some .globalImplicit) (hd : (x == ("__debug__" : Str)) = false) (hg : globIs c.K x (.type "collections.deque") = true) : EvG c (.Call (.Name x px) [] [] pos) V (.o V.objs.length) ⟨V.loc, V.objs ++ [.dq []]⟩ := by
  intro s Q E I l h
  refine wpAny_Call_NameR (ev_glob ok hk hd hg s _ E I fun s1 v I1 t1 i1 => ?_)
  cases i1
  refine callWith_ok (c := c) (V := V) (ps := []) rfl rfl args_nil I1 fun s2 vs I2 t2 i2 => ?_
  cases i2
  refine call_deque fun h' sb e => ?_
  have fr : s2.heap.get? s2.heap.objs.size = none := fresh_get _
  have k : Keep c.N [] s2.heap h' := .of_all fun b o eb => (sb.2 b (Nat.ne_of_lt (Heap.lt_size eb))).trans (Heap.get?_push_of_some _ eb)
  have g := grow_one (a := s2.heap.objs.size) ok I2 fr (I2.size ok)
  refine h { s2 with heap := h' } _ _ _ (g.from (t1.trans t2).keep) (by simp [l]) (I2.grow (s' := { s2 with heap := h' }) ok g k (fun b hb => ?_) l fun j po ej => ?_) ((t1.trans t2).trans ⟨k.all, .refl _, rfl⟩) ?_
  · rcases List.mem_cons.mp hb with rfl | hb
    · exact ⟨_, e⟩
    · obtain ⟨o, eb⟩ := I2.live b hb; exact k.there b o eb
  · cases j with
    | zero => cases ej; exact ⟨s2.heap.objs.size, 0, [], by simp, e, .nil⟩
    | succ j => simp at ej
  · exact .o (m := s2.heap.objs.size) (by rw [l]; simp)
end
/-! ### calls that make objects -/
end M13
section M14
/-! ## defs whose binding makes objects, calls with keywords -/
theorem enter_defB {prog : Program} {w : World} {A : Around} {s : Shared} {R : Result → Shared → Prop} {f : Addr} {o : Obj} {fd : FuncData} {body : List Stmt} {args : Args} {P : List (Str × Value) → Shared → Prop}
    (hroom : A.depth < recursionLimit) (ho : s.heap.get? f = some o) (hdata : o.data = .func fd) (hlim : s.heap.NoLimit) (hcd : s.heap.CodeRec fd.code fd.qualname) (hbody : fd.body = .stmts body) (hbind : ∀ (A : Around) (E : Value → Shared → Prop) (Q : List (Str × Value) → Shared → Prop), (∀ binds s1, P binds s1 → Q binds s1) → wpAny (model prog w) A (bindArgs fd args) Q E s)
    (hcell : ∀ x ∈ fd.scope.names, x.2 ≠ .cell) (hloc : ∀ binds s1, P binds s1 → ∀ x ∈ binds, fd.scope.names.lookup x.1 = some .local) (hkeep : ∀ binds s1, P binds s1 → s1.heap.NoLimit) (hco : fd.scope.isCoroutine = false) (hgen : fd.scope.isGenerator = false) (hk : fd.scope.kind = .function)
    (h : ∀ binds s h', P binds s → FrameAt h' s.heap.objs.size (fun x => binds.reverse.lookup x) → (∀ b o, s.heap.get? b = some o → h'.get? b = some o) →
      wpAny (model prog w) (A.deeper (callEnv fd s.heap.objs.size f)) (execs body (callEnv fd s.heap.objs.size f)) (fun fl s' => R (.ok (.ret (match fl with | .ret v => v | _ => .none))) s')
        (fun e s' => wpAny (model prog w) (A.deeper (callEnv fd s.heap.objs.size f)) (leaving (callEnv fd s.heap.objs.size f) e) (fun _ s'' => R (.error e) s'') (fun e' s'' => R (.error e') s'') s')
        { s with heap := h', toks := s.toks + binds.length }) : codeAny (model prog w) A (.call (.ref f) args) R s := by
  refine codeAny_call_function hroom ho hdata hco hgen hbody hcd (hbind _ _ _ fun binds s1 hp1 => ?_)
  simp only [newFunctionEnv, Option.isSome_none, Bool.false_eq_true, if_false]
  refine wpAny_bind (wpAny_alloc ?_)
  rw [forIn_yield_id fd.closure (fun x hx c => by
    obtain ⟨name, kind⟩ := x
    have : (kind == NameKind.cell) = false := by simpa using hcell _ hx
    simp only [this, Bool.false_eq_true, if_false])]
  refine wpAny_bind (wpAny_pure (wpAny_bind ?_))
  have fresh : ∀ h' : Heap, Heap.SameBut s1.heap.objs.size (s1.heap.push { cls := .type "frame", data := .dict #[] }) h' → ∀ b o, s1.heap.get? b = some o → h'.get? b = some o := fun h' sb b o e =>
    (sb.2 b (Nat.ne_of_lt (Heap.lt_size e))).trans (Heap.get?_push_of_some _ e)
  refine bind_loop (L := s1.heap.objs.size) (env := callEnv fd s1.heap.objs.size f) rfl hk _ (fun _ _ => rfl) binds { s1 with heap := s1.heap.push { cls := .type "frame", data := .dict #[] } } (fun _ => none) ⟨Heap.Ns.new .., ⟨_, Heap.get?_push_size _ rfl, rfl⟩⟩ (hloc binds s1 hp1) fun h' F' S' => ?_
  have k := fresh h' S'
  refine wpAny_pure ⟨(hkeep binds s1 hp1).keeps k, codeAny_func (h binds s1 h' hp1 ?_ k)⟩
  have e : (fun x => (List.lookup x binds.reverse).or none) = fun x => binds.reverse.lookup x := by funext x; cases List.lookup x binds.reverse <;> rfl
  rw [e] at F'; exact F'
/-- how the arguments are bound -/
structure BindOk (W : Wd) (T : List Addr) (ρ : List (Addr × Addr)) (fd : FuncData) (loc : List (Str × PV)) (s : Shared) (binds : List (Str × Value)) (s1 : Shared) : Prop where
  names : ∀ x ∈ binds, fd.scope.names.lookup x.1 = some .local
  keep : Keep W.N [] s.heap s1.heap
  gens : s1.gens = s.gens
  os : s1.os = s.os
  is : ∀ x p, loc.lookup x = some p → ∃ v, binds.reverse.lookup x = some v ∧ Is T ρ s1.heap p v
noncomputable def CodeK (c : Fc) (f : Value) (args : List PV) (kw : List (Str × PV)) (objs : List PO) (r : PV) (objs' : List PO) : Prop :=
  ∀ (s : Shared) (vs : List Value) (kvs : List (Str × Value)) (R : Result → Shared → Prop), Base c.K c.N s.heap → (∀ b ∈ c.T, ∃ o, s.heap.get? b = some o) → Frs c.N c.A s.heap → ObjsOk c.T c.ρ objs s.heap → objs.length = c.ρ.length → IsL c.T c.ρ s.heap args vs → kvs.map (·.1) = kw.map (·.1) → IsL c.T c.ρ s.heap (kw.map (·.2)) (kvs.map (·.2)) →
    (∀ s' v T ρ, Grow c s T ρ → objs'.length = ρ.length → St c.N (mutsOf c.ρ) s s' → Base c.K c.N s'.heap → Frs c.N c.A s'.heap → (∀ b ∈ T, ∃ o, s'.heap.get? b = some o) → ObjsOk T ρ objs' s'.heap → Is T ρ s'.heap r v → R (.ok (.ret v)) s') → codeAny c.M c.A (.call f ⟨vs, kvs⟩) R s
noncomputable def SpecK (W : Wd) (D : Nat) (f : Value) (ps : List PV) (kw : List (Str × PV)) (objs : List PO) (r : PV) (objs' : List PO) : Prop :=
  ∀ c : Fc, c.Ok → c.toWd = W → Room c.A D → CodeK c f ps kw objs r objs'
theorem sub_grow {c : Fc} (ok : c.Ok) {e : Env} {s1 : Shared} {h' : Heap} {t : Nat} {T : List Addr} {ρ : List (Addr × Addr)} (live : ∀ b ∈ c.T, ∃ o, s1.heap.get? b = some o) (k' : ∀ b o, s1.heap.get? b = some o → h'.get? b = some o) (g : Grow (c.sub e s1.heap.objs.size) { s1 with heap := h', toks := t } T ρ) : Grow c s1 T ρ := by
  have back : ∀ b, h'.get? b = none → s1.heap.get? b = none := fun b e => by
    cases q : s1.heap.get? b with
    | none => rfl
    | some o => rw [k' b o q] at e; cases e
  obtain ⟨ν, e1, e2⟩ := g.ext
  have e1 : ρ = c.ρ ++ ν := e1
  refine ⟨⟨⟨fun b hb => ?_, ?_, g.ok.fx.low⟩, ok.kind, ok.loc, ok.glb, ok.blt, ok.lowK, ok.lo⟩, fun b hb => g.sub b (.tail _ hb), fun b hb => ?_, ν, e1, fun p hp => back _ (e2 p hp)⟩
  · rcases List.mem_cons.mp hb with rfl | hb
    · exact g.sub _ (.tail _ (ok.fx.mem _ (.head _)))
    · exact g.ok.fx.mem b (.tail _ hb)
  · refine List.nodup_cons.mpr ⟨fun hb => ?_, (List.nodup_cons.mp g.ok.fx.nodup).2⟩
    have hb : c.L ∈ ρ.map (·.2) := hb
    rw [e1, List.map_append] at hb
    rcases List.mem_append.mp hb with hb | hb
    · exact (List.nodup_cons.mp ok.fx.nodup).1 hb
    · obtain ⟨p, hp, q⟩ := List.mem_map.mp hb
      obtain ⟨o, e⟩ := live c.L (ok.fx.mem _ (.head _))
      have := back _ (e2 p hp)
      rw [q, e] at this; cases this
  · rcases g.fresh b hb with h | h
    · rcases List.mem_cons.mp h with rfl | h
      · exact .inr fresh_size
      · exact .inl h
    · exact .inr (back b h)
theorem call_defB {W : Wd} {D : Nat} {f : Addr} {fd : FuncData} {body : List Stmt} {ps : List PV} {kw : List (Str × PV)} {objs objs' : List PO} {fl : PF} {loc : List (Str × PV)} (di : DefIs W.K f fd body)
    (hbind : ∀ (T : List Addr) (ρ : List (Addr × Addr)) (s : Shared) (vs : List Value) (kvs : List (Str × Value)), Base W.K W.N s.heap → (∀ b ∈ T, W.N ≤ b) → IsL T ρ s.heap ps vs → kvs.map (·.1) = kw.map (·.1) → IsL T ρ s.heap (kw.map (·.2)) (kvs.map (·.2)) →
      ∀ (A : Around) (E : Value → Shared → Prop) (Q : List (Str × Value) → Shared → Prop), (∀ binds s1, BindOk W T ρ fd loc s binds s1 → Q binds s1) → wpAny (model W.prog W.w) A (bindArgs fd ⟨vs, kvs⟩) Q E s)
    (hrun : ∀ c : Fc, c.Ok → c.toWd = W → Room c.A.in1 D → c.env.scope = fd.scope → ∃ V', ExG c body ⟨loc, objs⟩ fl V' ∧ V'.objs = objs') : SpecK W (D + 1) (.ref f) ps kw objs (retP fl) objs' := by
  rintro c ok rfl room s vs kvs R B live frs O hlen ia ek ik hq
  obtain ⟨oc, od, sl, hK⟩ := di.at_
  have ho := B.k _ _ hK
  refine enter_defB (P := fun binds s1 => BindOk c.toWd c.T c.ρ fd loc s binds s1) (rd0 room.depth) ho rfl B.lim (codeRec_of B.k di.code) di.body (fun A E Q q => hbind c.T c.ρ s vs kvs B ok.fx.low ia ek ik A E Q q) di.cell (fun binds s1 h => h.names) (fun binds s1 h => (B.keep (T := []) ok.lowK (fun _ h => nomatch h) ok.lo h.keep).lim) di.co di.gen di.kind fun binds s1 h' hB F' k' => ?_
  have kB := hB.keep
  have B := B.keep (T := []) ok.lowK (fun _ h => nomatch h) ok.lo kB
  have live : ∀ b ∈ c.T, ∃ o, s1.heap.get? b = some o := fun b hb => let ⟨o, e⟩ := live b hb; kB.there b o e
  have frs := frs.keep kB
  have O : ObjsOk c.T c.ρ objs s1.heap := fun k po e => (O k po e).keep kB (fun _ _ _ z => nomatch z) (fun _ z => nomatch z) kB.all
  have hq1 : ∀ s' v T ρ, Grow c s1 T ρ → objs'.length = ρ.length → St c.N (mutsOf c.ρ) s1 s' → Base c.K c.N s'.heap → Frs c.N c.A s'.heap → (∀ b ∈ T, ∃ o, s'.heap.get? b = some o) → ObjsOk T ρ objs' s'.heap → Is T ρ s'.heap (retP fl) v → R (.ok (.ret v)) s' := fun s' v T ρ g l st => hq s' v T ρ (g.from kB) l (St.trans ⟨kB.all, .of_eq hB.gens, hB.os⟩ st)
  have z : LocOk (s1.heap.objs.size :: c.T) c.ρ s1.heap loc _ := fun x p e => let ⟨v, e1, e2⟩ := hB.is x p e; ⟨v, e1, e2.more fresh_size⟩
  obtain ⟨V', hx, rfl⟩ := hrun _ (ok.subc di live) rfl room.deeper rfl
  refine hx _ _ _ (sub_inv ok di B live frs O k' F' z) hlen fun s' fw T ρ g l I'' st hfl => ?_
  have g0 : Grow c s1 T ρ := sub_grow ok live k' g
  have st0 : St c.N (mutsOf c.ρ) s1 s' := sub_st k' st
  have frs' : Frs c.N c.A s'.heap := frs_sub frs I''.frs
  have fin : ∀ v, Is T ρ s'.heap (retP fl) v → R (.ok (.ret v)) s' := fun v iv => hq1 s' v T ρ g0 l st0 I''.base frs' I''.live I''.rep.objs iv
  cases fl with
  | ret p => obtain ⟨v, rfl, iv⟩ := hfl; exact fin _ iv
  | next => cases hfl; exact fin _ (.v _)
  | brk => cases hfl; exact fin _ (.v _)
  | cont => cases hfl; exact fin _ (.v _)
end M14
section M15
/-! ## trees that read the written part and lay objects -/
noncomputable def pushes (h : Heap) : List Obj → Heap
  | [] => h
  | o :: r => pushes (h.push o) r
theorem pushes_keep : ∀ (l : List Obj) (h : Heap) {b : Addr} {o : Obj}, h.get? b = some o → (pushes h l).get? b = some o
  | [], _, _, _, e => e
  | x :: r, h, _, _, e => pushes_keep r _ (Heap.get?_push_of_some _ e)
noncomputable def runAl {α : Type} (K : Frag) (S : Setting) : Nat → Nat → Nat → Sem α → Option (α × List Obj × Nat)
  | 0, _, _, _ => none
  | n + 1, sz, tk, t => match t with
    | .pure a => some (a, [], tk)
    | .load a _ k => (K.lookup a).bind fun o => runAl K S n sz tk (k o)
    | .rule _ k => runAl K S n sz tk (k ())
    | .at _ k => runAl K S n sz tk (k ())
    | .point _ k => runAl K S n sz tk (k ())
    | .ask k => runAl K S n sz tk (k S)
    | .fresh k => runAl K S n sz (tk + 1) (k tk)
    | .alloc o k => (runAl K S n (sz + 1) tk (k sz)).map fun z => (z.1, o :: z.2.1, z.2.2)
    | _ => none
theorem kin_push {K : Frag} {h : Heap} (X : K.In h) (o : Obj) : K.In (h.push o) := fun a x e => Heap.get?_push_of_some _ (X a x e)
theorem runAl_sound {α : Type} {K : Frag} {M : Model} {A : Around} : ∀ {n : Nat} {t : Sem α} {s : Shared} {a : α} {l : List Obj} {tk : Nat} {Q : α → Shared → Prop} {E : Value → Shared → Prop}, K.In s.heap → runAl K ⟨M.prog, M.w.params⟩ n s.heap.objs.size s.toks t = some (a, l, tk) → Q a { s with heap := pushes s.heap l, toks := tk } → wpAny M A t Q E s
  | 0, _, _, _, _, _, _, _, _, h, _ => no h
  | n + 1, t, s, a, l, tk, Q, E, X, h, q => by
    have ih := @runAl_sound α K M A n
    cases t with
    | pure a => cases h; exact wpAny_pure q
    | load a x k => obtain ⟨o, e, h⟩ := ob h; exact nd_load (X _ _ e) (ih X h q)
    | rule x k => exact nd_rule (ih X h q)
    | «at» x k => exact fun Γ p hΓ => ih X h q Γ _ hΓ
    | point x k => exact nd_point (ih X h q)
    | ask k => exact nd_ask (ih X h q)
    | fresh k => exact nd_fresh (ih (s := { s with toks := s.toks + 1 }) X h q)
    | alloc o k =>
      obtain ⟨⟨a', l', tk'⟩, e, h⟩ := map_some h
      cases h
      refine nd_alloc (ih (s := { s with heap := s.heap.push o }) (kin_push X o) (l := l') (tk := tk') ?_ q)
      show runAl K _ n (s.heap.push o).objs.size s.toks _ = _
      rw [Heap.size_push]
      exact e
    | _ => exact no h
end M15
section M16
theorem looks_run {α : Type} {K : Frag} {M : Model} {h : Heap} (X : K.In h) {n : Nat} {t : Sem α} {a : α} (e : runPure K n t = some a) : Looks M h t a := by
  intro A Q E s k q
  exact runPure_sound (fun b o eb => k b o (X b o eb)) e q
/-- a class with a __new__ of its own, a def -/
structure MadeOwn (K : Frag) (C fN fI : Addr) : Prop where
  mro : ∃ m, runPure K 60 (mroOf (.ref C)) = some m ∧ m.isEmpty = false
  made : runPure K 60 (Bind.madeBy (.ref C)) = some none
  call : specialIn K (.ref C) "__call__" = some (some (.builtin "type.__call__"))
  typ : instIn K (.ref C) (.type "type") = some true
  reads : readsIn K C (.type "type") = true
  new : ∃ p rest, findCls K (.ref C) (.type "type") "__new__" = some (.get (.builtin "staticmethod.__get__") (.ref p) .none (.ref C)) ∧ recIn K p "staticmethod" = some (.ref fN :: rest)
  sub : mroIn K C (.ref C) = some true
  init : findIn K (.ref C) "__init__" = some (some (.ref fI))
  fn : isFn K (.ref fI) = true
section
variable {prog : Program} {w : World} {A : Around} {K : Frag} {C fN fI : Addr} {R : Result → Shared → Prop} {s : Shared}
theorem make_own {rest : List Value} {kw : List (Str × Value)} (X : K.In s.heap) (Y : MadeOwn K C fN fI)
    (hnew : codeAny (model prog w) (A.under (.builtin "type.__call__" ⟨.ref C :: rest, kw⟩)) (.call (.ref fN) ⟨.ref C :: rest, kw⟩) (fun r s1 => ∃ x, r = .ok (.ret (.ref x)) ∧ K.In s1.heap ∧ (∃ o, s1.heap.get? x = some o ∧ o.cls = .ref C) ∧
      codeAny (model prog w) (A.under (.builtin "type.__call__" ⟨.ref C :: rest, kw⟩)) (.call (.ref fI) ⟨.ref x :: rest, kw⟩) (InitBack x R) s1) { s with toks := s.toks + 1 }) :
    codeAny (model prog w) A (.call (.ref C) ⟨rest, kw⟩) R s := by
  obtain ⟨⟨m, hm, hne⟩, made, call, typ, reads, ⟨p, pr, hf, hp⟩, sub, init, fn⟩ := Y
  have lm : Looks (model prog w) s.heap (mroOf (.ref C)) m := looks_run X hm
  have lmade : Looks (model prog w) s.heap (Bind.madeBy (.ref C)) none := looks_run X made
  have lcall : Looks (model prog w) s.heap (specialOf (.ref C) "__call__") (some (.builtin "type.__call__")) := looks_specialIn X call
  have ltyp : Looks (model prog w) s.heap (isInstance (.ref C) (.type "type")) true := looks_instIn X typ
  obtain ⟨cd, hc, hcm⟩ : ∃ cd, clsIn K C = some cd ∧ True := by
    unfold mroIn at sub
    cases q : clsIn K C with
    | none => rw [q] at sub; cases sub
    | some cd => exact ⟨cd, rfl, trivial⟩
  obtain ⟨oc, od, sl, hK⟩ : ∃ oc od sl, K.lookup C = some ⟨oc, od, .cls cd, sl⟩ := by
    unfold clsIn at hc
    cases e : K.lookup C with
    | none => rw [e] at hc; exact no hc
    | some o =>
      rw [e] at hc
      obtain ⟨oc, od, dt, sl⟩ := o
      cases dt with
      | cls cd' => cases hc; exact ⟨_, _, _, rfl⟩
      | _ => exact no hc
  refine codeAny_of_tree ?_
  show wpAny _ _ (callAny (.ref C) _) _ _ _
  refine nd_load (X _ _ hK) ?_
  show wpAny _ _ (callAny.viaDunder (.ref C) _) _ _ _
  unfold callAny.viaDunder
  refine wpAny_bind (lcall.at ?_)
  dsimp only
  rw [tc_bind]
  refine wpAny_bind (wpAny_pure (wpAny_bind (wpAny_pure ?_)))
  refine wpAny_pure (a := Fin.again (.call (.builtin "type.__call__") ⟨.ref C :: rest, kw⟩)) (And.intro rfl ?_)
  refine codeAny_call_builtin_at (Code.quiet_builtin _ (by decide +kernel)) entry_typeCall (check_slot tc_kind tc_split ltyp (tc_args _ _ _) ?_)
  unfold Builtin.«type.__call__»
  dsimp only
  rw [if_neg (show ¬ ((Value.ref C == Value.type "type") = true) from Bool.false_ne_true)]
  refine wpAny_bind (lm.here ?_)
  rw [hne, if_neg Bool.false_ne_true]
  refine wpAny_bind (lmade.here ?_)
  dsimp only
  refine wpAny_bind (cls_bind X reads hf (wpAny_call (sm_get (s := { s with toks := s.toks + 1 }) X hp (handed_on rfl ?_))))
  refine wpAny_bind (wpAny_holding (wpAny_call (codeAny_mono hnew fun r s1 hr => ?_)))
  obtain ⟨x, rfl, X1, ⟨o, ho, hcl⟩, hi⟩ := hr
  have t1 : Looks (model prog w) s1.heap (typeOf (.ref x)) (.ref C) := hcl ▸ (Looks.ld ho).andThen .now
  have s1' : Looks (model prog w) s1.heap (isSubtype (.ref C) (.ref C)) true := looks_mroIn X1 sub
  have i1 : Looks (model prog w) s1.heap (typeLookup (.ref C) "__init__") (some (.ref fI)) := looks_findIn X1 init
  have b1 : Looks (model prog w) s1.heap (bindSpecial (.ref fI) (.ref x)) (.ref fI, [.ref x]) := bind_fn X1 _ (beq_iff_eq.mp fn)
  show wpAny _ _ _ _ _ _
  unfold isInstance callSpecial? specialOf
  repeat (first | with_reducible refine wpAny_call ?_ | lk)
  refine codeAny_mono hi fun r s' z => ?_
  rcases r with e | (v | _ | _ | _) <;> first | exact z | exact z.elim | skip
  obtain ⟨rfl, z⟩ := z
  exact wpAny_pure (wpAny_pure z)
end
theorem Grow.keepM {c : Fc} {s s1 s2 : Shared} {T : List Addr} {ρ : List (Addr × Addr)} (g : Grow c s T ρ) (x : St c.N (mutsOf c.ρ) s s1) (y : St c.N (mutsOf ρ) s1 s2) : St c.N (mutsOf c.ρ) s s2 := by
  obtain ⟨ν, rfl, h1⟩ := g.ext
  refine ⟨⟨fun b o nb e => ?_, fun b o e => let ⟨o', e'⟩ := x.keep.there b o e; y.keep.there b o' e'⟩, x.gens.trans y.gens, y.os.trans x.os⟩
  have nb2 : b ∉ mutsOf (c.ρ ++ ν) := fun z => by
    unfold mutsOf at z
    rw [List.map_append] at z
    rcases List.mem_append.mp z with z | z
    · exact nb z
    · obtain ⟨p, hp, rfl⟩ := List.mem_map.mp z
      rw [h1 p hp] at e; cases e
  have one : Keep c.N (mutsOf (c.ρ ++ ν)) s.heap s2.heap := (x.keep.sub fun b hb => by unfold mutsOf; rw [List.map_append]; exact List.mem_append.mpr (.inl hb)).trans y.keep
  exact one.off b o nb2 e
theorem IsL.grown {c : Fc} {s s1 : Shared} {T : List Addr} {ρ : List (Addr × Addr)} {ps : List PV} {vs : List Value} (g : Grow c s T ρ) (x : St c.N (mutsOf c.ρ) s s1) (i : IsL c.T c.ρ s.heap ps vs) : IsL T ρ s1.heap ps vs := by
  obtain ⟨ν, rfl, h1⟩ := g.ext
  exact (i.grow g.fresh).keep (x.keep.sub fun b hb => g.ok.fx.mem b (.tail _ (by rw [List.map_append]; exact List.mem_append.mpr (.inl hb))))
/-- a class with a __new__ of its own is called -/
theorem spec_class {W : Wd} {D : Nat} {C fN fI : Addr} {ps : List PV} {kw : List (Str × PV)} {objs objs1 objs2 : List PO} {k : Nat} (Y : MadeOwn W.K C fN fI) (hN : SpecK W D (.ref fN) (.v (.ref C) :: ps) kw objs (.o k) objs1) (hk : instC objs1 k C) (hI : SpecK W D (.ref fI) (.o k :: ps) kw objs1 (.v .none) objs2) :
    SpecK W (D + 1) (.ref C) ps kw objs (.o k) objs2 := by
  rintro c ok rfl room s vs kvs R B live frs O hlen ia ek ik hq
  refine make_own B.k Y ?_
  let c' : Fc := { c with A := c.A.under (.builtin "type.__call__" ⟨.ref C :: vs, kvs⟩) }
  have ok' : c'.Ok := ⟨ok.fx, ok.kind, ok.loc, ok.glb, ok.blt, ok.lowK, ok.lo⟩
  have room' : Room c'.A D := ⟨(show c.A.depth + 1 + D < _ from rd1 room.depth), (show c.A.units + 1 + 8 * D + 120 < _ from ru (k := 1) (by decide) room.units), room.handled⟩
  have frs' : Frs c.N c'.A s.heap := frs
  refine hN c' ok' rfl room' { s with toks := s.toks + 1 } (.ref C :: vs) kvs _ B live frs' O hlen (.cons (.v _) ia) ek ik fun s1 v T ρ g l st B1 F1 live1 O1 i1 => ?_
  cases i1 with
  | o e1 =>
  obtain ⟨att, ho⟩ := hk
  obtain ⟨a', dx, es, n, e', na, ea, ed, m⟩ := O1 k _ ho
  rw [e1] at e'; cases e'
  refine ⟨_, rfl, B1.k, ⟨_, ea, rfl⟩, ?_⟩
  refine hI (c'.at T ρ) g.ok rfl room' s1 _ kvs _ B1 live1 F1 O1 l (.cons (.o e1) (ia.grown (c := c') (s := { s with toks := s.toks + 1 }) g st)) ek (ik.grown (c := c') (s := { s with toks := s.toks + 1 }) g st) fun s2 v2 T2 ρ2 g2 l2 st2 B2 F2 live2 O2 i2 => ?_
  cases i2
  have gg : Grow c' { s with toks := s.toks + 1 } T2 ρ2 := g.trans st.keep g2
  refine ⟨rfl, hq s2 _ T2 ρ2 ⟨⟨gg.ok.fx, ok.kind, ok.loc, ok.glb, ok.blt, ok.lowK, ok.lo⟩, gg.sub, gg.fresh, gg.ext⟩ l2 ?_ B2 F2 live2 O2 ?_⟩
  · have := g.keepM (s := { s with toks := s.toks + 1 }) st st2
    exact ⟨this.keep, this.gens, this.os⟩
  · obtain ⟨ν, e3, _⟩ := g2.ext
    have e3 : ρ2 = ρ ++ ν := e3
    exact .o (by rw [e3, List.getElem?_append_left (List.getElem?_eq_some_iff.mp e1).1]; exact e1)
end M16
section M17
theorem grow_live {c : Fc} {s : Shared} {a d : Addr} (ok : c.Ok) (live : ∀ b ∈ c.T, ∃ o, s.heap.get? b = some o) (fd : s.heap.get? d = none) (hN : c.N ≤ d) : Grow c s (d :: c.T) (c.ρ ++ [(a, d)]) := by
  have nT : d ∉ c.T := fun hb => by obtain ⟨o, e⟩ := live _ hb; rw [fd] at e; cases e
  refine ⟨⟨⟨fun b hb => ?_, ?_, fun b hb => ?_⟩, ok.kind, ok.loc, ok.glb, ok.blt, ok.lowK, ok.lo⟩, fun b hb => .tail _ hb, fun b hb => ?_, [(a, d)], rfl, fun p hp => by rcases List.mem_singleton.mp hp with rfl; exact fd⟩
  · have hb : b ∈ c.L :: (c.ρ ++ [(a, d)]).map (·.2) := hb
    rw [List.map_append] at hb
    rcases List.mem_cons.mp hb with rfl | hb
    · exact .tail _ (ok.fx.mem _ (.head _))
    · rcases List.mem_append.mp hb with hb | hb
      · exact .tail _ (ok.fx.mem _ (.tail _ hb))
      · rcases List.mem_singleton.mp hb with rfl; exact .head _
  · show (c.L :: (c.ρ ++ [(a, d)]).map (·.2)).Nodup
    rw [List.map_append, ← List.cons_append]
    refine List.nodup_append.mpr ⟨ok.fx.nodup, by simp, fun x hx y hy => ?_⟩
    rcases List.mem_singleton.mp hy with rfl
    intro q; subst q
    exact nT (ok.fx.mem _ hx)
  · rcases List.mem_cons.mp hb with rfl | hb
    · exact hN
    · exact ok.fx.low b hb
  · rcases List.mem_cons.mp hb with rfl | hb
    · exact .inr fd
    · exact .inl hb
theorem last_get {α : Type} {l r : List α} {x : α} : (l ++ [x] ++ r)[l.length]? = some x := by simp
theorem last_get0 {α : Type} {l : List α} {x : α} : (l ++ [x])[l.length]? = some x := by simp
theorem live_size {c : Fc} {s : Shared} (ok : c.Ok) (live : ∀ b ∈ c.T, ∃ o, s.heap.get? b = some o) : c.N ≤ s.heap.objs.size := by
  obtain ⟨o, e⟩ := live c.L (ok.fx.mem _ (.head _))
  exact Nat.le_of_lt (Nat.lt_of_le_of_lt (ok.fx.low c.L (ok.fx.mem _ (.head _))) (Heap.lt_size e))
/-- objects beside the new ones -/
theorem objs_grow {c : Fc} {s : Shared} {h' : Heap} {T : List Addr} {ρ : List (Addr × Addr)} {objs new : List PO} (g : Grow c s T ρ) (O : ObjsOk c.T c.ρ objs s.heap) (hl : objs.length = c.ρ.length) (k : Keep c.N [] s.heap h') (hn : ∀ j po, new[j]? = some po → ObjAt T ρ h' (c.ρ.length + j) po) : ObjsOk T ρ (objs ++ new) h' := by
  obtain ⟨ν, rfl, e2⟩ := g.ext
  intro j po e
  rw [List.getElem?_append] at e
  split at e
  · exact ((O j po e).grow g.fresh).keep k (fun _ _ _ z => nomatch z) (fun _ z => nomatch z) k.all
  · rename_i h
    have := hn (j - objs.length) po e
    rw [← hl] at this
    rwa [Nat.add_sub_cancel' (Nat.not_lt.mp h)] at this
/-- a class that object.__new__ makes is called -/
theorem spec_class0 {W : Wd} {D : Nat} {C fI : Addr} {ps : List PV} {kw : List (Str × PV)} {objs objs2 : List PO} (hm : makesIn W.K C = true) (hi : findIn W.K (.ref C) "__init__" = some (some (.ref fI))) (hf : isFn W.K (.ref fI) = true)
    (hI : SpecK W D (.ref fI) (.o objs.length :: ps) kw (objs ++ [.inst C []]) (.v .none) objs2) : SpecK W (D + 1) (.ref C) ps kw objs (.o objs.length) objs2 := by
  rintro c ok rfl room s vs kvs R B live frs O hlen ia ek ik hq
  have B0 := B
  obtain ⟨hh, gg, dd, tt, os⟩ := s
  refine make_core (makes_of B.k hm) (looks_findIn B.k hi) (fun self => bind_fn B.k self (beq_iff_eq.mp hf)) (.inl rfl) ?_
  let c' : Fc := { c with A := c.A.under (.builtin "type.__call__" ⟨.ref C :: vs, kvs⟩) }
  have ok' : c'.Ok := ⟨ok.fx, ok.kind, ok.loc, ok.glb, ok.blt, ok.lowK, ok.lo⟩
  have room' : Room c'.A D := ⟨(show c.A.depth + 1 + D < _ from rd1 room.depth), (show c.A.units + 1 + 8 * D + 120 < _ from ru (k := 1) (by decide) room.units), room.handled⟩
  have frs' : Frs c.N c'.A hh := frs
  have fr : hh.get? hh.objs.size = none := fresh_get _
  have kp : Keep c.N [] hh ((hh.push emptyDict).push (instObj C hh.objs.size)) := .of_all fun b o e => Heap.get?_push_of_some _ (Heap.get?_push_of_some _ e)
  have hd : ((hh.push emptyDict).push (instObj C hh.objs.size)).get? hh.objs.size = some emptyDict := Heap.get?_push_of_some _ (Heap.get?_push_size _ rfl)
  have hx : ((hh.push emptyDict).push (instObj C hh.objs.size)).get? (hh.objs.size + 1) = some (instObj C hh.objs.size) := by heap_get
  have g : Grow c' ⟨hh, gg, dd, tt, os⟩ (hh.objs.size :: c.T) (c.ρ ++ [(hh.objs.size + 1, hh.objs.size)]) := grow_live (c := c') ok' live fr (show c.N ≤ hh.objs.size from live_size (c := c) (s := ⟨hh, gg, dd, tt, os⟩) ok live)
  have fx1 : hh.get? (hh.objs.size + 1) = none := by
    cases q : hh.get? (hh.objs.size + 1) with
    | none => rfl
    | some o => exact absurd (Heap.lt_size q) (Nat.not_lt.mpr (Nat.le_succ _))
  have nx : hh.objs.size + 1 ∉ hh.objs.size :: c.T := fun z => by
    rcases List.mem_cons.mp z with z | z
    · exact absurd z (Nat.succ_ne_self _)
    · obtain ⟨o, e⟩ := live _ z
      have e : hh.get? _ = some o := e
      rw [fx1] at e; cases e
  have O1 : ObjsOk (hh.objs.size :: c.T) (c.ρ ++ [(hh.objs.size + 1, hh.objs.size)]) (objs ++ [.inst C []]) ((hh.push emptyDict).push (instObj C hh.objs.size)) := objs_grow (c := c') g O hlen kp fun j po ej => by
    cases j with
    | zero => cases ej; exact ⟨hh.objs.size + 1, hh.objs.size, [], 0, last_get0, nx, hx, hd, .nil⟩
    | succ j => simp at ej
  have st : St c.N (mutsOf c.ρ) ⟨hh, gg, dd, tt, os⟩ ⟨(hh.push emptyDict).push (instObj C hh.objs.size), gg, dd, tt, os⟩ := ⟨kp.all, .refl _, rfl⟩
  refine hI (c'.at _ _) g.ok rfl room' _ (.ref (hh.objs.size + 1) :: vs) kvs _ (B.keep (T := []) ok.lowK (fun _ h => nomatch h) ok.lo kp) (fun b hb => ?_) (frs'.keep kp) O1 (by simp [hlen]) (.cons (.o (m := hh.objs.size) (by rw [hlen]; exact last_get0)) (ia.grown (c := c') (s := ⟨hh, gg, dd, tt, os⟩) g st)) ek (ik.grown (c := c') (s := ⟨hh, gg, dd, tt, os⟩) g st) fun s2 v2 T2 ρ2 g2 l2 st2 B2 F2 live2 O2 i2 => ?_
  · rcases List.mem_cons.mp hb with rfl | hb
    · exact ⟨_, hd⟩
    · obtain ⟨o, e⟩ := live b hb; exact kp.there b o e
  cases i2
  have gt : Grow c' ⟨hh, gg, dd, tt, os⟩ T2 ρ2 := g.trans (s1 := ⟨(hh.push emptyDict).push (instObj C hh.objs.size), gg, dd, tt, os⟩) kp g2
  refine ⟨rfl, hq s2 _ T2 ρ2 ⟨⟨gt.ok.fx, ok.kind, ok.loc, ok.glb, ok.blt, ok.lowK, ok.lo⟩, gt.sub, gt.fresh, gt.ext⟩ l2 (g.keepM (s1 := ⟨(hh.push emptyDict).push (instObj C hh.objs.size), gg, dd, tt, os⟩) st st2) B2 F2 live2 O2 ?_⟩
  obtain ⟨ν, e3, _⟩ := g2.ext
  have e3 : ρ2 = c.ρ ++ [(hh.objs.size + 1, hh.objs.size)] ++ ν := e3
  exact .o (m := hh.objs.size) (by rw [e3, hlen]; exact last_get)
end M17
section M18
/-! ## object.__new__(cls) -/
noncomputable def ObjNew (K : Frag) (C : Addr) : Prop := (∀ S sz tk, runAl K S 200 sz tk (checkBuiltinCall "object.__new__" ⟨[.ref C], []⟩) = some ((), [], tk)) ∧
  ∀ S sz tk, runAl K S 200 sz tk (Builtin.«object.__new__» ⟨[.ref C], []⟩) = some (.done (.ret (.ref (sz + 1))), [emptyDict, instObj C sz], tk)
theorem call_objnew {prog : Program} {w : World} {A : Around} {K : Frag} {C : Addr} {s : Shared} {Q E : Value → Shared → Prop} (X : K.In s.heap) (h : ObjNew K C) (hq : Q (.ref (s.heap.objs.size + 1)) { s with heap := (s.heap.push emptyDict).push (instObj C s.heap.objs.size) }) :
    wpAny (model prog w) A (call (.builtin "object.__new__") [.ref C]) Q E s := by
  have F := PySem.F.objNew
  refine wpAny_call (codeAny_call_builtin_code (Code.quiet_builtin _ F.quiet) (runAl_sound X (h.1 _ _ _) ?_))
  refine codeAny_builtin F.entry (runAl_sound (s := { s with heap := s.heap, toks := s.toks }) X (h.2 _ _ _) ?_)
  exact hq
theorem meth_type {prog : Program} {w : World} {A : Around} {K : Frag} {s : Shared} {E : Value → Shared → Prop} {T : String} {name : Str} {v : Value} {pl : Sem Bool} {Q : Value × List Value → Shared → Prop} (X : K.In s.heap) (ht : typeOf (.type T) = pure (.type "type")) (hs : Manifest.isStub T = false)
    (e : findCls K (.type T) (.type "type") name = some (.val v)) (hh : handedIn v = true) (h : Q (v, []) { s with toks := s.toks + 1 }) : wpAny (model prog w) A (getMethod (.type T) name pl) Q E s := by
  have hstub : opaqueClassAbove (.type T) = pure none := by unfold opaqueClassAbove; dsimp only; rw [hs]; rfl
  have L0 : Looks (model prog w) s.heap (typeOf (.type T)) (.type "type") := Looks.of_pure ht
  have hg : findIn K (.type "type") "__getattribute__" = some (some (.builtin "type.__getattribute__")) := type_tga
  unfold getMethod specialOf
  refine wpAny_bind (wpAny_bind (L0.here ((looks_findIn X hg).here ?_)))
  dsimp only
  rw [if_pos canon_tga]
  refine wpAny_bind (wpAny_mono (Q := fun v => Q (v, [])) (E := E) ?_ (fun _ _ z => wpAny_pure z) fun _ _ z => z)
  have LO : Looks (model prog w) s.heap (opaqueClassAbove (.type T)) none := Looks.of_pure hstub
  refine cls_open X LO L0 hg (looks_hook X (r := none) (by rfl)) (by show subIn K _ _ = _; rfl) e
    (wpAny_pure (by show wpAny _ _ (handedOut v) _ _ _; rw [handedOut_of hh]; exact wpAny_pure h))
theorem tyo : typeOf (.type "object") = pure (.type "type") := by kernel_rfl
theorem stubo : Manifest.isStub "object" = false := by decide +kernel
theorem hando : handedIn (.builtin "object.__new__") = true := by decide +kernel
theorem evg_objnew {c : Fc} {V : View} {y x : Str} {py px apos pos : Pos} {C : Addr} (ok : c.Ok) (hky : c.env.kindOf y = some .globalImplicit) (hdy : (y == ("__debug__" : Str)) = false) (hgy : globIs c.K y (.type "object") = true)
    (hfc : findCls c.K (.type "object") (.type "type") "__new__" = some (.val (.builtin "object.__new__"))) (hx : c.env.kindOf x = some .local) (hdx : (x == ("__debug__" : Str)) = false) (hv : V.loc.lookup x = some (.v (.ref C))) (hn : ObjNew c.K C) (hl : (apos.endLine == pos.line) = true) :
    EvG c (.Call (.Attribute (.Name y py) "__new__" apos) [.Name x px] [] pos) V (.o V.objs.length) ⟨V.loc, V.objs ++ [.inst C []]⟩ := by
  intro s Q E I l h
  rw [mc_eq (args := [.Name x px]) base_name hl rfl (show 1 < 30 by decide)]
  refine wpAny_bind (ev_glob ok hky hdy hgy s _ E I fun s1 v I1 t1 i1 => wpAny_bind (wpAny_standAt (wpAny_bind (wpAny_holding ?_))))
  cases i1
  refine meth_type (K := c.K) (T := "object") (name := "__new__") (v := .builtin "object.__new__") I1.base.k tyo stubo hfc hando ?_
  have I1' : Inv c V { s1 with toks := s1.toks + 1 } := I1.toks _
  refine callWith_ok (c := c) (V := V) (ps := [.v (.ref C)]) rfl rfl (args_cons ok (ev_local ok hx hdx hv) args_nil rfl) I1' fun s2 vs I2 t2 i2 => ?_
  obtain ⟨u, rfl, iu⟩ := isL1 i2
  cases iu
  refine call_objnew I2.base.k hn ?_
  generalize eH : s2.heap.objs.size = sz
  have fr : s2.heap.get? sz = none := eH ▸ fresh_get _
  have k : Keep c.N [] s2.heap ((s2.heap.push emptyDict).push (instObj C sz)) := .of_all fun b o eb => Heap.get?_push_of_some _ (Heap.get?_push_of_some _ eb)
  have g := grow_one (a := sz + 1) ok I2 fr (eH ▸ I2.size ok)
  have hd : ((s2.heap.push emptyDict).push (instObj C sz)).get? sz = some emptyDict := Heap.get?_push_of_some _ (eH ▸ Heap.get?_push_size _ rfl)
  have hxx : ((s2.heap.push emptyDict).push (instObj C sz)).get? (sz + 1) = some (instObj C sz) := by subst eH; heap_get
  have fx1 : s2.heap.get? (sz + 1) = none := by
    cases q : s2.heap.get? (sz + 1) with
    | none => rfl
    | some o => exact absurd (Heap.lt_size q) (eH ▸ Nat.not_lt.mpr (Nat.le_succ _))
  have nx : sz + 1 ∉ sz :: c.T := fun z => by
    rcases List.mem_cons.mp z with z | z
    · exact absurd z (Nat.succ_ne_self _)
    · obtain ⟨o, e⟩ := I2.live _ z
      rw [fx1] at e; cases e
  have tt := (t1.trans (.toks (s1.toks + 1))).trans t2
  refine h { s2 with heap := (s2.heap.push emptyDict).push (instObj C sz) } _ _ _ (g.from tt.keep) (by simp [l]) (I2.grow (s' := { s2 with heap := (s2.heap.push emptyDict).push (instObj C sz) }) ok g k (fun b hb => ?_) l fun j po ej => ?_) (tt.trans ⟨k.all, .refl _, rfl⟩) ?_
  · rcases List.mem_cons.mp hb with rfl | hb
    · exact ⟨_, hd⟩
    · obtain ⟨o, eb⟩ := I2.live b hb; exact k.there b o eb
  · cases j with
    | zero => cases ej; exact ⟨sz + 1, sz, [], 0, last_get0, nx, hxx, hd, .nil⟩
    | succ j => simp at ej
  · exact .o (m := sz) (by rw [l]; exact last_get0)
end M18
section M19
theorem keep_pushes {N : Nat} (h : Heap) (l : List Obj) : Keep N [] h (pushes h l) := .of_all fun b o e => pushes_keep l h e
/-- the arguments are bound by a tree that lays objects -/
theorem bind_al {W : Wd} {T : List Addr} {ρ : List (Addr × Addr)} {fd : FuncData} {loc : List (Str × PV)} {s : Shared} {vs : List Value} {kvs : List (Str × Value)} {binds : List (Str × Value)} (X : W.K.In s.heap)
    (e : (runAl W.K ⟨W.prog, W.w.params⟩ 200 s.heap.objs.size s.toks (bindArgs fd ⟨vs, kvs⟩)).map (·.1) = some binds) (hn : (binds.map (·.1)).all (fun x => fd.scope.names.lookup x == some .local) = true)
    (hi : ∀ x p, loc.lookup x = some p → ∃ v, binds.reverse.lookup x = some v ∧ Is T ρ s.heap p v) : ∀ (A : Around) (E : Value → Shared → Prop) (Q : List (Str × Value) → Shared → Prop), (∀ binds s1, BindOk W T ρ fd loc s binds s1 → Q binds s1) → wpAny (model W.prog W.w) A (bindArgs fd ⟨vs, kvs⟩) Q E s := by
  intro A E Q q
  obtain ⟨⟨b, l, tk⟩, e9, rfl⟩ := Option.map_eq_some_iff.mp e
  refine runAl_sound (M := model W.prog W.w) X e9 (q _ _ ⟨fun x hx => ?_, keep_pushes _ _, rfl, rfl, fun x p h => ?_⟩)
  · exact beq_iff_eq.mp (List.all_eq_true.mp hn x.1 (List.mem_map_of_mem hx))
  · obtain ⟨v, e1, e2⟩ := hi x p h
    exact ⟨v, e1, e2.keep (keep_pushes (N := 0) _ _).all⟩
theorem exg_one {c : Fc} {st : Stmt} {V V' : View} {p : PV} {r : List Stmt} (h : SxG c st V (.ret p) V') : ExG c (st :: r) V (.ret p) V' := exg_stop h (fun q => nomatch q)
theorem sxg_return {c : Fc} {e : Expr} {pos : Pos} {V V1 : View} {p : PV} (he : EvG c e V p V1) : SxG c (.Return (some e) pos) V (.ret p) V1 := fun s Q E I l k => wpAny_Return_some (he s _ E I l fun s1 v T ρ g l1 I1 t1 i1 => k s1 _ T ρ g l1 I1 t1 ⟨v, rfl, i1⟩)
end M19
section M20
/-! ## an evaluator for what makes objects -/
theorem SpecK.le {W : Wd} {D D' : Nat} {f : Value} {ps : List PV} {kw : List (Str × PV)} {objs objs' : List PO} {r : PV} (h : SpecK W D f ps kw objs r objs') (hd : D ≤ D') : SpecK W D' f ps kw objs r objs' := fun c ok e room => h c ok e (room.le hd)
noncomputable abbrev GC := Value → List PV → List (Str × PV) → List PO → FP
structure GOrc (W : Wd) (D : Nat) where
  fn : GC
  ok : ∀ f ps kw objs r objs' P, fn f ps kw objs = some (r, objs', P) → keepOk W.K f = true ∧ (AllP P → SpecK W D f ps kw objs r objs')
noncomputable def GOrc.one {W : Wd} {D : Nat} {f : Value} {ps : List PV} {kw : List (Str × PV)} {objs objs1 : List PO} {r : PV} (hk : keepOk W.K f = true) (h : SpecK W D f ps kw objs r objs1) : GOrc W D := ⟨fun f' ps' kw' objs' => if f' = f then some (r, objs1, [(ps', kw', objs') = (ps, kw, objs)]) else .none, fun f' ps' kw' objs' r' objs2 P e => by
    obtain ⟨g, e2⟩ := oi e
    subst g
    cases e2
    exact ⟨hk, fun hP => by obtain ⟨e1, e2⟩ := Prod.mk.inj hP.1; obtain ⟨e2, e3⟩ := Prod.mk.inj e2; rw [e1, e2, e3]; exact h⟩⟩
noncomputable def GcOk (c : Fc) (gc : GC) : Prop := ∀ f ps kw objs r objs' P, gc f ps kw objs = some (r, objs', P) → keepOk c.K f = true ∧ (AllP P → CodeK c f ps kw objs r objs')
theorem GOrc.gc {W : Wd} {D : Nat} {c : Fc} (o : GOrc W D) (ok : c.Ok) (e : c.toWd = W) (room : Room c.A.in1 D) : GcOk c o.fn := fun f ps kw objs r objs' P h => by
  obtain ⟨h1, h2⟩ := o.ok _ _ _ _ _ _ _ h
  subst e
  exact ⟨h1, fun hP => h2 hP c ok rfl room.of_in1⟩
section
variable {c : Fc} {V V1 V2 V' : View} {p : PV} {f : PF}
theorem Inv.calledG {s s' : Shared} {T : List Addr} {ρ : List (Addr × Addr)} {objs' : List PO} (ok : c.Ok) (I : Inv c V s) (g : Grow c s T ρ) (st : St c.N (mutsOf c.ρ) s s') (B : Base c.K c.N s'.heap) (F : Frs c.N c.A s'.heap) (live : ∀ b ∈ T, ∃ o, s'.heap.get? b = some o) (O : ObjsOk T ρ objs' s'.heap) : Inv (c.at T ρ) ⟨V.loc, objs'⟩ s' := by
  have nd := List.nodup_cons.mp ok.fx.nodup
  obtain ⟨m, hn, hl⟩ := I.rep.ns
  refine ⟨⟨⟨m, st.keep.frame nd.1 hn, fun x p e => ?_⟩, O⟩, B, live, F⟩
  obtain ⟨v, e1, e2⟩ := hl x p e
  obtain ⟨ν, rfl, h1⟩ := g.ext
  exact ⟨v, e1, (e2.grow g.fresh).keep (st.keep.sub fun b hb => g.sub b (ok.fx.mem b (mutsOf_sub b hb)))⟩
/-- the keywords of a call -/
noncomputable def KwOk (c : Fc) (ks : List Keyword) (V : View) (kw : List (Str × PV)) : Prop :=
  ks.map (·.arg) = kw.map (fun z => some z.1) ∧ ∀ (s : Shared) (pos : Pos) (Q : List Value → Shared → Prop) (E : Value → Shared → Prop), Inv c V s → (∀ s' vs, Inv c V s' → St c.N c.muts s s' → IsL c.T c.ρ s'.heap (kw.map (·.2)) vs → Q vs s') → wpAny c.M c.A (evalAll ((backToKw pos (keywordEach ks c.env)).map (·.2))) Q E s
theorem kw_nil : KwOk c [] V [] := ⟨rfl, fun s pos Q E I h => kwAll_nil (h s [] I (.refl s) .nil)⟩
theorem kw_cons {x : Str} {e : Expr} {kp : Pos} {r : List Keyword} {kw : List (Str × PV)} (ok : c.Ok) (he : EvOk c e V p V) (hr : KwOk c r V kw) : KwOk c (⟨some x, e, kp⟩ :: r) V ((x, p) :: kw) :=
  ⟨by simp [hr.1], fun s pos Q E I h => kwAll_cons (he s _ E I fun s1 v I1 t1 i1 => hr.2 s1 pos _ E I1 fun s2 vs I2 t2 i2 => h s2 _ I2 (t1.trans t2) (.cons (i1.st ok t2) i2))⟩
theorem kwEach_names {pos : Pos} {env : Env} : ∀ {ks : List Keyword} {kw : List (Str × PV)}, ks.map (·.arg) = kw.map (fun z => some z.1) → (backToKw pos (keywordEach ks env)).map (·.1) = kw.map (fun z => some z.1)
  | [], [], _ => rfl
  | k :: ks, z :: kw, h => by
    obtain ⟨ka, kv, kp⟩ := k
    simp only [List.map_cons, List.cons.injEq] at h
    show ka :: (backToKw pos (keywordEach ks env)).map (·.1) = _
    rw [kwEach_names h.2, h.1]; rfl
  | [], _ :: _, h => by cases h
  | _ :: _, [], h => by cases h
theorem kw_facts {l : List (Option Str × Sem Value)} {kw : List (Str × PV)} (h : l.map (·.1) = kw.map (fun z => some z.1)) : l.all (·.1.isSome) = true ∧ l.any (·.1.isNone) = false ∧ l.filterMap (·.1) = kw.map (·.1) := by
  induction l generalizing kw with
  | nil => cases kw with
    | nil => exact ⟨rfl, rfl, rfl⟩
    | cons _ _ => cases h
  | cons a r ih => cases kw with
    | nil => cases h
    | cons z kw =>
      simp only [List.map_cons, List.cons.injEq] at h
      obtain ⟨h1, h2, h3⟩ := ih h.2
      obtain ⟨a1, a2⟩ := a
      have := h.1
      subst this
      refine ⟨by simp [h1], by simp [h2], by simp [h3]⟩
theorem zip_fst {α β : Type} : ∀ {l : List α} {r : List β}, l.length = r.length → (l.zip r).map (·.1) = l ∧ (l.zip r).map (·.2) = r
  | [], [], _ => ⟨rfl, rfl⟩
  | a :: l, b :: r, h => by
    obtain ⟨h1, h2⟩ := zip_fst (l := l) (r := r) (by simpa using h)
    simp [h1, h2]
theorem evg_call {x : Str} {px pos : Pos} {es : List Expr} {ks : List Keyword} {ps : List PV} {kw : List (Str × PV)} {fv : Value} {objs' : List PO} (ok : c.Ok) (hx : EvOk c (.Name x px) V (.v fv) V) (hk : keepOk c.K fv = true) (hs : es.all noStar = true) (ha : ArgsOk c es V ps V) (hkw : KwOk c ks V kw) (hc : CodeK c fv ps kw V.objs p objs') :
    EvG c (.Call (.Name x px) es ks pos) V p ⟨V.loc, objs'⟩ := by
  intro s Q E I l h
  refine wpAny_Call_Name_kw (hx s _ E I fun s1 v I1 t1 i1 => ?_)
  cases i1
  have fin : ∀ s2 vs kvs, Inv c V s2 → St c.N c.muts s s2 → IsL c.T c.ρ s2.heap ps vs → kvs.map (·.1) = kw.map (·.1) → IsL c.T c.ρ s2.heap (kw.map (·.2)) (kvs.map (·.2)) → wpAny c.M c.A (call fv vs kvs) Q E s2 := fun s2 vs kvs I2 t2 i2 e2 k2 =>
    wpAny_call (hc s2 vs kvs _ I2.base I2.live I2.frs I2.rep.objs l i2 e2 k2 fun s3 v T ρ g l3 st3 B3 F3 live3 O3 i3 => h s3 v T ρ (g.from t2.keep) l3 (I2.calledG ok g st3 B3 F3 live3 O3) (t2.trans (st3.sub mutsOf_sub)) i3)
  have names := fun pos => kwEach_names (pos := pos) (env := c.env) hkw.1
  refine callWith_of (P := c.K.In) (by rw [starEach_any hs, (kw_facts (names _)).2.1]; rfl) (keeps_ok hk) ?_
  have args : wpAny c.M c.A (evalArgs fv true (backTo pos (starEach es c.env)) (backToKw pos (keywordEach ks c.env))) (fun a s₁ => ∃ s2 vs us, s₁ = s2 ∧ a = ⟨vs, (kw.map (·.1)).zip us⟩ ∧ Inv c V s2 ∧ St c.N c.muts s1 s2 ∧ IsL c.T c.ρ s2.heap ps vs ∧ IsL c.T c.ρ s2.heap (kw.map (·.2)) us) E s1 := by
    have two : wpAny c.M c.A (spliced (backTo pos (starEach es c.env))) (fun vs s₁ => wpAny c.M c.A (evalAll ((backToKw pos (keywordEach ks c.env)).map (·.2))) (fun us s₂ => ∃ s2 vs' us', s₂ = s2 ∧ (⟨vs, ((backToKw pos (keywordEach ks c.env)).filterMap (·.1)).zip us⟩ : Args) = ⟨vs', (kw.map (·.1)).zip us'⟩ ∧ Inv c V s2 ∧ St c.N c.muts s1 s2 ∧ IsL c.T c.ρ s2.heap ps vs' ∧ IsL c.T c.ρ s2.heap (kw.map (·.2)) us') E s₁) E s1 :=
      ha s1 pos _ E I1 fun s2 vs I2 t2 i2 => hkw.2 s2 pos _ E I2 fun s3 us I3 t3 i3 => ⟨s3, vs, us, rfl, by rw [(kw_facts (names _)).2.2], I3, t2.trans t3, i2.st ok t3, i3⟩
    cases es with
    | nil => exact evalArgs_kw2_nil (kw_facts (names _)).1 (by
        have := two
        show wpAny _ _ _ _ _ _
        have z : wpAny c.M c.A (spliced []) _ E s1 := this
        unfold spliced at z
        exact fun Γ p hΓ => z Γ p hΓ Γ p hΓ)
    | cons e r =>
      rw [List.all_cons, Bool.and_eq_true] at hs
      exact evalArgs_kw2 (kw_facts (names _)).1 two (starEach_cons hs.1)
  refine wpAny_mono args (fun a s₁ ha => ?_) fun _ _ z => z
  obtain ⟨s2, vs, us, rfl, rfl, I2, t2, i2, k2⟩ := ha
  have hl : (kw.map (·.1)).length = us.length := by rw [← k2.length]; simp
  obtain ⟨z1, z2⟩ := zip_fst hl
  exact ⟨I2.base.k, fin s₁ vs _ I2 (t1.trans t2) i2 z1 (by rw [z2]; exact k2)⟩
end
noncomputable def pks (g : Cfg) (n : Nat) (V : View) : List Keyword → Option (List (Str × PV) × List Prop)
  | [] => some ([], [])
  | k :: r => k.arg.bind fun x => two (pe g n k.value V) (pks g n V r) fun z z' => some ((x, z.1) :: z'.1, z.2 ++ z'.2)
noncomputable def geDq (g : Cfg) (x : Str) (es : List Expr) (ks : List Keyword) (V : View) (P : List Prop) : FP := if es.isEmpty && ks.isEmpty && (g.scope.names.lookup x == some .globalImplicit) && (g.glob.lookup x == some (.type "collections.deque")) && !(x == ("__debug__" : Str)) then some (.o V.objs.length, V.objs ++ [.dq []], P) else none
noncomputable def geApp (g : Cfg) (gc : GC) (n : Nat) (es : List Expr) (ks : List Keyword) (V : View) (fv : Value) (P : List Prop) : FP := two (pas g n es V) (pks g n V ks) fun z' z'' => (gc fv z'.1 z''.1 V.objs).map fun u => (u.1, u.2.1, P ++ (z'.2 ++ (z''.2 ++ u.2.2)))
noncomputable def geCall (g : Cfg) (gc : GC) (n : Nat) (x : Str) (es : List Expr) (ks : List Keyword) (V : View) : FP := if es.all noStar then (peName g x V).bind fun z => (isV z.1).bind fun fv => if fv = .type "collections.deque" then geDq g x es ks V z.2 else geApp g gc n es ks V fv z.2 else none
noncomputable def orG (V : View) (z : FP) (y : FP) : FP := match z with
  | some z => some (z.1, z.2.1, z.2.2 ++ [z.2.1.length = V.objs.length])
  | none => y
noncomputable def geB (g : Cfg) (gc : GC) (n : Nat) (e : Expr) (V : View) : FP := match e with
  | .Call f es ks _ => (nameIn f).bind fun y => geCall g gc n y.1 es ks V
  | _ => none
noncomputable def ge (g : Cfg) (gc : GC) (n : Nat) (e : Expr) (V : View) : FP := orG V (pf g n e V) (geB g gc n e V)
section
variable {c : Fc} {g : Cfg} {gc : GC}
theorem pks_sound (ok : c.Ok) (gk : CfgOk c g) {n : Nat} {V : View} {ks : List Keyword} : ∀ {kw : List (Str × PV)} {P : List Prop}, pks g n V ks = some (kw, P) → AllP P → KwOk c ks V kw := by
  induction ks with
  | nil => intro kw P h _; cases h; exact kw_nil
  | cons k r ih =>
    intro kw P h hP
    obtain ⟨x, hx, h⟩ := ob h
    obtain ⟨z, z', h1, h2, h⟩ := two_is h
    cases h
    rw [AllP.append] at hP
    obtain ⟨ka, kv, kp⟩ := k
    cases hx
    exact kw_cons ok ((pe_ok ok gk n).e _ _ _ h1 hP.1) (ih h2 hP.2)
theorem geApp_sound (ok : c.Ok) (gk : CfgOk c g) (gco : GcOk c gc) {n : Nat} {x : Str} {px pos : Pos} {es : List Expr} {ks : List Keyword} {V : View} {p : PV} {objs : List PO} {P R : List Prop} {fv : Value} (hs : es.all noStar = true) (hx : EvOk c (.Name x px) V (.v fv) V) (h : geApp g gc n es ks V fv R = some (p, objs, P)) (hP : AllP P) : EvG c (.Call (.Name x px) es ks pos) V p ⟨V.loc, objs⟩ := by
  obtain ⟨z', z'', h2, h3, h⟩ := two_is h
  obtain ⟨u, e1, e2⟩ := map_some h
  cases e2
  rw [AllP.append, AllP.append, AllP.append] at hP
  obtain ⟨k1, k2⟩ := gco _ _ _ _ _ _ _ e1
  exact evg_call ok hx k1 hs ((pe_ok ok gk n).as _ _ _ h2 hP.2.1) (pks_sound ok gk h3 hP.2.2.1) (k2 hP.2.2.2)
theorem geCall_sound (ok : c.Ok) (gk : CfgOk c g) (gco : GcOk c gc) {n : Nat} {x : Str} {px pos : Pos} {es : List Expr} {ks : List Keyword} {V : View} {p : PV} {objs : List PO} {P : List Prop} (h : geCall g gc n x es ks V = some (p, objs, P)) (hP : AllP P) : EvG c (.Call (.Name x px) es ks pos) V p ⟨V.loc, objs⟩ := by
  obtain ⟨hs, h⟩ := oi h
  obtain ⟨z, h1, h⟩ := ob h
  obtain ⟨fv, hf, h⟩ := ob h
  by_cases hd : fv = .type "collections.deque"
  · rw [if_pos hd] at h
    obtain ⟨hq, h⟩ := oi h
    simp only [Bool.and_eq_true] at hq
    obtain ⟨⟨⟨⟨q1, q2⟩, q3⟩, q4⟩, q5⟩ := hq
    cases h
    rw [List.isEmpty_iff.mp q1, List.isEmpty_iff.mp q2]
    exact evg_deque ok ((kind_of gk x).trans (beq_iff_eq.mp q3)) (by simpa using q5) (gk.glob _ _ (beq_iff_eq.mp q4))
  · rw [if_neg hd] at h
    have h1 := peName_sound (pos := px) ok gk h1
    rw [isV_is hf] at h1
    exact geApp_sound ok gk gco hs h1 h hP
theorem ge_sound (ok : c.Ok) (gk : CfgOk c g) (gco : GcOk c gc) {n : Nat} {e : Expr} {V : View} {p : PV} {objs : List PO} {P : List Prop} (h : ge g gc n e V = some (p, objs, P)) (hP : AllP P) : EvG c e V p ⟨V.loc, objs⟩ := by
  have h : orG V (pf g n e V) (geB g gc n e V) = some (p, objs, P) := h
  cases h1 : pf g n e V with
  | some z =>
    rw [h1] at h
    cases h
    rw [AllP.append] at hP
    exact ((pf_ok ok gk n).e _ _ _ _ _ h1 hP.1).g ok hP.2.1
  | none =>
    rw [h1] at h
    cases e with
    | Call f es ks pos =>
      obtain ⟨y, hy, h⟩ := ob h
      rw [nameIn_is hy]
      exact geCall_sound ok gk gco h hP
    | _ => exact no h
end
/-! ### statements -/
noncomputable def orS (V : View) (z : SP) (y : SP) : SP := match z with
  | some z => some (z.1, z.2.1, z.2.2.1, z.2.2.2 ++ [z.2.2.1.objs.length = V.objs.length])
  | none => y
noncomputable def gxTgt (g : Cfg) (ds : Ds) (V : View) (z : PV × List PO × List Prop) : Tgt → SP
  | .name x => if g.scope.names.lookup x == some .local then some (.next, ds, ⟨put x z.1 V.loc, z.2.1⟩, z.2.2) else none
  | .attr y _ a => (peName g y ⟨V.loc, z.2.1⟩).bind fun z' => (isO z'.1).bind fun k => (setAt g z.2.1 a k z.1).map fun o => (.next, ds, ⟨V.loc, o⟩, z.2.2 ++ z'.2)
  | .tup _ => none
noncomputable def gxRet (F : Expr → View → FP) (ds : Ds) (V : View) : Option Expr → SP
  | some e => (F e V).map fun z => (.ret z.1, ds, ⟨V.loc, z.2.1⟩, z.2.2)
  | none => none
noncomputable def gxB (g : Cfg) (gc : GC) (n : Nat) (X : List Stmt → Ds → View → SP) (st : Stmt) (ds : Ds) (V : View) : SP := match st with
  | .Assign ts e _ => (one ts).bind fun t => (tgtOf t).bind fun tg => if notComp e then (ge g gc n e V).bind fun z => gxTgt g ds V z tg else none
  | .If t b e _ => (pt g n t V).bind fun z => sxIf X b e V z ds
  | .Return e _ => gxRet (ge g gc n) ds V e
  | _ => none
mutual
noncomputable def gx (g : Cfg) (gc : GC) : Nat → Stmt → Ds → View → SP
  | 0, _, _, _ => none
  | n + 1, st, ds, V => orS V (sx g (n + 1) st ds V) (gxB g gc n (fun b ds V => gxs g gc n b ds V) st ds V)
noncomputable def gxs (g : Cfg) (gc : GC) : Nat → List Stmt → Ds → View → SP
  | 0, _, _, _ => none
  | n + 1, b, ds, V => xsB (fun st ds V => gx g gc n st ds V) (fun b ds V => gxs g gc n b ds V) b ds V
end
/-- whatever is numbered besides -/
noncomputable def Gs (c : Fc) (g : Cfg) (gc : GC) : Prop := ∀ T ρ, (c.at T ρ).Ok → CfgOk (c.at T ρ) g ∧ GcOk (c.at T ρ) gc
section
variable {c : Fc} {g : Cfg} {gc : GC}
theorem exg_nil {V : View} (ok : c.Ok) : ExG c [] V .next V := ex_nil.g ok rfl
structure GxK (c : Fc) (g : Cfg) (gc : GC) (n : Nat) : Prop where
  s : ∀ T ρ, (c.at T ρ).Ok → ∀ st ds V f ds' V' P, gx g gc n st ds V = some (f, ds', V', P) → AllP P → SxG (c.at T ρ) st V f V'
  b : ∀ T ρ, (c.at T ρ).Ok → ∀ b ds V f ds' V' P, gxs g gc n b ds V = some (f, ds', V', P) → AllP P → ExG (c.at T ρ) b V f V'
theorem gxs_step {n : Nat} (ih : GxK c g gc n) : ∀ T ρ, (c.at T ρ).Ok → ∀ b ds V f ds' V' P, gxs g gc (n + 1) b ds V = some (f, ds', V', P) → AllP P → ExG (c.at T ρ) b V f V' := by
  intro T ρ ok b ds V f ds' V' P h hP
  cases b with
  | nil => cases h; exact exg_nil ok
  | cons st r =>
    rcases xsB_is (show xsB (fun st ds V => gx g gc n st ds V) (fun b ds V => gxs g gc n b ds V) (st :: r) ds V = some (f, ds', V', P) from h) with ⟨_, _, _, _, h1, h2, rfl⟩ | ⟨h1, hn⟩
    · rw [AllP.append] at hP
      exact exg_cons (ih.s T ρ ok _ _ _ _ _ _ _ h1 hP.1) fun T' ρ' ok' => ih.b T' ρ' ok' _ _ _ _ _ _ _ h2 hP.2
    · exact exg_stop (ih.s T ρ ok _ _ _ _ _ _ _ h1 hP) hn
theorem sxg_set {y n : Str} {e : Expr} {py pos' pos : Pos} {k : Nat} {C : Addr} {att : List (Str × PV)} {V V1 : View} {p : PV} (he : EvG c e V p V1) (hy : ∀ T ρ, (c.at T ρ).Ok → EvOk (c.at T ρ) (.Name y py) V1 (.o k) V1) (ho : V1.objs[k]? = some (.inst C att)) (hs : setOk c.K C n = true) (hz : att.length ≤ 900) (hc : notComp e = true) :
    SxG c (.Assign [.Attribute (.Name y py) n pos'] e pos) V .next { V1 with objs := V1.objs.set k (.inst C (put n p att)) } := by
  intro s Q E I l h
  refine plainObj_wpAny_Assign_Attribute (he s _ E I l fun s1 v T ρ g l1 I1 t1 i1 => ?_) (swaps_no hc)
  refine hy T ρ g.ok s1 _ E I1 fun s2 u I2 t2 i2 => ?_
  obtain ⟨a, m, rfl, e⟩ := i2.io
  exact set_attr (c := c.at T ρ) g.ok I2 e ho hs hz (i1.st (c := c.at T ρ) g.ok t2) fun s3 I3 t3 => h s3 _ T ρ g (by simpa using l1) I3 (g.keep t1 (t2.trans t3)) rfl
theorem gx_assign (G : Gs c g gc) {n : Nat} {T : List Addr} {ρ : List (Addr × Addr)} (ok : (c.at T ρ).Ok) {t e : Expr} {pos : Pos} {tg : Tgt} {z : PV × List PO × List Prop} {ds ds' : Ds} {V V' : View} {f : PF} {P : List Prop} (ht : TgtIs t tg) (hc : notComp e = true) (h1 : ge g gc n e V = some z) (h : gxTgt g ds V z tg = some (f, ds', V', P)) (hP : AllP P) : SxG (c.at T ρ) (.Assign [t] e pos) V f V' := by
  obtain ⟨gk, gco⟩ := G T ρ ok
  have ie := ge_sound (c := c.at T ρ) ok gk gco h1
  cases tg with
  | name x =>
    obtain ⟨q, rfl⟩ := ht
    obtain ⟨hl, h⟩ := oi h
    cases h
    exact sxg_assign ((kind_of gk _).trans (beq_iff_eq.mp hl)) (ie hP) hc
  | attr y py a =>
    obtain ⟨q, rfl⟩ := ht
    obtain ⟨z', h2, h⟩ := ob h
    obtain ⟨k, hk, h⟩ := ob h
    obtain ⟨o, e1, e2⟩ := map_some h
    cases e2
    rw [AllP.append] at hP
    obtain ⟨C, att, o1, o2, o3, rfl⟩ := setAt_is gk e1
    refine sxg_set (c := c.at T ρ) (ie hP.1) (fun T' ρ' ok' => ?_) o1 o2 o3 hc
    have h2 := peName_sound (pos := py) ok' (G T' ρ' ok').1 h2
    rw [isO_is hk] at h2
    exact h2
  | tup ts => exact no h
theorem gxB_step (G : Gs c g gc) {n : Nat} (ih : GxK c g gc n) {T : List Addr} {ρ : List (Addr × Addr)} (ok : (c.at T ρ).Ok) {st : Stmt} {ds ds' : Ds} {V V' : View} {f : PF} {P : List Prop} (h : gxB g gc n (fun b ds V => gxs g gc n b ds V) st ds V = some (f, ds', V', P)) (hP : AllP P) : SxG (c.at T ρ) st V f V' := by
  obtain ⟨gk, gco⟩ := G T ρ ok
  cases st with
  | Assign ts e pos =>
    obtain ⟨t, ht, h⟩ := ob h
    obtain ⟨tg, htg, h⟩ := ob h
    obtain ⟨hc, h⟩ := oi h
    obtain ⟨z, h1, h⟩ := ob h
    rw [one_is ht]
    exact gx_assign G ok (tgt_is htg) hc h1 h hP
  | If t b e pos =>
    obtain ⟨z, h1, h⟩ := ob h
    obtain ⟨d, ds1, Q, q1, rfl, h2, q2⟩ := sxIf_is h hP
    exact sxg_if ((pe_ok (V := V) ok gk n).t _ _ _ h1 q1) (ih.b T ρ ok _ _ _ _ _ _ _ h2 q2)
  | Return e pos => cases e with
    | some e =>
      obtain ⟨z, e1, e2⟩ := map_some h
      cases e2
      exact sxg_return (ge_sound (c := c.at T ρ) ok gk gco e1 hP)
    | none => exact no h
  | _ => exact no h
theorem gx_step (G : Gs c g gc) {n : Nat} (ih : GxK c g gc n) : ∀ T ρ, (c.at T ρ).Ok → ∀ st ds V f ds' V' P, gx g gc (n + 1) st ds V = some (f, ds', V', P) → AllP P → SxG (c.at T ρ) st V f V' := by
  intro T ρ ok st ds V f ds' V' P h hP
  have h : orS V (sx g (n + 1) st ds V) (gxB g gc n (fun b ds V => gxs g gc n b ds V) st ds V) = some (f, ds', V', P) := h
  cases h1 : sx g (n + 1) st ds V with
  | some z =>
    rw [h1] at h
    obtain ⟨zf, zd, zV, zP⟩ := z
    cases h
    rw [AllP.append] at hP
    exact ((sx_ok ok (G T ρ ok).1 _).s _ _ _ _ _ _ _ h1 hP.1).g ok hP.2.1
  | none =>
    rw [h1] at h
    exact gxB_step G ih ok h hP
theorem gx_ok (G : Gs c g gc) : ∀ n : Nat, GxK c g gc n
  | 0 => ⟨(fun _ _ _ _ _ _ _ _ _ _ h => no h), (fun _ _ _ _ _ _ _ _ _ _ h => no h)⟩
  | n + 1 => let ih := gx_ok G n; ⟨gx_step G ih, gxs_step ih⟩
end
noncomputable def gxr (g : Cfg) (gc : GC) (n : Nat) (b : List Stmt) (ds : Ds) (V : View) : Option (PF × List PO × List Prop) := (gxs g gc n b ds V).map fun z => (z.1, z.2.2.1.objs, z.2.2.2)
theorem gxr_ok {g : Cfg} {gc : GC} {n : Nat} {b : List Stmt} {ds : Ds} {V : View} {f : PF} {objs : List PO} {P : List Prop} (h : gxr g gc n b ds V = some (f, objs, P)) : ∃ ds' V', gxs g gc n b ds V = some (f, ds', V', P) ∧ V'.objs = objs := by
  obtain ⟨⟨zf, zd, zV, zP⟩, e, h⟩ := map_some h
  cases h; exact ⟨_, _, e, rfl⟩
theorem gs_of {W : Wd} {D : Nat} {scope : Scope} {t : Tabs} {po : POrc W D} {eo : Orc W D} {go : GOrc W D} {c : Fc} (ok : c.Ok) (e : c.toWd = W) (room : Room c.A.in1 D) (hD1 : 1 ≤ D) (hs : c.env.scope = scope) (ht : t.Ok W) : Gs c (mkCfg scope t po eo) go.fn := fun T ρ ok' => ⟨mkCfg_ok (c := c.at T ρ) ok' e room hD1 hs ht, go.gc (c := c.at T ρ) ok' e room⟩
/-- a def that makes objects, run straight through -/
theorem spec_runG {W : Wd} {D : Nat} {f : Addr} {ps : List PV} {kw : List (Str × PV)} {objs objs' : List PO} {fl : PF} {loc : List (Str × PV)} {t : Tabs} {po : POrc W D} {eo : Orc W D} {go : GOrc W D} {n : Nat} {ds : Ds} {P : List Prop}
    (hd : (isDef W.K f (fdOf W.K f) && hasBody (fdOf W.K f)) = true) (ht : t.Ok W)
    (hbind : ∀ (T : List Addr) (ρ : List (Addr × Addr)) (s : Shared) (vs : List Value) (kvs : List (Str × Value)), Base W.K W.N s.heap → (∀ b ∈ T, W.N ≤ b) → IsL T ρ s.heap ps vs → kvs.map (·.1) = kw.map (·.1) → IsL T ρ s.heap (kw.map (·.2)) (kvs.map (·.2)) →
      ∀ (A : Around) (E : Value → Shared → Prop) (Q : List (Str × Value) → Shared → Prop), (∀ binds s1, BindOk W T ρ (fdOf W.K f) loc s binds s1 → Q binds s1) → wpAny (model W.prog W.w) A (bindArgs (fdOf W.K f) ⟨vs, kvs⟩) Q E s)
    (run : gxr (mkCfg (fdOf W.K f).scope t po eo) go.fn n (bodyOf (fdOf W.K f)) ds ⟨loc, objs⟩ = some (fl, objs', P)) (hP : AllP P) (hD : 1 ≤ D := by decide) : SpecK W (D + 1) (.ref f) ps kw objs (retP fl) objs' := by
  obtain ⟨ds', V', run, ho⟩ := gxr_ok run
  exact call_defB (defIs_of hd) hbind fun c ok e room hs => ⟨V', (gx_ok (gs_of ok e room hD hs ht) n).b c.T c.ρ ok _ _ _ _ _ _ _ run hP, ho⟩
end M20
section M21
/-! ## a callee that turns nothing that stood -/
/-- .. whatever is numbered -/
noncomputable def SpecP (W : Wd) (D : Nat) (f : Value) (ps : List PV) (r : PV) : Prop := ∀ objs, Spec W D f ps objs r objs
theorem SpecP.le {W : Wd} {D D' : Nat} {f : Value} {ps : List PV} {r : PV} (h : SpecP W D f ps r) (hd : D ≤ D') : SpecP W D' f ps r := fun objs => (h objs).le hd
theorem spec_pure {W : Wd} {D : Nat} {f : Value} {ps : List PV} {r : PV} {objs' : List PO} (h : SpecK W D f ps [] [] r objs') (hp : PV.ltL 0 ps = true) (hr : r.lt 0 = true) : SpecP W D f ps r := by
  rintro objs c ok rfl room s vs Q E B live frs O ia hq
  let c0 : Fc := { c with ρ := [] }
  have ok0 : c0.Ok := ⟨⟨fun b hb => ok.fx.mem b (by rcases List.mem_cons.mp hb with rfl | hb; exact .head _; cases hb), by show [c.L].Nodup; simp, ok.fx.low⟩, ok.kind, ok.loc, ok.glb, ok.blt, ok.lowK, ok.lo⟩
  have ia0 : IsL c.T [] s.heap ps vs := IsL.back (T := c.T) (T' := c.T) (ρ := []) (ν := c.ρ) (fun _ h => h) (by simpa using ia) hp
  refine wpAny_call (h c0 ok0 rfl room s vs [] _ B live frs (fun k po e => by simp at e) rfl ia0 rfl .nil fun s' v T ρ g l st B' F' live' O' i' => ?_)
  have st0 : St c.N [] s s' := ⟨st.keep, st.gens, st.os⟩
  refine hq s' v st0.all B' F' (fun k po e => (O k po e).keep st0.keep (fun _ _ _ z => nomatch z) (fun _ z => nomatch z) st0.keep.all) ?_
  obtain ⟨ν, e1, _⟩ := g.ext
  have e1 : ρ = [] ++ ν := e1
  subst e1
  have i0 : Is c.T [] s'.heap r v := Is.back (T := c.T) (ρ := []) (fun b hb => g.sub b hb) i' hr
  have := Is.grow (T := c.T) (T' := c.T) (ρ := []) (ν := c.ρ) (fun b hb => .inl hb) i0
  simpa using this
/-- an oracle: a callee by a function of its arguments -/
noncomputable def POrc.fn1 {W : Wd} {D : Nat} {f : Value} (hk : keepOk W.K f = true) (F : List PV → VP) (h : ∀ ps r P, F ps = some (r, P) → AllP P → SpecP W D f ps r) : POrc W D := ⟨fun f' ps objs => if f' = f then F ps else .none, fun f' ps objs r P e => by
  split at e
  · rename_i g; subst g
    exact ⟨hk, fun hP => h _ _ _ e hP objs⟩
  · cases e⟩
end M21
section G1
/-! ## a generator expression over a list of texts -/
/-- what a turn wants of the state -/
structure GPre (W : Wd) (A : Around) (C I l : Addr) (vs : List Value) (i : Nat) (s : Shared) : Prop where
  base : Base W.K W.N s.heap
  frs : Frs W.N A s.heap
  it : s.heap.IsListIter I l i
  list : s.heap.IsList l vs.toArray
  fr : ∃ m, FrameAt s.heap C m
theorem keep_iter {N : Nat} {F : List Addr} {h h' : Heap} {I l i : Nat} (k : Keep N F h h') (n : I ∉ F) (x : h.IsListIter I l i) : h'.IsListIter I l i := by
  obtain ⟨o, e, c, d⟩ := x
  exact ⟨o, k.exact n e (by rw [c]; decide) (by rw [c]; decide), c, d⟩
theorem keep_list {N : Nat} {F : List Addr} {h h' : Heap} {l : Nat} {vs : Array Value} (k : Keep N F h h') (n : l ∉ F) (x : h.IsList l vs) : h'.IsList l vs := by
  obtain ⟨o, e, c, d⟩ := x
  exact ⟨o, k.exact n e (by rw [c]; decide) (by rw [c]; decide), c, d⟩
/-- a step beside all of it -/
theorem GPre.aside {W : Wd} {A : Around} {C I l : Addr} {vs : List Value} {i : Nat} {s s' : Shared} {S : Addr} (lk : lowK W.K W.N = true) (lo : builtinsNs < W.N ∧ cStatics < W.N) (p : GPre W A C I l vs i s) (hS : W.N ≤ S) (hC : C ≠ S) (hI : I ≠ S) (hl : l ≠ S) (hf : ∃ o, s.heap.get? S = some o ∧ o.cls ≠ .type "frame") (k : Keep W.N [S] s.heap s'.heap) : GPre W A C I l vs i s' := by
  have ns : ∀ {x : Addr}, x ≠ S → x ∉ [S] := fun h z => h (List.mem_singleton.mp z)
  obtain ⟨m, fr⟩ := p.fr
  exact ⟨p.base.keep (T := [S]) lk (fun b hb => by rcases List.mem_singleton.mp hb with rfl; exact hS) lo k, p.frs.one k (.inl hf), keep_iter k (ns hI) p.it, keep_list k (ns hl) p.list, m, k.frame (ns hC) fr⟩
/-- what a step of the generator keeps -/
structure GStep (W : Wd) (C I : Addr) (s s' : Shared) : Prop where
  off : ∀ b o, b ≠ C → b ≠ I → s.heap.get? b = some o → Same W.N b o (s'.heap.get? b)
  there : ∀ b o, b ≠ I → s.heap.get? b = some o → ∃ o', s'.heap.get? b = some o'
  gens : Gn s.gens s'.gens
  os : s'.os = s.os
theorem GStep.refl {W : Wd} {C I : Addr} (s : Shared) : GStep W C I s s := ⟨fun _ _ _ _ e => by rw [e]; exact .same, fun _ o _ e => ⟨o, e⟩, .refl _, rfl⟩
theorem GStep.trans {W : Wd} {C I : Addr} {s s' s'' : Shared} (x : GStep W C I s s') (y : GStep W C I s' s'') : GStep W C I s s'' :=
  ⟨fun b o h1 h2 e => (x.off b o h1 h2 e).trans fun o' e' => y.off b o' h1 h2 e', fun b o h e => let ⟨o', e'⟩ := x.there b o h e; y.there b o' h e', x.gens.trans y.gens, y.os.trans x.os⟩
theorem GStep.of {W : Wd} {C I : Addr} {F : List Addr} {s s' : Shared} (x : St W.N F s s') (h : ∀ b ∈ F, b = C ∨ b = I) : GStep W C I s s' :=
  ⟨fun b o h1 h2 e => x.keep.off b o (fun z => by rcases h b z with q | q; exact h1 q; exact h2 q) e, fun b o _ e => x.keep.there b o e, x.gens, x.os⟩
/-- the protocol of the generator: the items' texts -/
noncomputable def gProto (W : Wd) (A : Around) (C I l : Addr) (vs : List Value) (ts : List Str) (f : Str → Str) : Protocol := fun m s₀ v s kap =>
  ∃ i, ts.length = i + 1 + m ∧ GStep W C I s₀ s ∧ (∃ x t, ts[i]? = some x ∧ v = .str (f x) t) ∧ GPre W A C I l vs (i + 1) s ∧ ∀ s'', GPre W A C I l vs (i + 1) s'' → kap (.send .none) s''
noncomputable abbrev GFin (W : Wd) (A : Around) (C I l : Addr) (vs : List Value) : GenEnd := fun n s₀ r s₁ => r = .ok .next ∧ n = 0 ∧ GStep W C I s₀ s₁ ∧ Base W.K W.N s₁.heap ∧ Frs W.N A s₁.heap
structure GEnv (W : Wd) (C I : Addr) (cenv : Env) (x : Str) : Prop where
  loc : cenv.locals = C
  fr : cenv.frame = some C
  kind : cenv.scope.kind = .function
  glb : cenv.globals = mainGlobals
  blt : cenv.builtins = builtinsNs
  co : cenv.scope.isCoroutine = false
  x : cenv.kindOf x = some .local
  lowK : lowK W.K W.N = true
  lo : builtinsNs < W.N ∧ cStatics < W.N
  low : W.N ≤ C
  lowI : W.N ≤ I
/-- what the element gives -/
noncomputable def GElt (W : Wd) (D : Nat) (cenv : Env) (x : Str) (elt : Expr) (ts : List Str) (f : Str → Str) : Prop := ∀ c : Fc, c.Ok → c.toWd = W → Room c.A D → c.env.scope = cenv.scope → ∀ t ∈ ts, EvOk c elt ⟨[(x, .s t)], []⟩ (.s (f t)) ⟨[(x, .s t)], []⟩
section
variable {W : Wd} {A : Around} {C I l : Addr} {vs : List Value} {ts : List Str} {f : Str → Str} {cenv : Env} {x : Str} {D : Nat}
theorem frs_in (Ev : GEnv W C I cenv x) {h : Heap} {m : Str → Option Value} {A' : Around} (F : Frs W.N A h) (fr : FrameAt h C m) (hA : A'.frames = A.frames.map (cenv :: ·)) : Frs W.N A' h := by
  obtain ⟨fs, e, hf⟩ := F
  refine ⟨cenv :: fs, by rw [hA, e]; rfl, fun env he => ?_⟩
  rcases List.mem_cons.mp he with rfl | he
  · exact ⟨by rw [Ev.kind]; decide, C, m, Ev.fr, Ev.low, fr⟩
  · exact hf env he
theorem frs_out {h : Heap} {A' : Around} (F : Frs W.N A' h) (hA : A'.frames = A.frames.map (cenv :: ·)) (hs : A.frames.isSome = true) : Frs W.N A h := by
  obtain ⟨fs, e, hf⟩ := F
  obtain ⟨fs0, e0⟩ := Option.isSome_iff_exists.mp hs
  rw [hA, e0] at e
  cases e
  exact ⟨fs0, e0, fun env he => hf env (.tail _ he)⟩
theorem strs_get {vs : List Value} {ts : List Str} (h : StrsAre vs ts) {i : Nat} {t : Str} (e : ts[i]? = some t) : ∃ u, vs[i]? = some (.str t u) := StrsAre.get h i t e
theorem base_frs_off (Ev : GEnv W C I cenv x) {i : Nat} {s : Shared} {h' : Heap} (P : GPre W A C I l vs i s) (xb : Heap.ExtBut I s.heap h') : Base W.K W.N h' ∧ Frs W.N A h' := by
  have ns : ∀ {L : Addr} {m : Str → Option Value}, L ≠ I → s.heap.Ns L m → h'.Ns L m := fun hL hn => hn.at' fun o e => xb _ o hL e
  refine ⟨⟨fun a o e => xb a o (Nat.ne_of_lt (Nat.lt_of_lt_of_le (lowK_at Ev.lowK e).1 Ev.lowI)) (P.base.k a o e), ?_, ?_, fun a o q e t => ?_⟩, ?_⟩
  · obtain ⟨mb, h1, h2⟩ := P.base.b
    exact ⟨mb, ns (Nat.ne_of_lt (Nat.lt_of_lt_of_le Ev.lo.1 Ev.lowI)) h1, h2⟩
  · exact P.base.lim.extBut xb (Nat.ne_of_lt (Nat.lt_of_lt_of_le Ev.lo.2 Ev.lowI))
  · obtain ⟨ps, h1, h2⟩ := P.base.tab a o q e t
    exact ⟨ps, xb _ _ (Nat.ne_of_lt (Nat.lt_of_lt_of_le ((lowK_at Ev.lowK e).2.2 q t).1 Ev.lowI)) h1, h2⟩
  · obtain ⟨oI, eI, cI, _⟩ := P.it
    obtain ⟨fs, e, hf⟩ := P.frs
    refine ⟨fs, e, fun env he => ?_⟩
    obtain ⟨h1, L, m, h2, h3, h4⟩ := hf env he
    have hL : L ≠ I := fun q => by
      subst q
      obtain ⟨o, ho, hc⟩ := h4.cls
      rw [eI] at ho; cases ho
      rw [cI] at hc; exact absurd hc (by decide)
    obtain ⟨o, ho, hc⟩ := h4.cls
    exact ⟨h1, L, m, h2, h3, ns hL h4.ns, o, xb _ o hL ho, hc⟩
/-- the generator's frame -/
noncomputable abbrev genC (W : Wd) (A : Around) (cenv : Env) (C : Addr) : Fc := { toWd := W, A := A, env := cenv, T := [C], ρ := [], L := C }
theorem gen_ok (Ev : GEnv W C I cenv x) : (genC W A cenv C).Ok := ⟨⟨fun b hb => hb, by show [C].Nodup; simp, fun b hb => by rcases List.mem_singleton.mp hb with rfl; exact Ev.low⟩, Ev.kind, Ev.loc, Ev.glb, Ev.blt, Ev.lowK, Ev.lo⟩
theorem gen_keep {h h₁ h₂ : Heap} (kI : Keep W.N [I] h h₁) (kC : Keep W.N [C] h₁ h₂) : Keep W.N [C, I] h h₂ := (kI.sub (fun b hb => by rcases List.mem_singleton.mp hb with rfl; exact .tail _ (.head _))).trans (kC.sub fun b hb => by rcases List.mem_singleton.mp hb with rfl; exact .head _)
theorem gen_in {A' : Around} {h₁ h₂ : Heap} {i n : Nat} {s : Shared} {t : Str} {u : Tok} {m : Str → Option Value} (Ev : GEnv W C I cenv x) (hA : A'.frames = A.frames.map (cenv :: ·)) (P : GPre W A C I l vs i s) (kI : Keep W.N [I] s.heap h₁) (kC : Keep W.N [C] h₁ h₂) (fr₂ : FrameAt h₂ C (fun y => if y = x then some (.str t u) else m y)) : Inv (genC W A' cenv C) ⟨[(x, .s t)], []⟩ { s with heap := h₂, toks := n } := by
  have F₁ : Frs W.N A h₁ := P.frs.one kI (.inl (by obtain ⟨o, e, c, _⟩ := P.it; exact ⟨o, e, by rw [c]; decide⟩))
  refine ⟨⟨⟨_, fr₂, fun y p e => ?_⟩, fun k po e => no e⟩, P.base.keep Ev.lowK (fun b hb => ?_) Ev.lo (gen_keep kI kC), fun b hb => ?_, frs_in Ev (F₁.one kC (.inr ⟨_, fr₂⟩)) fr₂ hA⟩
  · have e : (match y == x with | true => some (PV.s t) | false => none) = some p := e
    by_cases g : y = x
    · rw [beq_iff_eq.mpr g] at e; cases e
      exact ⟨.str t u, if_pos g, .s _ _⟩
    · rw [beq_eq_false_iff_ne.mpr g] at e; exact no e
  · rcases List.mem_cons.mp hb with rfl | hb
    · exact Ev.low
    · rcases List.mem_singleton.mp hb with rfl; exact Ev.lowI
  · rcases List.mem_singleton.mp hb with rfl
    obtain ⟨o, e, _⟩ := fr₂.cls
    exact ⟨o, e⟩
theorem gen_out {A' : Around} {h₁ h₂ : Heap} {i n : Nat} {s₀ s s₃ : Shared} {V : View} (Ev : GEnv W C I cenv x) (hfr : A.frames.isSome = true) (hA : A'.frames = A.frames.map (cenv :: ·)) (hCI : C ≠ I) (hCl : C ≠ l) (hIl : I ≠ l) (P : GPre W A C I l vs i s) (it₁ : h₁.IsListIter I l (i + 1)) (kI : Keep W.N [I] s.heap h₁) (kC : Keep W.N [C] h₁ h₂) (st : GStep W C I s₀ s)
    (I₃ : Inv (genC W A' cenv C) V s₃) (t₃ : St W.N [C] { s with heap := h₂, toks := n } s₃) : GPre W A C I l vs (i + 1) s₃ ∧ GStep W C I s₀ s₃ := by
  obtain ⟨m₃, fr₃, _⟩ := I₃.rep.ns
  have kIs := gen_keep kI kC
  refine ⟨⟨I₃.base, frs_out I₃.frs hA hfr, keep_iter t₃.keep (fun z => hCI (List.mem_singleton.mp z).symm) (keep_iter kC (fun z => hCI (List.mem_singleton.mp z).symm) it₁), keep_list t₃.keep (fun z => hCl (List.mem_singleton.mp z).symm) (keep_list kIs (fun z => ?_) P.list), m₃, fr₃⟩, st.trans ((GStep.of (s' := { s with heap := h₂, toks := n }) ⟨kIs, .refl _, rfl⟩ (fun b hb => ?_)).trans (GStep.of t₃ (fun b hb => .inl (List.mem_singleton.mp hb))))⟩
  · rcases List.mem_cons.mp z with z | z
    · exact hCl z.symm
    · exact hIl (List.mem_singleton.mp z).symm
  · rcases List.mem_cons.mp hb with z | z
    · exact .inl z
    · exact .inr (List.mem_singleton.mp z)
theorem gen_end (Ev : GEnv W C I cenv x) {i : Nat} {s₀ s : Shared} {h' : Heap} (P : GPre W A C I l vs i s) (st : GStep W C I s₀ s) (xb : Heap.ExtBut I s.heap h') : GFin W A C I l vs 0 s₀ (.ok .next) { s with heap := h' } := by
  refine ⟨rfl, rfl, st.trans ⟨fun b o _ h2 e => ?_, fun b o hb e => ⟨o, xb b o hb e⟩, .refl _, rfl⟩, base_frs_off Ev P xb⟩
  show Same _ _ _ (h'.get? b)
  rw [xb b o h2 e]; exact .same
theorem gen_seg {elt iter : Expr} {px : Pos} {scope : Scope} {pos : Pos} (hh : A.handled = none) (hfr : A.frames.isSome = true) (Ev : GEnv W C I cenv x) (hts : StrsAre vs ts) (hCI : C ≠ I) (hCl : C ≠ l) (hIl : I ≠ l)
    (room : Room (A.over (.compLoop (.GeneratorExp elt [⟨.Name x px, iter, [], 0⟩] scope pos) 0 (.ref I) .none cenv) []) D) (he : GElt W D cenv x elt ts f) :
    ∀ (k i : Nat) (s₀ s : Shared), ts.length - i = k → i ≤ ts.length → GPre W A C I l vs i s → GStep W C I s₀ s →
      Seg (model W.prog W.w) A (GFin W A C I l vs) (gProto W A C I l vs ts f) (ts.length - i) s₀ (.compLoop (.GeneratorExp elt [⟨.Name x px, iter, [], 0⟩] scope pos) 0 (.ref I) .none cenv)
        ((model W.prog W.w).den (.compLoop (.GeneratorExp elt [⟨.Name x px, iter, [], 0⟩] scope pos) 0 (.ref I) .none cenv)) [] s := by
  intro k
  have hlen : vs.length = ts.length := hts.length
  induction k with
  | zero =>
    intro i s₀ s hk hi P st
    have hin : i = ts.length := Nat.le_antisymm hi (Nat.sub_eq_zero_iff_le.mp hk)
    rw [hk]
    show Seg _ A _ _ _ s₀ _ ((compTurn (.GeneratorExp elt [⟨.Name x px, iter, [], 0⟩] scope pos) 0 (.ref I) .none cenv).onRaise (leaving cenv)) [] s
    rw [compTurn_gen, Sem.onRaise_eq_wrap]
    refine seg_bind_wrap (wpAny_standAt ?_)
    refine seg_bind_wrap (wpAny_pyNext_list_end hh P.it P.list (by simp [hlen, hin]) fun h' xb => ?_)
    exact seg_end (.ok .next) (gen_end Ev P st xb)
  | succ k ih =>
    intro i s₀ s hk hi P st
    have hlt : i < ts.length := nlt hk
    show Seg _ A _ _ _ s₀ _ ((compTurn (.GeneratorExp elt [⟨.Name x px, iter, [], 0⟩] scope pos) 0 (.ref I) .none cenv).onRaise (leaving cenv)) [] s
    rw [compTurn_gen, Sem.onRaise_eq_wrap]
    refine seg_bind_wrap (wpAny_standAt ?_)
    obtain ⟨u, hv⟩ := strs_get hts (List.getElem?_eq_getElem hlt)
    refine seg_bind_wrap (wpAny_pyNext_list_item P.it P.list (x := .str ts[i] u) (by simpa using hv) fun h₁ it₁ sb₁ => ?_)
    refine seg_bind_wrap (wpAny_of_eq (rfl : letOwnedTupleGo (.Name x px) (.ref I) _ = pure ()) ?_)
    refine seg_bind_wrap (assign_Name ?_)
    have hp : (cenv.scope.kind == .class || (cenv.scope.kind == .module && cenv.locals != cenv.globals)) = false := by rw [Ev.kind]; rfl
    rw [storeName_local Ev.x hp, Ev.loc]
    obtain ⟨m, fr⟩ := P.fr
    have kI : Keep W.N [I] s.heap h₁ := by
      obtain ⟨o1, e1, _⟩ := it₁
      exact .sameBut sb₁ e1 (.head _)
    have fr₁ : FrameAt h₁ C m := kI.frame (fun z => hCI (List.mem_singleton.mp z)) fr
    refine nsSet_frame fr₁ fun h₂ fr₂ sb₂ => ?_
    have kC : Keep W.N [C] h₁ h₂ := by
      obtain ⟨o2, e2, _⟩ := fr₂.cls
      exact .sameBut sb₂ e2 (.head _)
    simp only [List.forIn_nil]
    refine seg_bind_wrap (wpAny_pure ?_)
    simp only [if_true]
    have hy : ∀ v, yieldOut cenv v = yieldValue v := fun v => by simp only [yieldOut, Ev.co, Bool.false_eq_true, if_false]
    simp only [hy]
    rw [Sem.bind_eq_wrap', Sem.bind_eq_wrap', Sem.wrap_wrap, Sem.wrap_wrap, npred hlt]
    refine seg_wrap (he (genC W _ cenv C) (gen_ok Ev) rfl room rfl ts[i] (List.getElem_mem hlt) _ _ _ (gen_in Ev rfl P kI kC fr₂) fun s₃ v I₃ t₃ i₃ => ?_)
    obtain ⟨t, rfl⟩ := i₃.is
    obtain ⟨P₃, st₃⟩ := gen_out Ev hfr rfl hCI hCl hIl P it₁ kI kC st I₃ t₃
    refine seg_at (seg_yield rfl rfl rfl ⟨i, nsum hlt, st₃, ⟨ts[i], t, List.getElem?_eq_getElem hlt, rfl⟩, P₃, fun s'' P'' => ?_⟩)
    exact seg_again rfl (ih (i + 1) s'' s'' (nsub hk) hlt P'' (.refl _))
end
end G1
section G2
/-! ## the generator's turns, seen from without -/
/-- the generator stands before its item i -/
structure GAt (W : Wd) (A : Around) (C I l : Addr) (vs : List Value) (ts : List Str) (f : Str → Str) (a g i : Nat) (s : Shared) : Prop where
  gen : s.heap.IsGen a g
  st : ∃ gs, s.gens[g]? = some gs ∧ ∀ s'', GPre W A.in1 C I l vs i s'' → gs.Goes (model W.prog W.w) A.in1 (GFin W A.in1 C I l vs) (gProto W A.in1 C I l vs ts f) (ts.length - i) (.send .none) s''
/-- the other generators -/
structure Gb (g : Nat) (a b : Array GenState) : Prop where
  size : a.size ≤ b.size
  old : ∀ k, k ≠ g → k < a.size → b[k]? = a[k]?
  bare : (∀ k y, k ≠ g → a[k]? = some y → y.bare = true) → ∀ k y, k ≠ g → b[k]? = some y → y.bare = true
theorem Gb.trans {g : Nat} {a b c : Array GenState} (x : Gb g a b) (y : Gb g b c) : Gb g a c := ⟨Nat.le_trans x.size y.size, fun k h1 h => (y.old k h1 (Nat.lt_of_lt_of_le h x.size)).trans (x.old k h1 h), fun h => y.bare (x.bare h)⟩
theorem setGen_size (s : Shared) (g : Nat) (x : GenState) : (s.setGen g x).gens.size = s.gens.size := by simp [Shared.setGen]
theorem setGen_other (s : Shared) {g k : Nat} (x : GenState) (h : k ≠ g) : (s.setGen g x).gens[k]? = s.gens[k]? := by simp [Shared.setGen, Ne.symm h]
/-- what lies between two stops -/
theorem Gb.of {g : Nat} {s s₁ : Shared} {x : GenState} {gs : GenState} (hg : s.gens[g]? = some gs) (h : Gn (s.setGen g .running).gens s₁.gens) : Gb g s.gens (s₁.setGen g x).gens := by
  have hlt : g < s.gens.size := (Array.getElem?_eq_some_iff.mp hg).1
  refine ⟨?_, fun k hk hlt' => ?_, fun hb k y hk hy => ?_⟩
  · rw [setGen_size]; have := h.size; rwa [setGen_size] at this
  · rw [setGen_other _ _ hk, h.old k (by rw [setGen_size]; exact hlt'), setGen_other _ _ hk]
  · rw [setGen_other _ _ hk] at hy
    refine h.bare (fun y hy => ?_) y (Array.mem_of_getElem? hy)
    obtain ⟨j, hj⟩ := Array.getElem?_of_mem hy
    by_cases g' : j = g
    · subst g'
      rw [setGen_self hg] at hj
      cases hj; rfl
    · rw [setGen_other _ _ g'] at hj
      exact hb j y g' hj
/-- what a turn keeps, seen from without -/
structure CStep (W : Wd) (C I : Addr) (g : Nat) (s s' : Shared) : Prop where
  off : ∀ b o, b ≠ C → b ≠ I → s.heap.get? b = some o → Same W.N b o (s'.heap.get? b)
  there : ∀ b o, b ≠ I → s.heap.get? b = some o → ∃ o', s'.heap.get? b = some o'
  gens : Gb g s.gens s'.gens
  os : s'.os = s.os
theorem Same.isGen {N a g : Nat} {o : Obj} {r : Option Obj} (x : Same N a o r) (h1 : o.cls ≠ .type "frame") (h2 : o.cls ≠ .none) : r = some o := by
  cases x with
  | same => rfl
  | slots sl _ hc => exact absurd hc h1
  | tab vs more lt q tr => exact absurd (congrArg Obj.cls q) h2
theorem CStep.exact {W : Wd} {C I : Addr} {g : Nat} {s s' : Shared} (x : CStep W C I g s s') {b : Addr} {o : Obj} (h1 : b ≠ C) (h2 : b ≠ I) (e : s.heap.get? b = some o) (c1 : o.cls ≠ .type "frame") (c2 : o.cls ≠ .none) : s'.heap.get? b = some o := (x.off b o h1 h2 e).isGen (g := 0) c1 c2
section
variable {W : Wd} {A : Around} {C I l : Addr} {vs : List Value} {ts : List Str} {f : Str → Str} {cenv : Env} {x : Str} {D a g : Nat}
theorem step_gen {s s₁ : Shared} (h : GStep W C I s s₁) (ha : a ≠ C) (hI : a ≠ I) (x : s.heap.IsGen a g) : s₁.heap.IsGen a g := by
  obtain ⟨o, nm, qn, e, hc, r⟩ := x
  exact ⟨o, nm, qn, (h.off a o ha hI e).isGen (g := 0) (by rw [hc]; decide) (by rw [hc]; decide), hc, r⟩
theorem gen_item (hh : A.handled = none) (hd : A.depth < recursionLimit) (ha : a ≠ C) (hI : a ≠ I) {i : Nat} (hi : i < ts.length) {s : Shared} {Q : Option Value → Shared → Prop} {E : Value → Shared → Prop} (G : GAt W A C I l vs ts f a g i s) (P : GPre W A.in1 C I l vs i s)
    (h : ∀ s' t, GAt W A C I l vs ts f a g (i + 1) s' → GPre W A.in1 C I l vs (i + 1) s' → CStep W C I g s s' → Q (some (.str (f ts[i]) t)) s') : wpAny (model W.prog W.w) A (pyNext (.ref a)) Q E s := by
  obtain ⟨gs, hg, hgo⟩ := G.st
  have P' : GPre W A.in1 C I l vs i (s.setGen g .running) := ⟨P.base, P.frs, P.it, P.list, P.fr⟩
  obtain ⟨m, hm⟩ : ∃ m, ts.length - i = m + 1 := ⟨ts.length - (i + 1), npred hi⟩
  have go := hgo _ P'
  rw [hm] at go
  refine wpAny_pyNext_genexp (n := m + 1) hh P.base.lim hd G.gen hg (P := fun n s₀ s₁ => n = 0 ∧ GStep W C I s₀ s₁ ∧ Base W.K W.N s₁.heap ∧ Frs W.N A.in1 s₁.heap) go (fun v s₁ gs' hY => ?_) (fun s₁ hP => ?_)
  · obtain ⟨i', e1, st, ⟨t, u, e2, rfl⟩, P₁, hk⟩ := hY
    have : i' = i := nsum_eq hm e1
    subst this
    have et : t = ts[i'] := by rw [List.getElem?_eq_getElem hi] at e2; exact (Option.some.inj e2).symm
    subst et
    have hg1 : s₁.gens[g]? = some .running := by
      have hlt : g < s.gens.size := (Array.getElem?_eq_some_iff.mp hg).1
      rw [st.gens.old g (by rw [setGen_size]; exact hlt)]
      exact setGen_self hg
    refine h (s₁.setGen g gs') u ⟨step_gen (s := s.setGen g .running) (s₁ := s₁) st ha hI G.gen, gs', setGen_self hg1, fun s'' P'' => ?_⟩ ⟨P₁.base, P₁.frs, P₁.it, P₁.list, P₁.fr⟩ ⟨st.off, st.there, .of hg st.gens, st.os⟩
    have : ts.length - (i' + 1) = m := nsub hm
    rw [this]
    exact hk s'' P''
  · exact absurd hP.1 (Nat.succ_ne_zero m)
theorem gen_done (hh : A.handled = none) (hd : A.depth < recursionLimit) {s : Shared} {Q : Option Value → Shared → Prop} {E : Value → Shared → Prop} (lk : lowK W.K W.N = true) (lo : builtinsNs < W.N ∧ cStatics < W.N) (G : GAt W A C I l vs ts f a g ts.length s) (P : GPre W A.in1 C I l vs ts.length s)
    (h : ∀ s', Base W.K W.N s'.heap → Frs W.N A s'.heap → s'.gens[g]? = some .finished → CStep W C I g s s' → Q none s') : wpAny (model W.prog W.w) A (pyNext (.ref a)) Q E s := by
  obtain ⟨gs, hg, hgo⟩ := G.st
  have P' : GPre W A.in1 C I l vs ts.length (s.setGen g .running) := ⟨P.base, P.frs, P.it, P.list, P.fr⟩
  have go := hgo _ P'
  rw [Nat.sub_self] at go
  refine wpAny_pyNext_genexp (n := 0) hh P.base.lim hd G.gen hg (P := fun n s₀ s₁ => n = 0 ∧ GStep W C I s₀ s₁ ∧ Base W.K W.N s₁.heap ∧ Frs W.N A.in1 s₁.heap) go (fun v s₁ gs' hY => ?_) (fun s₁ hP h' hk => ?_)
  · obtain ⟨i', e1, _, _, P₁, hk⟩ := hY
    exact (hk s₁ P₁).elim
  · obtain ⟨_, st, B, F⟩ := hP
    have k : Keep W.N [] s₁.heap h' := .of_all hk
    have hg1 : s₁.gens[g]? = some .running := by
      have hlt : g < s.gens.size := (Array.getElem?_eq_some_iff.mp hg).1
      rw [st.gens.old g (by rw [setGen_size]; exact hlt)]
      exact setGen_self hg
    refine h { s₁.setGen g .finished with heap := h' } (B.keep (T := []) lk (fun _ z => nomatch z) lo k) (F.keep k) (setGen_self (x := .finished) hg1) ⟨fun b o h1 h2 e => (st.off b o h1 h2 e).trans fun o' e' => k.off b o' (fun z => nomatch z) e', fun b o hb e => let ⟨o', e'⟩ := st.there b o hb e; k.there b o' e', .of hg st.gens, st.os⟩
/-! ### the texts are gathered -/
theorem gather (hh : A.handled = none) (hd : A.depth < recursionLimit) (lk : lowK W.K W.N = true) (lo : builtinsNs < W.N ∧ cStatics < W.N) (ha : a ≠ C) (hI : a ≠ I) (hz : ts.length ≤ 1000000) {S : Addr} (hSN : W.N ≤ S) (hSC : C ≠ S) (hSI : I ≠ S) (hSl : l ≠ S) (hSa : a ≠ S) {R : Result → Shared → Prop} (res : Value) :
    ∀ (k i : Nat) (s : Shared) (acc : List (Str × Tok)) (c : Nat), ts.length - i = k → i ≤ ts.length → GAt W A.in1 C I l vs ts f a g i s → GPre W A.in1.in1 C I l vs i s → s.heap.get? S = some { cls := .type "list", data := .seq (strValues acc).toArray c } → acc.map (·.1) = (ts.take i).map f →
      (∀ s' acc' c', Base W.K W.N s'.heap → Frs W.N A s'.heap → s'.gens[g]? = some .finished → (∀ b o, b ≠ C → b ≠ I → b ≠ S → s.heap.get? b = some o → Same W.N b o (s'.heap.get? b)) → (∀ b o, b ≠ I → s.heap.get? b = some o → ∃ o', s'.heap.get? b = some o') → Gb g s.gens s'.gens → s'.os = s.os → s'.heap.get? S = some { cls := .type "list", data := .seq (strValues acc').toArray c' } → acc'.map (·.1) = ts.map f → R (.ok (.ret res)) s') →
      codeAny (model W.prog W.w) A (.builtin "list.extend.loop" ⟨[.ref S, .ref a, res], []⟩) R s := by
  have hd1 : A.in1.depth < recursionLimit := hd
  intro k
  induction k with
  | zero =>
    intro i s acc c hk hi G P hS hacc hq
    have hin : i = ts.length := nend hk hi
    subst hin
    refine codeAny_builtin F.entry_extend_loop ?_
    rw [Around.under_plainId F.plain_extend_loop _]
    show wpAny _ A.in1 (pyNext (.ref a) >>= _) _ _ s
    refine wpAny_bind (gen_done (A := A.in1) hh hd1 lk lo G P fun s' B' F' hg st => ?_)
    refine wpAny_pure (hq s' acc c B' F' hg (fun b o h1 h2 _ e => st.off b o h1 h2 e) st.there st.gens st.os (st.exact hSC.symm hSI.symm hS (show Value.type "list" ≠ Value.type "frame" by decide) (show Value.type "list" ≠ Value.none by decide)) ?_)
    rw [hacc, List.take_length]
  | succ k ih =>
    intro i s acc c hk hi G P hS hacc hq
    have hlt : i < ts.length := nlt hk
    refine codeAny_builtin F.entry_extend_loop ?_
    rw [Around.under_plainId F.plain_extend_loop _]
    show wpAny _ A.in1 (pyNext (.ref a) >>= _) _ _ s
    refine wpAny_bind (gen_item (A := A.in1) hh hd1 ha hI hlt G P fun s' t G' P' st => ?_)
    have hS' := st.exact hSC.symm hSI.symm hS (show Value.type "list" ≠ Value.type "frame" by decide) (show Value.type "list" ≠ Value.none by decide)
    have hlen : acc.length = i := by
      rw [← List.length_map (f := (·.1)), hacc, List.length_map, List.length_take, Nat.min_eq_left hi]
    have hl2 : (strValues acc).length = acc.length := by unfold strValues; simp
    show wpAny _ A.in1 (updateSeq S (·.push (.str (f ts[i]) t)) >>= _) _ _ _
    refine wpAny_bind ?_
    refine wpAny_updateSeq hS' rfl ?_ (by rw [List.size_toArray, hl2, hlen]; exact Nat.le_trans hi (Nat.le_trans hz sizeM)) (by rw [Array.size_push, List.size_toArray, hl2, hlen]; exact Nat.succ_le_succ (Nat.le_trans hi (Nat.le_trans hz sizeM)))
    have hS2 := Heap.get?_update_self (Obj.mapSeq (·.push (.str (f ts[i]) t))) hS' rfl
    have sb : Heap.SameBut S s'.heap (s'.heap.update S (Obj.mapSeq (·.push (.str (f ts[i]) t)))) := Heap.SameBut.update ..
    have kS : Keep W.N [S] s'.heap (s'.heap.update S (Obj.mapSeq (·.push (.str (f ts[i]) t)))) := .sameBut sb hS2 (.head _)
    have P'' : GPre W A.in1.in1 C I l vs (i + 1) { s' with heap := s'.heap.update S (Obj.mapSeq (·.push (.str (f ts[i]) t))) } := P'.aside lk lo hSN hSC hSI hSl ⟨_, hS', show Value.type "list" ≠ Value.type "frame" by decide⟩ kS
    have G'' : GAt W A.in1 C I l vs ts f a g (i + 1) { s' with heap := s'.heap.update S (Obj.mapSeq (·.push (.str (f ts[i]) t))) } := ⟨by
      obtain ⟨o, nm, qn, e, hc, r⟩ := G'.gen
      exact ⟨o, nm, qn, (sb.2 a hSa).trans e, hc, r⟩, G'.st⟩
    have ea : ((strValues acc).toArray.push (.str (f ts[i]) t)) = (strValues (acc ++ [(f ts[i], t)])).toArray := by unfold strValues; simp
    have hS3 : (s'.heap.update S (Obj.mapSeq (·.push (.str (f ts[i]) t)))).get? S = some { cls := .type "list", data := .seq (strValues (acc ++ [(f ts[i], t)])).toArray (c + 1) } := by
      rw [hS2, mapSeq_push, ea]
    refine wpAny_pure ⟨plainId_quiet F.plain_extend_loop _, ih (i + 1) _ _ _ (nsub hk) hlt G'' P'' hS3 ?_ fun s'' acc' c' B'' F'' hg off there gens os hS'' hacc' => ?_⟩
    · rw [List.map_append, hacc, List.take_succ_eq_append_getElem hlt, List.map_append]; rfl
    · refine hq s'' acc' c' B'' F'' hg (fun b o h1 h2 h3 e => ?_) (fun b o hb e => ?_) (st.gens.trans gens) (os.trans st.os) hS'' hacc'
      · refine (st.off b o h1 h2 e).trans fun o' e' => off b o' h1 h2 h3 ?_
        exact (sb.2 b h3).trans e'
      · obtain ⟨o', e'⟩ := st.there b o hb e
        obtain ⟨o2, e2⟩ := kS.there b o' e'
        exact there b o2 hb e2
end
end G2
section G3
section
variable {W : Wd} {A : Around} {C I l : Addr} {vs : List Value} {ts : List Str} {f : Str → Str} {cenv : Env} {x : Str} {D a g : Nat}
/-- the list of what the generator gives -/
theorem collect_gen {s : Shared} {Q : List Value → Shared → Prop} {E : Value → Shared → Prop} (hh : A.handled = none) (hd : A.depth < recursionLimit) (lk : lowK W.K W.N = true) (lo : builtinsNs < W.N ∧ cStatics < W.N) (ha : a ≠ C) (hI : a ≠ I) (hz : ts.length ≤ 1000000) (hN : W.N ≤ C) (G : GAt W A.in1 C I l vs ts f a g 0 s) (P : GPre W A.in1.in1 C I l vs 0 s)
    (hq : ∀ s' acc, Base W.K W.N s'.heap → Frs W.N A s'.heap → s'.gens[g]? = some .finished → CStep W C I g s s' → acc.map (·.1) = ts.map f → Q (strValues acc) s') : wpAny (model W.prog W.w) A (collect (.ref a)) Q E s := by
  obtain ⟨oa, nm, qn, ea, hca, _⟩ := id G.gen
  obtain ⟨oI, eI, _⟩ := id P.it
  obtain ⟨ol, el, _⟩ := id P.list
  obtain ⟨m, fr⟩ := P.fr
  obtain ⟨oC, eC, _⟩ := fr.cls
  have ne : ∀ {b : Addr} {o : Obj}, s.heap.get? b = some o → b ≠ s.heap.objs.size := fun e => Nat.ne_of_lt (Heap.lt_size e)
  have hT : s.TypeIs (.ref a) "generator" := G.gen.typeIs
  unfold collect
  refine wpAny_bind (wpAny_runValue (codeAny_builtin F.entry_proto_collect ?_))
  rw [Around.under_plainId F.plain_proto_collect _]
  show wpAny _ A.in1 (newList [] >>= fun l => again (.builtin "list.__iadd__" ⟨[l, .ref a], []⟩)) _ _ s
  refine wpAny_bind (wpAny_newObj_type ?_)
  refine wpAny_pure ⟨plainId_quiet F.plain_list_iadd _, codeAny_builtin F.entry_list_iadd ?_⟩
  rw [Around.under_plainId F.plain_list_iadd _]
  generalize eS : s.heap.objs.size = S at *
  have hS : (s.heap.push { cls := .type "list", data := .seq ([] : List Value).toArray }).get? S = some { cls := .type "list", data := .seq ([] : List Value).toArray } := eS ▸ Heap.get?_push_size _ rfl
  have up : ∀ b o, s.heap.get? b = some o → (s.heap.push { cls := .type "list", data := .seq ([] : List Value).toArray }).get? b = some o := fun b o e => Heap.get?_push_of_some _ e
  have hSN : W.N ≤ S := by rw [← eS]; exact Nat.le_trans hN (Nat.le_of_lt (Heap.lt_size eC))
  generalize s.heap.push { cls := .type "list", data := .seq ([] : List Value).toArray } = h1 at *
  have k1 : Keep W.N [] s.heap h1 := .of_all up
  have hT1 : Shared.TypeIs { s with heap := h1 } (.ref a) "generator" := ⟨oa, up _ _ ea, hca⟩
  show wpAny _ A.in1 (Builtin.List.listExtendWith (.ref S) (.ref a) (.ref S)) _ _ _
  unfold Builtin.List.listExtendWith
  refine wpAny_bind (wpAny_typeOf hT1 ?_)
  have b1 : Builtin.List.listSameRef (.ref S) (.ref a) = false := by simp [Builtin.List.listSameRef, (ne ea).symm]
  have b2 : (Value.type "generator" == Value.type "list") = false := by decide
  have b3 : (Value.type "generator" == Value.type "tuple") = false := by decide
  simp only [b1, b2, b3, Bool.or_false, Bool.false_eq_true, if_false]
  have G1 : GAt W A.in1 C I l vs ts f a g 0 { s with heap := h1 } := ⟨G.gen.keeps up, G.st⟩
  refine wpAny_bind (wpAny_pyIter_gen G1.gen ?_)
  refine wpAny_bind (wpAny_holding ?_)
  unfold Builtin.List.listLengthHint
  refine wpAny_bind (wpAny_specialOf hT1 F.gen_no_len ?_)
  show wpAny _ A.in1 (specialOf (Value.ref a) (Str.ofString "__length_hint__") >>= _) _ _ _
  refine wpAny_bind (wpAny_specialOf hT1 F.gen_no_hint ?_)
  refine wpAny_pure ?_
  show wpAny _ A.in1 (rule "list.extend.makes-room" >>= fun _ => Builtin.List.listTouch (.ref S) >>= fun _ =>
    again (.builtin "list.extend.loop" ⟨[.ref S, .ref a, .ref S], []⟩)) _ _ _
  refine wpAny_bind (wpAny_rule ?_)
  refine wpAny_bind ?_
  show wpAny _ A.in1 (updateSeq S (·.push .none) >>= fun _ => updateSeq S (·.pop)) _ _ _
  refine wpAny_bind (wpAny_updateSeq hS rfl ?_)
  have hS2 := Heap.get?_update_self (Obj.mapSeq (·.push Value.none)) hS rfl
  refine wpAny_updateSeq hS2 rfl ?_
  have hS3 := Heap.get?_update_self (Obj.mapSeq (·.pop)) hS2 rfl
  have sb : Heap.SameBut S h1 ((h1.update S (Obj.mapSeq (·.push Value.none))).update S (Obj.mapSeq (·.pop))) := (Heap.SameBut.update ..).trans (Heap.SameBut.update ..)
  generalize (h1.update S (Obj.mapSeq (·.push Value.none))).update S (Obj.mapSeq (·.pop)) = h3 at *
  have kS : Keep W.N [S] h1 h3 := .sameBut sb hS3 (.head _)
  have k3 : Keep W.N [S] s.heap h3 := k1.all.trans kS
  have P0 : GPre W A.in1.in1 C I l vs 0 { s with heap := h1 } := ⟨P.base.keep (T := []) lk (fun _ z => nomatch z) lo k1, P.frs.keep k1, keep_iter k1 (fun z => nomatch z) P.it, keep_list k1 (fun z => nomatch z) P.list, m, k1.frame (fun z => nomatch z) fr⟩
  have P3 : GPre W A.in1.in1 C I l vs 0 { s with heap := h3 } := P0.aside (s' := { s with heap := h3 }) lk lo hSN (ne eC) (ne eI) (ne el) ⟨_, hS, show Value.type "list" ≠ Value.type "frame" by decide⟩ kS
  have G3 : GAt W A.in1 C I l vs ts f a g 0 { s with heap := h3 } := ⟨by
    obtain ⟨o, nm, qn, e, hc, r⟩ := G1.gen
    exact ⟨o, nm, qn, (sb.2 a (ne ea)).trans e, hc, r⟩, G.st⟩
  refine wpAny_pure ⟨plainId_quiet F.plain_extend_loop _, gather (S := S) hh hd lk lo ha hI hz hSN (ne eC) (ne eI) (ne el) (ne ea) _ ts.length 0 { s with heap := h3 } [] _ rfl (Nat.zero_le _) G3 P3 hS3 rfl fun s' acc' c' B' F' hg off there gens os hS' hacc => ?_⟩
  show wpAny _ A (load S >>= _) _ _ s'
  refine wpAny_bind (wpAny_load hS' ?_)
  refine wpAny_pure (hq s' acc' B' F' hg ⟨fun b o h1' h2' e => ?_, fun b o hb e => ?_, gens, os⟩ hacc)
  · have hb : b ≠ S := ne e
    have e3 : h3.get? b = some o := (sb.2 b hb).trans (up b o e)
    exact off b o h1' h2' hb e3
  · have hb' : b ≠ S := ne e
    exact there b o hb ((sb.2 b hb').trans (up b o e))
theorem join_call {sep : Str} {t : Tok} {s : Shared} {Q E : Value → Shared → Prop} (hh : A.handled = none) (hd : A.depth < recursionLimit) (lk : lowK W.K W.N = true) (lo : builtinsNs < W.N ∧ cStatics < W.N) (ha : a ≠ C) (hI : a ≠ I) (hz : ts.length ≤ 1000000) (hN : W.N ≤ C) (G : GAt W A.in1.in1 C I l vs ts f a g 0 s) (P : GPre W A.in1.in1.in1 C I l vs 0 s) (hj : JoinOk sep (ts.map f) = true)
    (hq : ∀ s' t' k, Base W.K W.N s'.heap → Frs W.N A s'.heap → s'.gens[g]? = some .finished → CStep W C I g s s' → Q (.str (Txt.join sep (ts.map f)) t') { s' with toks := k }) : wpAny (model W.prog W.w) A (call (.builtin "str.join") [.str sep t, .ref a]) Q E s := by
  refine wpAny_call (codeAny_call_builtin F.slot_str_join.plain F.entry_str_join (F.slot_str_join.check _ _ _ _ _ _ _ _ (typeIs_str _ _ _) (F.args_str_join_2 _ _) ?_))
  rw [join_tree_other]
  refine wpAny_bind (wpAny_typeOf G.gen.typeIs ?_)
  show wpAny _ A.in1 ((pyIter (.ref a)).tryCatch _ >>= fun it => collect it >>= fun items => joinTail sep items) _ _ s
  refine wpAny_bind (wpAny_tryCatch (wpAny_pyIter_gen G.gen ?_))
  refine wpAny_bind (collect_gen (A := A.in1) hh hd lk lo ha hI hz hN G P fun s' acc B' F' hg st hacc => ?_)
  have hok := hj
  rw [← hacc] at hok
  unfold JoinOk at hok
  rw [Bool.not_eq_true'] at hok
  have gg : Gives (joinTail sep (strValues acc)) (joinMade sep acc) := by
    have g0 := gives_joinTail sep acc hok
    cases acc with
    | nil => exact g0
    | cons p r => cases r with
      | nil => exact g0
      | cons q r' => exact g0
  refine gg W.prog W.w A (wants Q E) s' (post_join acc ⟨joinFit_length hok, fun t' k => ?_⟩)
  rw [hacc]
  exact hq s' t' k B' F' hg st
end
end G3
section KBase
noncomputable def dE (P : Params) (k : Str) (t : Tok) (v : Value) : DictEntry := ⟨PyData.keyHash P k, .str k t, v⟩
noncomputable def placeD (top : List Stmt) (i : Nat) (j : Option Nat) : Option Stmt := match top[i]?, j with
  | some (.ClassDef _ _ _ b _ _ _ _ _ _ _), some j => b[j]?
  | r, _ => r
/-- a def's data, by its place in the program -/
noncomputable def fnD (top : List Stmt) (i : Nat) (j : Option Nat) (q : Str) (df pm cd : Value) : FuncData := match placeD top i j with
  | some (.FunctionDef n a b _ _ _ sc _ _ _) => { name := n, qualname := q, params := a, body := .stmts b, scope := sc, globals := 3, closure := [], defaults := df, kwdefaults := .none, pyModule := pm, code := cd }
  | _ => default
end KBase
section K02
noncomputable def K02Top : List Stmt := behindTheImports PySem.Challenge.pw_mq0401_02
noncomputable def fn02 (i : Nat) (j : Option Nat) (q : Str) (df pm cd : Value) : FuncData := fnD K02Top i j q df pm cd
/-- the objects of the top that the law's call reads -/
noncomputable def K02 (P : Params) : Frag :=
  [
  (3, ⟨(.type "dict"), none, (.dict #[dE P "__name__" 165 (.str "law_mq0401_02" 1270), dE P "__doc__" 166 .none, dE P "__package__" 167 .none, dE P "__loader__" 168 (.builtin "__main__.__loader__#opaque"), dE P "__spec__" 169 .none, dE P "__annotations__" 170 (.ref 6), dE P "__builtins__" 171 (.ref 4), dE P "__file__" 173 (.str "/claim/cut.py" 172), dE P "__cached__" 174 .none, dE P "_sre" 275 (.ref 12), dE P "deque" 317 (.type "collections.deque"), dE P "_wall" 330 (.ref 44), dE P "_initial_missing" 333 (.ref 45), dE P "reduce" 345 (.ref 53), dE P "_twin_re_1" 385 (.ref 58), dE P "_whence" 395 (.ref 65), dE P "_index" 403 (.ref 72), dE P "UnsupportedOperation" 425 (.ref 82), dE P "IOBase" 457 (.ref 102), dE P "BufferedIOBase" 475 (.ref 117), dE P "TextIOBase" 493 (.ref 129), dE P "BytesIO" 755 (.ref 359), dE P "StringIO" 1042 (.ref 606), dE P "_kind" 1053 (.ref 615), dE P "_fspath" 1062 (.ref 622), dE P "_check_arg_types" 1072 (.ref 629), dE P "isabs" 1079 (.ref 636), dE P "join" 1090 (.ref 760), dE P "join_path" 1091 (.ref 643), dE P "dirname" 1101 (.ref 650), dE P "shlex" 1242 (.ref 741), dE P "split" 1252 (.ref 753), dE P "join_shlex" 1260 (.ref 760), dE P "_find_unsafe" 1262 (.ref 761), dE P "quote" 1269 (.ref 768), dE P "_law_made" 1278 (.ref 775), dE P "_law_drawn" 1291 (.ref 782), dE P "_law_line" 1297 (.ref 787), dE P "_law_step" 1305 (.ref 794), dE P "_law_words" 1312 (.ref 801), dE P "_law_left" 1324 (.ref 808), dE P "law" 1330 (.ref 813)] 42), #[]⟩),
  (2, ⟨.none, none, (.dict #[dE P "\x69mport.loaded._sre" 183 (.bool true), dE P "class._frozen_importlib.BuiltinImporter" 185 (.ref 14), dE P "watched.\x69mport" 206 (.ref 18), dE P "class._frozen_importlib.ModuleSpec" 216 (.ref 22), dE P "sys.modules.booked-epoch" 245 (.int 4 0), dE P "\x69mport.later-laid._sre" 270 (.bool true), dE P "watched.library" 272 (.ref 27), dE P "watched.library-objects" 0 (.str "\x0c\x1e" 0), dE P "watched.library-deep._sre" 273 (.str "\x04\x00\x00\x0b\x04\x00\x00\x0b\x04\x00\x00\x03\x04\x00\x00\x0b\x08\x04dict\x02" 0), dE P "\x69mport.loaded._collections" 280 (.bool true), dE P "sys.modules.landed._collections" 294 (.bool true), dE P "\x69mport.later-laid._collections" 309 (.bool true), dE P "watched.library-deep._collections" 311 (.str "\x04\x00\x00\x1d\x04\x00\x00\x1d\x04\x00\x00\x03\x04\x00\x00\x1d\x08\x04dict\x02" 0), dE P "type.__subclasses__.OSError.0" 422 (.int 82 0), dE P "type.__subclasses__.OSError.n" 423 (.int 1 0)] 15), #[]⟩),
  (4, ⟨(.type "module"), (some 0), .plain, #[]⟩),
  (45, ⟨(.type "object"), none, .plain, #[]⟩),
  (741, ⟨(.type "type"), none, (.cls { name := "shlex", bases := [(.type "object")], mro := [(.ref 741), (.type "object")], ns := 740, qualname := "shlex", hasDict := true, slotNames := [], subclasses := [], abstract := false, hasDel := false }), #[none, none, some (.str "shlex" 1104), some (.str "shlex" 1112), some (.builtin "object.__new__"), some (.bool true)]⟩),
  (740, ⟨(.type "dict"), none, (.dict #[dE P "__module__" 1111 (.str "cpy313.shlex" 1102), dE P "__firstlineno__" 1115 (.int 487 1114), dE P "__init__" 1127 (.ref 665), dE P "punctuation_chars" 1135 (.ref 673), dE P "push_token" 1143 (.ref 680), dE P "push_source" 1152 (.ref 688), dE P "pop_source" 1159 (.ref 695), dE P "get_token" 1171 (.ref 702), dE P "read_token" 1182 (.ref 709), dE P "sourcehook" 1190 (.ref 716), dE P "error_leader" 1199 (.ref 724), dE P "__iter__" 1206 (.ref 731), dE P "__next__" 1214 (.ref 738), dE P "__static_attributes__" 1235 (.ref 739), dE P "__dict__" 1237 (.ref 742), dE P "__weakref__" 1239 (.ref 743), dE P "__doc__" 1240 .none] 4), #[]⟩),
  (606, ⟨(.type "type"), none, (.cls { name := "StringIO", bases := [(.ref 129)], mro := [(.ref 606), (.ref 129), (.ref 102), (.type "object")], ns := 605, qualname := "StringIO", hasDict := true, slotNames := [], subclasses := [], abstract := false, hasDel := false }), #[some (.ref 362), none, some (.str "StringIO" 756), some (.str "StringIO" 764), some .none, some (.bool true)]⟩),
  (605, ⟨(.type "dict"), none, (.dict #[dE P "__module__" 763 (.str "_io" 768), dE P "__firstlineno__" 767 (.int 217 766), dE P "__init__" 780 (.ref 376), dE P "_StringIO__translated" 789 (.ref 383), dE P "_StringIO__check" 796 (.ref 390), dE P "_StringIO__check_dot" 803 (.ref 397), dE P "_StringIO__line" 818 (.ref 404), dE P "closed" 826 (.ref 412), dE P "line_buffering" 834 (.ref 420), dE P "newlines" 842 (.ref 428), dE P "encoding" 850 (.ref 436), dE P "errors" 858 (.ref 444), dE P "close" 865 (.ref 451), dE P "__enter__" 872 (.ref 458), dE P "__exit__" 880 (.ref 465), dE P "readable" 887 (.ref 472), dE P "writable" 894 (.ref 479), dE P "seekable" 901 (.ref 486), dE P "isatty" 908 (.ref 493), dE P "flush" 915 (.ref 500), dE P "fileno" 922 (.ref 507), dE P "detach" 929 (.ref 514), dE P "getvalue" 936 (.ref 521), dE P "tell" 943 (.ref 528), dE P "seek" 953 (.ref 536), dE P "truncate" 961 (.ref 544), dE P "read" 973 (.ref 552), dE P "readline" 983 (.ref 560), dE P "readlines" 993 (.ref 568), dE P "__iter__" 1000 (.ref 575), dE P "__next__" 1008 (.ref 582), dE P "write" 1020 (.ref 589), dE P "writelines" 1028 (.ref 596), dE P "__repr__" 1035 (.ref 603), dE P "__static_attributes__" 1039 (.ref 604), dE P "__doc__" 1040 .none] 2), #[]⟩),
  (129, ⟨(.type "type"), none, (.cls { name := "TextIOBase", bases := [(.ref 102)], mro := [(.ref 129), (.ref 102), (.type "object")], ns := 128, qualname := "TextIOBase", hasDict := true, slotNames := [], subclasses := [(.ref 606)], abstract := false, hasDel := false }), #[some (.ref 120), none, some (.str "TextIOBase" 476), some (.str "TextIOBase" 484), some .none, some (.bool true)]⟩),
  (128, ⟨(.type "dict"), none, (.dict #[dE P "__module__" 483 (.str "io" 488), dE P "__firstlineno__" 487 (.int 45 486), dE P "__static_attributes__" 490 (.ref 127), dE P "__doc__" 491 .none] 2), #[]⟩),
  (102, ⟨(.type "type"), none, (.cls { name := "IOBase", bases := [(.type "object")], mro := [(.ref 102), (.type "object")], ns := 101, qualname := "IOBase", hasDict := true, slotNames := [], subclasses := [(.ref 117), (.ref 129)], abstract := false, hasDel := false }), #[none, none, some (.str "IOBase" 426), some (.str "IOBase" 434), some .none, some (.bool true)]⟩),
  (101, ⟨(.type "dict"), none, (.dict #[dE P "__module__" 433 (.str "io" 438), dE P "__firstlineno__" 437 (.int 36 436), dE P "__new__" 448 (.ref 103), dE P "__static_attributes__" 449 (.ref 100), dE P "__dict__" 452 (.ref 104), dE P "__weakref__" 454 (.ref 105), dE P "__doc__" 455 .none] 4), #[]⟩),
  (103, ⟨(.type "staticmethod"), none, (.fields #[(.ref 99)]), #[]⟩),
  (673, ⟨(.type "property"), none, (.fields #[(.ref 672), .none, .none, .none, (.str "punctuation_chars" 1135), (.bool false)]), #[]⟩),
  (359, ⟨(.type "type"), none, (.cls { name := "BytesIO", bases := [(.ref 117)], mro := [(.ref 359), (.ref 117), (.ref 102), (.type "object")], ns := 358, qualname := "BytesIO", hasDict := true, slotNames := [], subclasses := [], abstract := false, hasDel := false }), #[some (.ref 132), none, some (.str "BytesIO" 494), some (.str "BytesIO" 502), some .none, some (.bool true)]⟩),
  (58, ⟨(.type "re.Pattern"), none, (.fields #[(.str "[^\\w@%+=:,./-]" 347), (.int 256 384), (.int 0 0), .none, .none, (.ref 57), (.int 0 0)]), #[]⟩),
  (57, ⟨(.type "tuple"), none, (.seq #[(.int 14 0), (.int 17 0), (.int 4 0), (.int 1 0), (.int 1 0), (.int 21 0), (.int 9 0), (.int 0 0), (.int 604043296 0), (.int 1 0), (.int 0 0), (.int 0 0), (.int 0 0), (.int 0 0), (.int 0 0), (.int 8 0), (.int 4 0), (.int 0 0), (.int 13 0), (.int 14 0), (.int 21 0), (.int 9 0), (.int 0 0), (.int 604043296 0), (.int 1 0), (.int 0 0), (.int 0 0), (.int 0 0), (.int 0 0), (.int 0 0), (.int 8 0), (.int 4 0), (.int 0 0), (.int 1 0)] 0), #[]⟩),
  (761, ⟨(.type "builtin_function_or_method"), none, (.fields #[(.builtin "re.Pattern.search"), (.ref 58)]), #[]⟩),
  (53, ⟨(.type "function"), none, (.func (fn02 3 none "reduce" (.ref 46) (.str "cpy313.functools" 331) (.ref 52))), #[]⟩),
  (52, ⟨(.type "code"), none, (.fields #[(.str "reduce" 334), (.str "reduce" 335), (.str "/claim/cut.py" 336), (.int 8 0), (.int 3 0), (.int 0 0), (.int 0 0), (.int 3 0), (.ref 47), (.bool true), (.int 318 0), (.ref 48), .none, (.ref 49), (.ref 50), (.ref 51), (.int 343 0), (.int 8 0), (.str "/claim/cut.py" 344)]), #[]⟩),
  (46, ⟨(.type "tuple"), none, (.seq #[(.ref 45)] 0), #[]⟩),
  (72, ⟨(.type "function"), none, (.func (fn02 7 none "_index" .none (.str "io" 386) (.ref 71))), #[]⟩),
  (71, ⟨(.type "code"), none, (.fields #[(.str "_index" 396), (.str "_index" 397), (.str "/claim/cut.py" 398), (.int 27 0), (.int 2 0), (.int 0 0), (.int 0 0), (.int 3 0), (.ref 66), (.bool true), (.int 318 0), (.ref 67), .none, (.ref 68), (.ref 69), (.ref 70), (.int 401 0), (.int 27 0), (.str "/claim/cut.py" 402)]), #[]⟩),
  (99, ⟨(.type "function"), none, (.func (fn02 9 (some 1) "IOBase.__new__" .none (.str "io" 386) (.ref 98))), #[]⟩),
  (98, ⟨(.type "code"), none, (.fields #[(.str "__new__" 440), (.str "IOBase.__new__" 441), (.str "/claim/cut.py" 442), (.int 39 0), (.int 1 0), (.int 1 0), (.int 0 0), (.int 15 0), (.ref 93), (.bool true), (.int 318 0), (.ref 94), .none, (.ref 95), (.ref 96), (.ref 97), (.int 446 0), (.int 39 0), (.str "/claim/cut.py" 447)]), #[]⟩),
  (376, ⟨(.type "function"), none, (.func (fn02 13 (some 1) "StringIO.__init__" (.ref 369) (.str "io" 386) (.ref 375))), #[]⟩),
  (375, ⟨(.type "code"), none, (.fields #[(.str "__init__" 772), (.str "StringIO.__init__" 773), (.str "/claim/cut.py" 774), (.int 220 0), (.int 3 0), (.int 0 0), (.int 0 0), (.int 3 0), (.ref 370), (.bool true), (.int 318 0), (.ref 371), .none, (.ref 372), (.ref 373), (.ref 374), (.int 778 0), (.int 220 0), (.str "/claim/cut.py" 779)]), #[]⟩),
  (369, ⟨(.type "tuple"), none, (.seq #[(.str "" 770), (.str "\n" 771)] 0), #[]⟩),
  (383, ⟨(.type "function"), none, (.func (fn02 13 (some 2) "StringIO.__translated" .none (.str "io" 386) (.ref 382))), #[]⟩),
  (382, ⟨(.type "code"), none, (.fields #[(.str "__translated" 781), (.str "StringIO.__translated" 782), (.str "/claim/cut.py" 783), (.int 233 0), (.int 2 0), (.int 0 0), (.int 0 0), (.int 3 0), (.ref 377), (.bool true), (.int 318 0), (.ref 378), .none, (.ref 379), (.ref 380), (.ref 381), (.int 787 0), (.int 233 0), (.str "/claim/cut.py" 788)]), #[]⟩),
  (390, ⟨(.type "function"), none, (.func (fn02 13 (some 3) "StringIO.__check" .none (.str "io" 386) (.ref 389))), #[]⟩),
  (389, ⟨(.type "code"), none, (.fields #[(.str "__check" 790), (.str "StringIO.__check" 791), (.str "/claim/cut.py" 792), (.int 241 0), (.int 1 0), (.int 0 0), (.int 0 0), (.int 3 0), (.ref 384), (.bool true), (.int 318 0), (.ref 385), .none, (.ref 386), (.ref 387), (.ref 388), (.int 794 0), (.int 241 0), (.str "/claim/cut.py" 795)]), #[]⟩),
  (552, ⟨(.type "function"), none, (.func (fn02 13 (some 25) "StringIO.read" (.ref 545) (.str "io" 386) (.ref 551))), #[]⟩),
  (551, ⟨(.type "code"), none, (.fields #[(.str "read" 964), (.str "StringIO.read" 965), (.str "/claim/cut.py" 966), (.int 363 0), (.int 2 0), (.int 2 0), (.int 0 0), (.int 3 0), (.ref 546), (.bool true), (.int 318 0), (.ref 547), .none, (.ref 548), (.ref 549), (.ref 550), (.int 971 0), (.int 363 0), (.str "/claim/cut.py" 972)]), #[]⟩),
  (545, ⟨(.type "tuple"), none, (.seq #[(.int (-1) 963)] 0), #[]⟩),
  (665, ⟨(.type "function"), none, (.func (fn02 23 (some 0) "shlex.__init__" (.ref 658) (.str "cpy313.shlex" 1102) (.ref 664))), #[]⟩),
  (664, ⟨(.type "code"), none, (.fields #[(.str "__init__" 1116), (.str "shlex.__init__" 1117), (.str "/claim/cut.py" 1118), (.int 489 0), (.int 5 0), (.int 0 0), (.int 0 0), (.int 3 0), (.ref 659), (.bool true), (.int 318 0), (.ref 660), .none, (.ref 661), (.ref 662), (.ref 663), (.int 1125 0), (.int 489 0), (.str "/claim/cut.py" 1126)]), #[]⟩),
  (658, ⟨(.type "tuple"), none, (.seq #[.none, .none, (.bool false), (.bool false)] 0), #[]⟩),
  (672, ⟨(.type "function"), none, (.func (fn02 23 (some 1) "shlex.punctuation_chars" .none (.str "cpy313.shlex" 1102) (.ref 671))), #[]⟩),
  (671, ⟨(.type "code"), none, (.fields #[(.str "punctuation_chars" 1128), (.str "shlex.punctuation_chars" 1129), (.str "/claim/cut.py" 1130), (.int 530 0), (.int 1 0), (.int 0 0), (.int 0 0), (.int 3 0), (.ref 666), (.bool true), (.int 318 0), (.ref 667), .none, (.ref 668), (.ref 669), (.ref 670), (.int 1132 0), (.int 530 0), (.str "/claim/cut.py" 1133)]), #[]⟩),
  (702, ⟨(.type "function"), none, (.func (fn02 23 (some 5) "shlex.get_token" .none (.str "cpy313.shlex" 1102) (.ref 701))), #[]⟩),
  (701, ⟨(.type "code"), none, (.fields #[(.str "get_token" 1160), (.str "shlex.get_token" 1161), (.str "/claim/cut.py" 1162), (.int 557 0), (.int 1 0), (.int 0 0), (.int 0 0), (.int 3 0), (.ref 696), (.bool true), (.int 318 0), (.ref 697), .none, (.ref 698), (.ref 699), (.ref 700), (.int 1169 0), (.int 557 0), (.str "/claim/cut.py" 1170)]), #[]⟩),
  (709, ⟨(.type "function"), none, (.func (fn02 23 (some 6) "shlex.read_token" .none (.str "cpy313.shlex" 1102) (.ref 708))), #[]⟩),
  (708, ⟨(.type "code"), none, (.fields #[(.str "read_token" 1172), (.str "shlex.read_token" 1173), (.str "/claim/cut.py" 1174), (.int 584 0), (.int 1 0), (.int 0 0), (.int 0 0), (.int 3 0), (.ref 703), (.bool true), (.int 318 0), (.ref 704), .none, (.ref 705), (.ref 706), (.ref 707), (.int 1180 0), (.int 584 0), (.str "/claim/cut.py" 1181)]), #[]⟩),
  (731, ⟨(.type "function"), none, (.func (fn02 23 (some 9) "shlex.__iter__" .none (.str "cpy313.shlex" 1102) (.ref 730))), #[]⟩),
  (730, ⟨(.type "code"), none, (.fields #[(.str "__iter__" 1200), (.str "shlex.__iter__" 1201), (.str "/claim/cut.py" 1202), (.int 731 0), (.int 1 0), (.int 0 0), (.int 0 0), (.int 3 0), (.ref 725), (.bool true), (.int 318 0), (.ref 726), .none, (.ref 727), (.ref 728), (.ref 729), (.int 1204 0), (.int 731 0), (.str "/claim/cut.py" 1205)]), #[]⟩),
  (738, ⟨(.type "function"), none, (.func (fn02 23 (some 10) "shlex.__next__" .none (.str "cpy313.shlex" 1102) (.ref 737))), #[]⟩),
  (737, ⟨(.type "code"), none, (.fields #[(.str "__next__" 1207), (.str "shlex.__next__" 1208), (.str "/claim/cut.py" 1209), (.int 734 0), (.int 1 0), (.int 0 0), (.int 0 0), (.int 3 0), (.ref 732), (.bool true), (.int 318 0), (.ref 733), .none, (.ref 734), (.ref 735), (.ref 736), (.int 1212 0), (.int 734 0), (.str "/claim/cut.py" 1213)]), #[]⟩),
  (753, ⟨(.type "function"), none, (.func (fn02 24 none "split" (.ref 746) (.str "cpy313.shlex" 1102) (.ref 752))), #[]⟩),
  (752, ⟨(.type "code"), none, (.fields #[(.str "split" 1243), (.str "split" 1244), (.str "/claim/cut.py" 1245), (.int 739 0), (.int 3 0), (.int 0 0), (.int 0 0), (.int 3 0), (.ref 747), (.bool true), (.int 318 0), (.ref 748), .none, (.ref 749), (.ref 750), (.ref 751), (.int 1250 0), (.int 739 0), (.str "/claim/cut.py" 1251)]), #[]⟩),
  (746, ⟨(.type "tuple"), none, (.seq #[(.bool false), (.bool true)] 0), #[]⟩),
  (760, ⟨(.type "function"), none, (.func (fn02 25 none "join" .none (.str "cpy313.shlex" 1102) (.ref 759))), #[]⟩),
  (759, ⟨(.type "code"), none, (.fields #[(.str "join" 1253), (.str "join" 1254), (.str "/claim/cut.py" 1255), (.int 747 0), (.int 1 0), (.int 0 0), (.int 0 0), (.int 3 0), (.ref 754), (.bool true), (.int 318 0), (.ref 755), .none, (.ref 756), (.ref 757), (.ref 758), (.int 1257 0), (.int 747 0), (.str "/claim/cut.py" 1258)]), #[]⟩),
  (768, ⟨(.type "function"), none, (.func (fn02 28 none "quote" .none (.str "cpy313.shlex" 1102) (.ref 767))), #[]⟩),
  (767, ⟨(.type "code"), none, (.fields #[(.str "quote" 1263), (.str "quote" 1264), (.str "/claim/cut.py" 1265), (.int 751 0), (.int 1 0), (.int 0 0), (.int 0 0), (.int 3 0), (.ref 762), (.bool true), (.int 318 0), (.ref 763), .none, (.ref 764), (.ref 765), (.ref 766), (.int 1267 0), (.int 751 0), (.str "/claim/cut.py" 1268)]), #[]⟩),
  (775, ⟨(.type "function"), none, (.func (fn02 30 none "_law_made" .none (.str "law_mq0401_02" 1270) (.ref 774))), #[]⟩),
  (774, ⟨(.type "code"), none, (.fields #[(.str "_law_made" 1272), (.str "_law_made" 1273), (.str "/claim/cut.py" 1274), (.int 758 0), (.int 1 0), (.int 0 0), (.int 0 0), (.int 3 0), (.ref 769), (.bool true), (.int 318 0), (.ref 770), .none, (.ref 771), (.ref 772), (.ref 773), (.int 1276 0), (.int 758 0), (.str "/claim/cut.py" 1277)]), #[]⟩),
  (782, ⟨(.type "function"), none, (.func (fn02 31 none "_law_drawn" .none (.str "law_mq0401_02" 1270) (.ref 781))), #[]⟩),
  (781, ⟨(.type "code"), none, (.fields #[(.str "_law_drawn" 1279), (.str "_law_drawn" 1280), (.str "/claim/cut.py" 1281), (.int 762 0), (.int 1 0), (.int 0 0), (.int 0 0), (.int 3 0), (.ref 776), (.bool true), (.int 318 0), (.ref 777), .none, (.ref 778), (.ref 779), (.ref 780), (.int 1289 0), (.int 762 0), (.str "/claim/cut.py" 1290)]), #[]⟩),
  (787, ⟨(.type "function"), none, (.func (fn02 32 none "_law_line" .none (.str "law_mq0401_02" 1270) (.ref 786))), #[]⟩),
  (786, ⟨(.type "code"), none, (.fields #[(.str "_law_line" 1292), (.str "_law_line" 1293), (.str "/claim/cut.py" 1294), (.int 781 0), (.int 1 0), (.int 0 0), (.int 0 0), (.int 3 0), (.ref 783), (.bool true), (.int 318 0), (.ref 784), .none, .none, .none, (.ref 785), (.int 1295 0), (.int 781 0), (.str "/claim/cut.py" 1296)]), #[]⟩),
  (794, ⟨(.type "function"), none, (.func (fn02 33 none "_law_step" .none (.str "law_mq0401_02" 1270) (.ref 793))), #[]⟩),
  (793, ⟨(.type "code"), none, (.fields #[(.str "_law_step" 1298), (.str "_law_step" 1299), (.str "/claim/cut.py" 1300), (.int 785 0), (.int 2 0), (.int 0 0), (.int 0 0), (.int 3 0), (.ref 788), (.bool true), (.int 318 0), (.ref 789), .none, (.ref 790), (.ref 791), (.ref 792), (.int 1303 0), (.int 785 0), (.str "/claim/cut.py" 1304)]), #[]⟩),
  (801, ⟨(.type "function"), none, (.func (fn02 34 none "_law_words" .none (.str "law_mq0401_02" 1270) (.ref 800))), #[]⟩),
  (800, ⟨(.type "code"), none, (.fields #[(.str "_law_words" 1306), (.str "_law_words" 1307), (.str "/claim/cut.py" 1308), (.int 797 0), (.int 1 0), (.int 0 0), (.int 0 0), (.int 3 0), (.ref 795), (.bool true), (.int 318 0), (.ref 796), .none, (.ref 797), (.ref 798), (.ref 799), (.int 1310 0), (.int 797 0), (.str "/claim/cut.py" 1311)]), #[]⟩),
  (808, ⟨(.type "function"), none, (.func (fn02 35 none "_law_left" .none (.str "law_mq0401_02" 1270) (.ref 807))), #[]⟩),
  (807, ⟨(.type "code"), none, (.fields #[(.str "_law_left" 1313), (.str "_law_left" 1314), (.str "/claim/cut.py" 1315), (.int 799 0), (.int 1 0), (.int 0 0), (.int 0 0), (.int 3 0), (.ref 802), (.bool true), (.int 318 0), (.ref 803), .none, (.ref 804), (.ref 805), (.ref 806), (.int 1322 0), (.int 799 0), (.str "/claim/cut.py" 1323)]), #[]⟩),
  (813, ⟨(.type "function"), none, (.func (fn02 36 none "law" .none (.str "law_mq0401_02" 1270) (.ref 812))), #[]⟩),
  (812, ⟨(.type "code"), none, (.fields #[(.str "law" 1325), (.str "law" 1326), (.str "/claim/cut.py" 1327), (.int 821 0), (.int 1 0), (.int 0 0), (.int 0 0), (.int 3 0), (.ref 809), (.bool true), (.int 318 0), (.ref 810), .none, .none, .none, (.ref 811), (.int 1328 0), (.int 821 0), (.str "/claim/cut.py" 1329)]), #[]⟩)]
end K02
section L2a
/-- a world, and where the call's own objects begin -/
structure Wn where
  w : World
  N : Nat
noncomputable abbrev KK (w : Wn) : Frag := K02 w.w.params
noncomputable abbrev WW (w : Wn) : Wd := ⟨PySem.Challenge.rw_mq0401_02.row.prog, w.w, KK w, w.N⟩
noncomputable def sioAttrs : List Str := ["_StringIO__newline", "_StringIO__buf", "_StringIO__pos"]
noncomputable def lexAttrs : List Str := ["instream", "infile", "posix", "eof", "commenters", "wordchars", "whitespace", "whitespace_split", "quotes", "escape", "escapedquotes", "state", "pushback", "lineno", "debug", "token", "filestack", "source", "_punctuation_chars"]
noncomputable def tabs : Tabs where
  nt := [606, 359, 45]
  glob := [("_index", .ref 72), ("len", .builtin "len"), ("type", .type "type"), ("int", .type "int"), ("bool", .type "bool"), ("StopIteration", .type "StopIteration"), ("deque", .type "collections.deque"), ("StringIO", .ref 606), ("BytesIO", .ref 359), ("object", .type "object"), ("shlex", .ref 741), ("isinstance", .builtin "isinstance"), ("str", .type "str"), ("tuple", .type "tuple"), ("list", .type "list"), ("iter", .builtin "iter"), ("reduce", .ref 53), ("_initial_missing", .ref 45), ("split", .ref 753), ("join_shlex", .ref 760), ("quote", .ref 768), ("_find_unsafe", .ref 761), ("_law_made", .ref 775), ("_law_drawn", .ref 782), ("_law_line", .ref 787), ("_law_step", .ref 794), ("_law_words", .ref 801), ("_law_left", .ref 808)]
  attr := [(606, sioAttrs), (741, lexAttrs)]
  seta := [(606, sioAttrs), (741, lexAttrs)]
  alis := [(741, [("punctuation_chars", "_punctuation_chars")])]
  meth := [(606, [("_StringIO__check", 390), ("read", 552), ("_StringIO__translated", 383)]), (741, [("read_token", 709), ("get_token", 702)])]
theorem tabs_okB (w : Wn) : tabs.okB (WW w).K = true := by kernel_rfl
theorem punct_prop (w : Wn) : propOk (WW w).K 741 "punctuation_chars" 673 672 = true := by kernel_rfl
theorem punct_get (w : Wn) : getterOk (WW w).K 672 741 "_punctuation_chars" = true := by kernel_rfl
theorem punct_bind (w : Wn) (v : Value) : runPure (WW w).K 30 (bindArgs (fdOf (WW w).K 672) ⟨[v], []⟩) = some ([("self", v)] : List (Str × Value)) := by kernel_rfl
theorem tabs_ok (w : Wn) : tabs.Ok (WW w) := ⟨tabs_okB w, fun C ns e n al hn => by
  have e := mem_of_lookup e
  rcases List.mem_singleton.mp e with e
  cases e
  have hn := mem_of_lookup hn
  rcases List.mem_singleton.mp hn with hn
  cases hn
  exact ⟨673, 672, punct_prop w, fun k objs att p a b d => getter_ok (punct_get w) (punct_bind w) a b d⟩⟩
noncomputable def idxLoc (n : Int) (p : PV) : List (Str × PV) := [("n", .i n), ("what", p)]
theorem idx_run (w : Wn) (n : Int) (p : PV) (objs : List PO) : xr (mkCfg (W := WW w) (D := 1) (fdOf (WW w).K 72).scope tabs (blt _ _) (.none _ _)) 60 (bodyOf (fdOf (WW w).K 72)) [none, some false] ⟨idxLoc n p, objs⟩ = some (.ret (.i n), objs, [(decide (n > 1099511627776) || (decide (n < -1099511627776) || false)) = false]) := by kernel_rfl
theorem idx_def (w : Wn) : defOk (WW w).K 72 ["n", "what"] = true := by kernel_rfl
theorem idx_bind (w : Wn) (v u : Value) : runPure (WW w).K 30 (bindArgs (fdOf (WW w).K 72) ⟨[v, u], []⟩) = some ([("n", v), ("what", u)] : List (Str × Value)) := by kernel_rfl
theorem spec_index (w : Wn) (n : Int) (p : PV) (objs : List PO) (h1 : -1099511627776 ≤ n) (h2 : n ≤ 1099511627776) : Spec (WW w) 2 (.ref 72) [.i n, p] objs (.i n) objs := by
  refine SpecC.spec ?_
  refine spec_run (idx_def w) (tabs_ok w) rfl (fun T ρ s vs B hT ia => ?_) (idx_run w n p objs) ⟨?_, trivial⟩
  · obtain ⟨v, u, rfl, i, j⟩ := isL2 ia
    exact ⟨_, idx_bind w v u, rfl, .cons i (.cons j .nil)⟩
  · simp; omega
end L2a
section L2b
/-! ## the text's signs -/
noncomputable def tx (l : List Nat) : Str := ⟨⟨l⟩⟩
theorem tx_len (l : List Nat) : (tx l).length = l.length := rfl
theorem slice_one (pre r : List Nat) (c : Nat) : Txt.slice (tx (pre ++ c :: r)) (some pre.length) (some (pre.length + 1)) = ⟨#[c]⟩ := by
  have hi : Builtin.Str.strSliceIndices (some (pre.length : Int)) (some ((pre.length : Int) + 1)) 1 (tx (pre ++ c :: r)).length = [pre.length] := by
    unfold Builtin.Str.strSliceIndices sliceRange
    have e1 : ((tx (pre ++ c :: r)).length : Int) = pre.length + 1 + r.length := by rw [tx_len]; simp; omega
    simp only [e1, show (1 : Int) > 0 by decide, if_true]
    have n1 : ¬ ((pre.length : Int) < 0) := by omega
    have n2 : ¬ ((pre.length : Int) + 1 < 0) := by omega
    simp only [n1, n2, if_false]
    have a : max 0 (min (pre.length : Int) (pre.length + 1 + r.length)) = pre.length := by omega
    have b : max 0 (min ((pre.length : Int) + 1) (pre.length + 1 + r.length)) = pre.length + 1 := by omega
    rw [a, b, if_pos (by omega)]
    have : ((pre.length : Int) + 1 - pre.length + 1 - 1) / 1 = 1 := by omega
    rw [this]
    simp
  unfold Txt.slice
  rw [hi]
  have hx : (tx (pre ++ c :: r)).cps[pre.length]? = some c := by show (pre ++ c :: r).toArray[pre.length]? = _; simp
  split
  · rename_i h
    have h := (Bool.and_eq_true_iff.mp h).2
    have h := beq_iff_eq.mp h
    rw [tx_len] at h
    simp at h
    obtain ⟨h1, h2⟩ : pre.length = 0 ∧ r.length = 0 := by omega
    rw [List.length_eq_zero_iff.mp h1, List.length_eq_zero_iff.mp h2]; rfl
  · simp only [List.filterMap_cons, hx, List.filterMap_nil]
noncomputable def sioO (buf : Str) (pos : Int) : PO := .inst 606 [("_StringIO__newline", .s "\n"), ("_StringIO__buf", .s buf), ("_StringIO__pos", .i pos)]
theorem chk_run (w : Wn) (buf : Str) (pos : Int) (x : PO) (rest : List PO) : xr (mkCfg (W := WW w) (D := 1) (fdOf (WW w).K 390).scope tabs (blt _ _) (.none _ _)) 60 (bodyOf (fdOf (WW w).K 390)) [] ⟨[("self", .o 1)], x :: sioO buf pos :: rest⟩ = some (.next, x :: sioO buf pos :: rest, []) := by kernel_rfl
theorem chk_def (w : Wn) : defOk (WW w).K 390 ["self"] = true := by kernel_rfl
theorem chk_bind (w : Wn) (v : Value) : runPure (WW w).K 30 (bindArgs (fdOf (WW w).K 390) ⟨[v], []⟩) = some ([("self", v)] : List (Str × Value)) := by kernel_rfl
theorem spec_check (w : Wn) (buf : Str) (pos : Int) (x : PO) (rest : List PO) : Spec (WW w) 2 (.ref 390) [.o 1] (x :: sioO buf pos :: rest) (.v .none) (x :: sioO buf pos :: rest) := by
  refine SpecC.spec ?_
  refine spec_run (fl := .next) (chk_def w) (tabs_ok w) rfl (fun T ρ s vs B hT ia => ?_) (chk_run w buf pos x rest) trivial
  obtain ⟨v, rfl, i⟩ := isL1 ia
  exact ⟨_, chk_bind w v, rfl, .cons i .nil⟩
theorem keep_index (w : Wn) : keepOk (WW w).K (.ref 72) = true := by kernel_rfl
theorem keep_check (w : Wn) : keepOk (WW w).K (.ref 390) = true := by kernel_rfl
noncomputable def rdPo (w : Wn) (buf : Str) (pos : Int) (x : PO) (rest : List PO) : POrc (WW w) 2 :=
  (POrc.one (keep_index w) (spec_index w 1 (.s "StringIO.read of a size that is no exact int") (x :: sioO buf pos :: rest) (by decide) (by decide))).or ((POrc.one (keep_check w) (spec_check w buf pos x rest)).or (blt _ _))
noncomputable abbrev rdW : PV := .s "StringIO.read of a size that is no exact int"
theorem rd_run0 (w : Wn) (buf : Str) (pos : Int) (x : PO) (rest : List PO) : xr (mkCfg (W := WW w) (fdOf (WW w).K 552).scope tabs (rdPo w buf pos x rest) (.none _ _)) 60 (bodyOf (fdOf (WW w).K 552)) [none, some true] ⟨[("self", .o 1), ("size", .i 1)], x :: sioO buf pos :: rest⟩ =
  some (.ret (.s ""), x :: sioO buf pos :: rest, [Rf ([PV.i 1, rdW], x :: sioO buf pos :: rest), Rf ([PV.o 1], x :: sioO buf pos :: rest), buf.length ≤ sizeLine, decide (pos ≥ (buf.length : Int)) = true]) := by kernel_rfl
theorem rd_run1 (w : Wn) (buf : Str) (pos : Int) (x : PO) (rest : List PO) : xr (mkCfg (W := WW w) (fdOf (WW w).K 552).scope tabs (rdPo w buf pos x rest) (.none _ _)) 60 (bodyOf (fdOf (WW w).K 552)) [none, some false, some true] ⟨[("self", .o 1), ("size", .i 1)], x :: sioO buf pos :: rest⟩ =
  some (.ret (.s (Txt.slice buf (some pos) (some (pos + 1)))), x :: sioO buf (pos + 1) :: rest, [Rf ([PV.i 1, rdW], x :: sioO buf pos :: rest), Rf ([PV.o 1], x :: sioO buf pos :: rest), buf.length ≤ sizeLine, decide (pos ≥ (buf.length : Int)) = false,
    (decide ((1 : Int) ≥ 0) && (decide (pos + 1 < (buf.length : Int)) && true)) = true, buf.length ≤ sizeLine]) := by kernel_rfl
theorem rd_run2 (w : Wn) (buf : Str) (pos : Int) (x : PO) (rest : List PO) : xr (mkCfg (W := WW w) (fdOf (WW w).K 552).scope tabs (rdPo w buf pos x rest) (.none _ _)) 60 (bodyOf (fdOf (WW w).K 552)) [none, some false, some false] ⟨[("self", .o 1), ("size", .i 1)], x :: sioO buf pos :: rest⟩ =
  some (.ret (.s (Txt.slice buf (some pos) (some (buf.length : Int)))), x :: sioO buf (buf.length : Int) :: rest, [Rf ([PV.i 1, rdW], x :: sioO buf pos :: rest), Rf ([PV.o 1], x :: sioO buf pos :: rest), buf.length ≤ sizeLine, decide (pos ≥ (buf.length : Int)) = false,
    (decide ((1 : Int) ≥ 0) && (decide (pos + 1 < (buf.length : Int)) && true)) = false, buf.length ≤ sizeLine]) := by kernel_rfl
theorem rd_def (w : Wn) : defOk (WW w).K 552 ["self", "size"] = true := by kernel_rfl
theorem rd_bind (w : Wn) (v u : Value) : runPure (WW w).K 30 (bindArgs (fdOf (WW w).K 552) ⟨[v, u], []⟩) = some ([("self", v), ("size", u)] : List (Str × Value)) := by kernel_rfl
theorem keep_read (w : Wn) : keepOk (WW w).K (.ref 552) = true := by kernel_rfl
/-- one sign is read -/
theorem spec_read (w : Wn) (pre r : List Nat) (c : Nat) (x : PO) (rest : List PO) (hz : (tx (pre ++ c :: r)).length ≤ sizeLine) :
    Spec (WW w) 3 (.ref 552) [.o 1, .i 1] (x :: sioO (tx (pre ++ c :: r)) pre.length :: rest) (.s ⟨#[c]⟩) (x :: sioO (tx (pre ++ c :: r)) (pre.length + 1 : Int) :: rest) := by
  have hl : (tx (pre ++ c :: r)).length = pre.length + 1 + r.length := by rw [tx_len]; simp; omega
  cases r with
  | nil =>
    have z := SpecC.spec <| spec_run (rd_def w) (tabs_ok w) rfl (fun T ρ s vs B hT ia => by obtain ⟨v, u, rfl, i, j⟩ := isL2 ia; exact ⟨_, rd_bind w v u, rfl, .cons i (.cons j .nil)⟩) (rd_run2 w (tx (pre ++ [c])) pre.length x rest)
      ⟨rfl, rfl, hz, by rw [hl]; simp; omega, by rw [hl]; simp, hz, trivial⟩
    have e : ((tx (pre ++ [c])).length : Int) = (pre.length : Int) + 1 := by rw [hl]; simp
    simp only [e, slice_one] at z
    exact z
  | cons d r =>
    have z := SpecC.spec <| spec_run (rd_def w) (tabs_ok w) rfl (fun T ρ s vs B hT ia => by obtain ⟨v, u, rfl, i, j⟩ := isL2 ia; exact ⟨_, rd_bind w v u, rfl, .cons i (.cons j .nil)⟩) (rd_run1 w (tx (pre ++ c :: d :: r)) pre.length x rest)
      ⟨rfl, rfl, hz, by rw [hl]; simp; omega, by rw [hl]; simp; omega, hz, trivial⟩
    rw [slice_one] at z
    exact z
/-- the text's end -/
theorem spec_read0 (w : Wn) (pre : List Nat) (x : PO) (rest : List PO) (hz : (tx pre).length ≤ sizeLine) :
    Spec (WW w) 3 (.ref 552) [.o 1, .i 1] (x :: sioO (tx pre) pre.length :: rest) (.s "") (x :: sioO (tx pre) pre.length :: rest) :=
  SpecC.spec <| spec_run (rd_def w) (tabs_ok w) rfl (fun T ρ s vs B hT ia => by obtain ⟨v, u, rfl, i, j⟩ := isL2 ia; exact ⟨_, rd_bind w v u, rfl, .cons i (.cons j .nil)⟩) (rd_run0 w (tx pre) pre.length x rest)
    ⟨rfl, rfl, hz, by rw [tx_len]; simp, trivial⟩
/-- the same by the place -/
theorem spec_rd (w : Wn) (L : List Nat) (n c : Nat) (x : PO) (rest : List PO) (h : L[n]? = some c) (hz : L.length ≤ sizeLine) :
    Spec (WW w) 3 (.ref 552) [.o 1, .i 1] (x :: sioO (tx L) (n : Int) :: rest) (.s ⟨#[c]⟩) (x :: sioO (tx L) ((n + 1 : Nat) : Int) :: rest) := by
  obtain ⟨hn, hc⟩ := List.getElem?_eq_some_iff.mp h
  have e : L = L.take n ++ c :: L.drop (n + 1) := by rw [← hc, ← List.drop_eq_getElem_cons hn, List.take_append_drop]
  have el : (L.take n).length = n := by rw [List.length_take]; omega
  have z := spec_read w (L.take n) (L.drop (n + 1)) c x rest (by rw [← e]; exact hz)
  rw [← e, el] at z
  exact z
theorem spec_rd0 (w : Wn) (L : List Nat) (x : PO) (rest : List PO) (hz : L.length ≤ sizeLine) :
    Spec (WW w) 3 (.ref 552) [.o 1, .i 1] (x :: sioO (tx L) (L.length : Int) :: rest) (.s "") (x :: sioO (tx L) (L.length : Int) :: rest) := spec_read0 w L x rest hz
end L2b
section L2c
/-! ## shlex.read_token -/
/-- the lexer: commenters, wordchars, state, lineno, token -/
noncomputable def lexO (cm wc : Str) (st : PV) (ln : Int) (tok : Str) : PO := .inst 741 [("instream", .o 1), ("infile", .v .none), ("posix", .v (.bool true)), ("eof", .v .none), ("commenters", .s cm), ("wordchars", .s wc), ("whitespace", .s " \t\r\n"), ("whitespace_split", .v (.bool true)), ("quotes", .s "'\""), ("escape", .s "\\"), ("escapedquotes", .s "\""),
  ("state", st), ("pushback", .o 2), ("lineno", .i ln), ("debug", .i 0), ("token", .s tok), ("filestack", .o 3), ("source", .v .none), ("_punctuation_chars", .s "")]
noncomputable def rtLoc (q : Bool) : List (Str × PV) := [("self", .o 0), ("quoted", .v (.bool q)), ("escapedstate", .s " ")]
noncomputable def loopOf : List Stmt → List Stmt
  | .While _ b _ _ :: _ => b
  | _ :: r => loopOf r
  | [] => []
noncomputable abbrev rtFd (w : Wn) : FuncData := fdOf (WW w).K 709
noncomputable abbrev rtBody (w : Wn) : List Stmt := loopOf (bodyOf (rtFd w))
/-- one turn of the loop -/
noncomputable abbrev rtTurn (w : Wn) (eo : Orc (WW w) 3) (ds : Ds) (q : Bool) (objs : List PO) : Option (PF × Ds × View × List Prop) := xs (mkCfg (rtFd w).scope tabs (blt _ _) eo) 60 (rtBody w) ds ⟨rtLoc q, objs⟩
noncomputable def rtRd (w : Wn) (L : List Nat) (n c : Nat) (x : PO) (rest : List PO) (h : L[n]? = some c) (hz : L.length ≤ sizeLine) : Orc (WW w) 3 := Orc.one (keep_read w) (spec_rd w L n c x rest h hz)
noncomputable def rtRd0 (w : Wn) (L : List Nat) (x : PO) (rest : List PO) (hz : L.length ≤ sizeLine) : Orc (WW w) 3 := Orc.one (keep_read w) (spec_rd0 w L x rest hz)
/-- the lexer and its stream -/
noncomputable abbrev lexS (cm wc : Str) (st : PV) (ln : Int) (tok : Str) (L : List Nat) (n : Nat) (rest : List PO) : List PO := lexO cm wc st ln tok :: sioO (tx L) (n : Int) :: rest
noncomputable def ncLoc (x : Str) : List (Str × PV) := [("nextchar", .s x)]
noncomputable abbrev Z0 : Prop := Str.length "" ≤ sizeLine
noncomputable abbrev Z1 (c : Nat) : Prop := Str.length ⟨#[c]⟩ ≤ sizeLine
theorem tS_ws (w : Wn) (cm wc : Str) (ln : Int) (L : List Nat) (n : Nat) (rest : List PO) (h : L[n]? = some 32) (hz : L.length ≤ sizeLine) :
    rtTurn w (rtRd w L n 32 (lexO cm wc (.s " ") ln "") rest h hz) [] false (lexS cm wc (.s " ") ln "" L n rest) =
    some (.cont, [], ⟨rtLoc false ++ ncLoc ⟨#[32]⟩, lexS cm wc (.s " ") ln "" L (n + 1) rest⟩, [Z0, false = false, Rf ([PV.o 1, PV.i 1], lexS cm wc (.s " ") ln "" L n rest), Z1 32, Z0]) := by kernel_rfl
theorem tS_q (w : Wn) (cm wc : Str) (ln : Int) (L : List Nat) (n : Nat) (rest : List PO) (h : L[n]? = some 39) (hz : L.length ≤ sizeLine) :
    rtTurn w (rtRd w L n 39 (lexO cm wc (.s " ") ln "") rest h hz) [none, none, none, none, none, none, none, some false, none, some false, none, none] false (lexS cm wc (.s " ") ln "" L n rest) =
    some (.next, [], ⟨rtLoc false ++ ncLoc ⟨#[39]⟩, lexS cm wc (.s "'") ln "" L (n + 1) rest⟩, [Z0, false = false, Rf ([PV.o 1, PV.i 1], lexS cm wc (.s " ") ln "" L n rest), Z1 39, decide (39 ∈ cm.cps.toList) = false, decide (39 ∈ wc.cps.toList) = false]) := by kernel_rfl
theorem tS_w (w : Wn) (cm wc : Str) (ln : Int) (L : List Nat) (n : Nat) (c : Nat) (rest : List PO) (h : L[n]? = some c) (hz : L.length ≤ sizeLine) :
    rtTurn w (rtRd w L n c (lexO cm wc (.s " ") ln "") rest h hz) [none, some false, none, none, none, none, some false, some false, some false, some true] false (lexS cm wc (.s " ") ln "" L n rest) =
    some (.next, [], ⟨rtLoc false ++ ncLoc ⟨#[c]⟩, lexS cm wc (.s "a") ln ⟨#[c]⟩ L (n + 1) rest⟩, [Z0, false = false, Rf ([PV.o 1, PV.i 1], lexS cm wc (.s " ") ln "" L n rest), ([c] == [10]) = false, Z1 c, decide (c ∈ [32, 9, 13, 10]) = false, decide (c ∈ cm.cps.toList) = false, (true && (decide (c ∈ [92]) && true)) = false, decide (c ∈ wc.cps.toList) = true]) := by kernel_rfl
theorem tS_o (w : Wn) (cm wc : Str) (ln : Int) (L : List Nat) (n : Nat) (c : Nat) (rest : List PO) (h : L[n]? = some c) (hz : L.length ≤ sizeLine) :
    rtTurn w (rtRd w L n c (lexO cm wc (.s " ") ln "") rest h hz) [none, some false, none, none, none, none, some false, some false, some false, some false, none, some false, none] false (lexS cm wc (.s " ") ln "" L n rest) =
    some (.next, [], ⟨rtLoc false ++ ncLoc ⟨#[c]⟩, lexS cm wc (.s "a") ln ⟨#[c]⟩ L (n + 1) rest⟩, [Z0, false = false, Rf ([PV.o 1, PV.i 1], lexS cm wc (.s " ") ln "" L n rest), ([c] == [10]) = false, Z1 c, decide (c ∈ [32, 9, 13, 10]) = false, decide (c ∈ cm.cps.toList) = false, (true && (decide (c ∈ [92]) && true)) = false, decide (c ∈ wc.cps.toList) = false, decide (c ∈ [39, 34]) = false]) := by kernel_rfl
theorem tS_eof (w : Wn) (cm wc : Str) (ln : Int) (L : List Nat) (rest : List PO) (hz : L.length ≤ sizeLine) :
    rtTurn w (rtRd0 w L (lexO cm wc (.s " ") ln "") rest hz) [] false (lexS cm wc (.s " ") ln "" L L.length rest) =
    some (.brk, [], ⟨rtLoc false ++ ncLoc "", lexS cm wc (.v .none) ln "" L L.length rest⟩, [Z0, false = false, Rf ([PV.o 1, PV.i 1], lexS cm wc (.s " ") ln "" L L.length rest), Z0]) := by kernel_rfl
theorem tQ_end (w : Wn) (cm wc : Str) (ln : Int) (tok : Str) (q : Bool) (L : List Nat) (n : Nat) (rest : List PO) (h : L[n]? = some 39) (hz : L.length ≤ sizeLine) :
    rtTurn w (rtRd w L n 39 (lexO cm wc (.s "'") ln tok) rest h hz) [] q (lexS cm wc (.s "'") ln tok L n rest) =
    some (.next, [], ⟨rtLoc true ++ ncLoc ⟨#[39]⟩, lexS cm wc (.s "a") ln tok L (n + 1) rest⟩, [Z0, false = false, Rf ([PV.o 1, PV.i 1], lexS cm wc (.s "'") ln tok L n rest), Z1 39]) := by kernel_rfl
theorem tQ_c (w : Wn) (cm wc : Str) (ln : Int) (tok : Str) (q : Bool) (L : List Nat) (n : Nat) (c : Nat) (rest : List PO) (h : L[n]? = some c) (hz : L.length ≤ sizeLine) :
    rtTurn w (rtRd w L n c (lexO cm wc (.s "'") ln tok) rest h hz) [none, some false, none, none, none, none, none, some false, some false] q (lexS cm wc (.s "'") ln tok L n rest) =
    some (.next, [], ⟨rtLoc true ++ ncLoc ⟨#[c]⟩, lexS cm wc (.s "'") ln (tok ++ ⟨#[c]⟩) L (n + 1) rest⟩, [Z0, false = false, Rf ([PV.o 1, PV.i 1], lexS cm wc (.s "'") ln tok L n rest), ([c] == [10]) = false, Z1 c, ([c] == [39]) = false, (true && (decide (c ∈ [92]) && (decide (39 ∈ [34]) && true))) = false, Str.length (tok ++ ⟨#[c]⟩) ≤ sizeLine]) := by kernel_rfl
theorem tQ_nl (w : Wn) (cm wc : Str) (ln : Int) (tok : Str) (q : Bool) (L : List Nat) (n : Nat) (rest : List PO) (h : L[n]? = some 10) (hz : L.length ≤ sizeLine) :
    rtTurn w (rtRd w L n 10 (lexO cm wc (.s "'") ln tok) rest h hz) [] q (lexS cm wc (.s "'") ln tok L n rest) =
    some (.next, [], ⟨rtLoc true ++ ncLoc ⟨#[10]⟩, lexS cm wc (.s "'") (ln + 1) (tok ++ ⟨#[10]⟩) L (n + 1) rest⟩, [Z0, false = false, Rf ([PV.o 1, PV.i 1], lexS cm wc (.s "'") ln tok L n rest), Z1 10, Str.length (tok ++ ⟨#[10]⟩) ≤ sizeLine]) := by kernel_rfl
theorem tD_end (w : Wn) (cm wc : Str) (ln : Int) (tok : Str) (q : Bool) (L : List Nat) (n : Nat) (rest : List PO) (h : L[n]? = some 34) (hz : L.length ≤ sizeLine) :
    rtTurn w (rtRd w L n 34 (lexO cm wc (.s "\"") ln tok) rest h hz) [] q (lexS cm wc (.s "\"") ln tok L n rest) =
    some (.next, [], ⟨rtLoc true ++ ncLoc ⟨#[34]⟩, lexS cm wc (.s "a") ln tok L (n + 1) rest⟩, [Z0, false = false, Rf ([PV.o 1, PV.i 1], lexS cm wc (.s "\"") ln tok L n rest), Z1 34]) := by kernel_rfl
theorem tD_c (w : Wn) (cm wc : Str) (ln : Int) (tok : Str) (q : Bool) (L : List Nat) (n : Nat) (rest : List PO) (h : L[n]? = some 39) (hz : L.length ≤ sizeLine) :
    rtTurn w (rtRd w L n 39 (lexO cm wc (.s "\"") ln tok) rest h hz) [] q (lexS cm wc (.s "\"") ln tok L n rest) =
    some (.next, [], ⟨rtLoc true ++ ncLoc ⟨#[39]⟩, lexS cm wc (.s "\"") ln (tok ++ ⟨#[39]⟩) L (n + 1) rest⟩, [Z0, false = false, Rf ([PV.o 1, PV.i 1], lexS cm wc (.s "\"") ln tok L n rest), Z1 39, Str.length (tok ++ ⟨#[39]⟩) ≤ sizeLine]) := by kernel_rfl
theorem tA_ws (w : Wn) (cm wc : Str) (ln : Int) (tok : Str) (q : Bool) (L : List Nat) (n : Nat) (rest : List PO) (h : L[n]? = some 32) (hz : L.length ≤ sizeLine) :
    rtTurn w (rtRd w L n 32 (lexO cm wc (.s "a") ln tok) rest h hz) [none, none, none, none, none, none, none, none, none, none, none, some true] q (lexS cm wc (.s "a") ln tok L n rest) =
    some (.brk, [], ⟨rtLoc q ++ ncLoc ⟨#[32]⟩, lexS cm wc (.s " ") ln tok L (n + 1) rest⟩, [Z0, false = false, Rf ([PV.o 1, PV.i 1], lexS cm wc (.s "a") ln tok L n rest), Z1 32, tok.length ≤ sizeLine, ((!tok.cps.toList.isEmpty) || ((true && (q && true)) || false)) = true]) := by kernel_rfl
theorem tA_eof (w : Wn) (cm wc : Str) (ln : Int) (tok : Str) (q : Bool) (L : List Nat) (rest : List PO) (hz : L.length ≤ sizeLine) :
    rtTurn w (rtRd0 w L (lexO cm wc (.s "a") ln tok) rest hz) [] q (lexS cm wc (.s "a") ln tok L L.length rest) =
    some (.brk, [], ⟨rtLoc q ++ ncLoc "", lexS cm wc (.v .none) ln tok L L.length rest⟩, [Z0, false = false, Rf ([PV.o 1, PV.i 1], lexS cm wc (.s "a") ln tok L L.length rest), Z0]) := by kernel_rfl
theorem tA_q (w : Wn) (cm wc : Str) (ln : Int) (tok : Str) (q : Bool) (L : List Nat) (n : Nat) (rest : List PO) (h : L[n]? = some 39) (hz : L.length ≤ sizeLine) :
    rtTurn w (rtRd w L n 39 (lexO cm wc (.s "a") ln tok) rest h hz) [none, none, none, none, none, none, none, none, none, none, some false] q (lexS cm wc (.s "a") ln tok L n rest) =
    some (.next, [], ⟨rtLoc q ++ ncLoc ⟨#[39]⟩, lexS cm wc (.s "'") ln tok L (n + 1) rest⟩, [Z0, false = false, Rf ([PV.o 1, PV.i 1], lexS cm wc (.s "a") ln tok L n rest), Z1 39, decide (39 ∈ cm.cps.toList) = false]) := by kernel_rfl
theorem tA_d (w : Wn) (cm wc : Str) (ln : Int) (tok : Str) (q : Bool) (L : List Nat) (n : Nat) (rest : List PO) (h : L[n]? = some 34) (hz : L.length ≤ sizeLine) :
    rtTurn w (rtRd w L n 34 (lexO cm wc (.s "a") ln tok) rest h hz) [none, none, none, none, none, none, none, none, none, none, some false] q (lexS cm wc (.s "a") ln tok L n rest) =
    some (.next, [], ⟨rtLoc q ++ ncLoc ⟨#[34]⟩, lexS cm wc (.s "\"") ln tok L (n + 1) rest⟩, [Z0, false = false, Rf ([PV.o 1, PV.i 1], lexS cm wc (.s "a") ln tok L n rest), Z1 34, decide (34 ∈ cm.cps.toList) = false]) := by kernel_rfl
theorem tA_c (w : Wn) (cm wc : Str) (ln : Int) (tok : Str) (q : Bool) (L : List Nat) (n : Nat) (c : Nat) (rest : List PO) (h : L[n]? = some c) (hz : L.length ≤ sizeLine) :
    rtTurn w (rtRd w L n c (lexO cm wc (.s "a") ln tok) rest h hz) [none, some false, none, none, none, none, none, none, none, some false, some false, none, some false, some false, some true] q (lexS cm wc (.s "a") ln tok L n rest) =
    some (.next, [], ⟨rtLoc q ++ ncLoc ⟨#[c]⟩, lexS cm wc (.s "a") ln (tok ++ ⟨#[c]⟩) L (n + 1) rest⟩, [Z0, false = false, Rf ([PV.o 1, PV.i 1], lexS cm wc (.s "a") ln tok L n rest), ([c] == [10]) = false, Z1 c, decide (c ∈ [32, 9, 13, 10]) = false, decide (c ∈ cm.cps.toList) = false, (true && (decide (c ∈ [39, 34]) && true)) = false, (true && (decide (c ∈ [92]) && true)) = false, (decide (c ∈ wc.cps.toList) || (decide (c ∈ [39, 34]) || ((true && (!decide (c ∈ ([] : List Nat)) && true)) || false))) = true, Str.length (tok ++ ⟨#[c]⟩) ≤ sizeLine]) := by kernel_rfl
end L2c
section L2d
/-! ## what read_token reads -/
inductive LS where
  | sp | aa | sq | dq
noncomputable def LS.pv : LS → PV
  | .sp => .s " "
  | .aa => .s "a"
  | .sq => .s "'"
  | .dq => .s "\""
/-- a sign that is taken as it is -/
noncomputable def plainC (cm : List Nat) (c : Nat) : Bool := !([32, 9, 13, 10, 39, 34, 92].contains c) && !(cm.contains c)
/-- (at the end?, quoted, token, what is left) -/
noncomputable def rdT (cm : List Nat) : List Nat → LS → Bool → List Nat → Option (Bool × Bool × List Nat × List Nat)
  | [], .sp, q, t => some (true, q, t, [])
  | [], .aa, q, t => some (true, q, t, [])
  | [], _, _, _ => none
  | c :: r, .sp, q, t => if c = 32 then rdT cm r .sp q t else if c = 39 then rdT cm r .sq q t else if plainC cm c then rdT cm r .aa q [c] else none
  | c :: r, .aa, q, t => if c = 32 then (if !t.isEmpty || q then some (false, q, t, r) else none) else if c = 39 then rdT cm r .sq q t else if c = 34 then rdT cm r .dq q t else if plainC cm c then rdT cm r .aa q (t ++ [c]) else none
  | c :: r, .sq, q, t => if c = 39 then rdT cm r .aa true t else rdT cm r .sq true (t ++ [c])
  | c :: r, .dq, q, t => if c = 34 then rdT cm r .aa true t else if c = 39 then rdT cm r .dq true (t ++ [c]) else none
theorem tx_snoc (t : List Nat) (c : Nat) : tx t ++ ⟨#[c]⟩ = tx (t ++ [c]) := by
  show (⟨⟨t⟩ ++ #[c]⟩ : Str) = _
  simp [tx]
theorem tx_nil : ("" : Str) = tx [] := by decide +kernel
theorem z0_ok : Z0 := by show Str.length "" ≤ sizeLine; rw [tx_nil]; show 0 ≤ _; exact Nat.zero_le _
theorem z1_ok (c : Nat) : Z1 c := by show 1 ≤ sizeLine; rw [sizeLine_eq]; decide
structure RtC (w : Wn) (c : Fc) : Prop where
  ok : c.Ok
  e : c.toWd = WW w
  room : Room c.A.in1 3
  hs : c.env.scope = (rtFd w).scope
theorem turn_ok {w : Wn} {c : Fc} (R : RtC w c) {eo : Orc (WW w) 3} {ds : Ds} {q q' : Bool} {objs objs' : List PO} {f : PF} {ex : List (Str × PV)} {P : List Prop} (h : rtTurn w eo ds q objs = some (f, [], ⟨rtLoc q' ++ ex, objs'⟩, P)) (hP : AllP P) : ExOk c (rtBody w) ⟨rtLoc q, objs⟩ f ⟨rtLoc q', objs'⟩ :=
  ExOk.drop ((sx_sound R.ok (mkCfg_ok (t := tabs) (po := blt _ _) (eo := eo) R.ok R.e R.room (by decide) R.hs (tabs_ok w)) 60).2 _ _ _ _ _ _ _ h hP)
noncomputable abbrev rtV (cm wc : Str) (st : PV) (ln : Int) (q : Bool) (t L : List Nat) (n : Nat) (rest : List PO) : View := ⟨rtLoc q, lexS cm wc st ln (tx t) L n rest⟩
noncomputable def isTrueC : Const → Bool
  | .bool b => b
  | _ => false
noncomputable def tcon : Expr → Bool
  | .Constant c _ _ => isTrueC c
  | _ => false
theorem tvT {c : Fc} {V : View} {tt : Expr} (h : tcon tt = true) : TvOk c tt V true V := by
  cases tt with
  | Constant k u p =>
    cases k with
    | bool b => cases (show b = true from h); exact tv_true
    | _ => exact nof h
  | _ => exact nof h
noncomputable abbrev RdR := Bool × Bool × List Nat × List Nat
noncomputable abbrev RdF := LS → Bool → List Nat → Option RdR
noncomputable def rdSp (F : RdF) (cm : List Nat) (c : Nat) (q : Bool) (t : List Nat) : Option RdR := if c = 32 then F .sp q t else if c = 39 then F .sq q t else if plainC cm c then F .aa q [c] else none
noncomputable def rdAa (F : RdF) (cm : List Nat) (c : Nat) (r : List Nat) (q : Bool) (t : List Nat) : Option RdR := if c = 32 then (if !t.isEmpty || q then some (false, q, t, r) else none) else if c = 39 then F .sq q t else if c = 34 then F .dq q t else if plainC cm c then F .aa q (t ++ [c]) else none
noncomputable def rdSq (F : RdF) (c : Nat) (t : List Nat) : Option RdR := if c = 39 then F .aa true t else F .sq true (t ++ [c])
noncomputable def rdDq (F : RdF) (c : Nat) (t : List Nat) : Option RdR := if c = 34 then F .aa true t else if c = 39 then F .dq true (t ++ [c]) else none
theorem ifs {α : Type} {p : Prop} [Decidable p] {x y : Option α} {b : α} (h : (if p then x else y) = some b) : (p ∧ x = some b) ∨ (¬ p ∧ y = some b) := by
  by_cases hp : p
  · rw [if_pos hp] at h; exact .inl ⟨hp, h⟩
  · rw [if_neg hp] at h; exact .inr ⟨hp, h⟩
structure Pl4 (cm : List Nat) (a : Nat) : Prop where
  ws : a ≠ 32 ∧ a ≠ 9 ∧ a ≠ 13 ∧ a ≠ 10
  q : a ≠ 39 ∧ a ≠ 34
  bs : a ≠ 92
  cm : a ∉ cm
theorem plain_is {cm : List Nat} {a : Nat} (g : plainC cm a = true) : Pl4 cm a := by
  unfold plainC at g
  simp at g
  obtain ⟨⟨g3, g4, g5, g6, g7, g8, g9⟩, g10⟩ := g
  exact ⟨⟨g3, g4, g5, g6⟩, ⟨g7, g8⟩, g9, g10⟩
section
variable {w : Wn} {tt : Expr} {cm wc : Str} {rest : List PO} {L : List Nat} {o : RdR} {st st1 : LS} {q q1 : Bool} {t t1 : List Nat} {ln ln1 : Int} {n a : Nat} {f : PF} {F : RdF} {r : List Nat}
noncomputable def RtTo (w : Wn) (tt : Expr) (cm wc : Str) (rest : List PO) (L : List Nat) (o : RdR) (st : LS) (q : Bool) (t : List Nat) (ln : Int) (n : Nat) : Prop :=
  ∃ ln' n', L.drop n' = o.2.2.2 ∧ n' ≤ L.length ∧ ∀ c, RtC w c → ∃ m, LoopN c tt (rtBody w) m (rtV cm wc st.pv ln q t L n rest) .next (rtV cm wc (if o.1 then .v .none else .s " ") ln' o.2.1 o.2.2.1 L n' rest)
noncomputable abbrev RtTurn (w : Wn) (cm wc : Str) (rest : List PO) (L : List Nat) (st : LS) (q : Bool) (t : List Nat) (ln : Int) (n : Nat) (f : PF) (st1 : LS) (q1 : Bool) (t1 : List Nat) (ln1 : Int) : Prop :=
  ∀ c, RtC w c → ExOk c (rtBody w) (rtV cm wc st.pv ln q t L n rest) f (rtV cm wc st1.pv ln1 q1 t1 L (n + 1) rest)
theorem RtTo.step (htt : tcon tt = true) (x : RtTo w tt cm wc rest L o st1 q1 t1 ln1 (n + 1)) (hf : f = .next ∨ f = .cont) (turn : RtTurn w cm wc rest L st q t ln n f st1 q1 t1 ln1) : RtTo w tt cm wc rest L o st q t ln n :=
  let ⟨ln', n', h1, h2, hl⟩ := x
  ⟨ln', n', h1, h2, fun c R => let ⟨m, hl⟩ := hl c R; ⟨m + 1, .step (tvT htt) (turn c R) hf hl⟩⟩
noncomputable def stOk (st : LS) (q : Bool) (t : List Nat) : Prop := match st with
  | .sp => q = false ∧ t = []
  | _ => True
noncomputable abbrev RtIh (w : Wn) (tt : Expr) (cm wc : Str) (rest : List PO) (L : List Nat) (o : RdR) (F : RdF) (r : List Nat) (n : Nat) : Prop :=
  ∀ (st : LS) (q : Bool) (t : List Nat) (ln : Int), F st q t = some o → t.length + r.length ≤ L.length → stOk st q t → RtTo w tt cm wc rest L o st q t ln (n + 1)
theorem zt_ok {t : List Nat} {a k : Nat} (hz : L.length ≤ sizeLine) (ht : t.length + (k + 1) ≤ L.length) : Str.length (tx t ++ ⟨#[a]⟩) ≤ sizeLine := by rw [tx_snoc, tx_len, List.length_append]; exact Nat.le_trans (by show t.length + 1 ≤ _; omega) (Nat.le_trans ht hz)
theorem len_snoc {t : List Nat} {a k : Nat} (ht : t.length + (k + 1) ≤ L.length) : (t ++ [a]).length + k ≤ L.length := by rw [List.length_append]; show t.length + 1 + k ≤ _; omega
theorem len_keep {t : List Nat} {k : Nat} (ht : t.length + (k + 1) ≤ L.length) : t.length + k ≤ L.length := Nat.le_trans (Nat.add_le_add_left (Nat.le_succ k) _) ht
theorem rt_plain (hz : L.length ≤ sizeLine) (ha : L[n]? = some a) (g : Pl4 cm.cps.toList a) : RtTurn w cm wc rest L .sp false [] ln n .next .aa false [a] ln := fun c R => by
  obtain ⟨⟨g3, g4, g5, g6⟩, ⟨g7, g8⟩, g9, g10⟩ := g
  by_cases hw : a ∈ wc.cps.toList
  · exact turn_ok R (tS_w w cm wc ln L n a rest ha hz) ⟨z0_ok, rfl, rfl, by simp [g6], z1_ok _, by simp [g3, g4, g5, g6], by simpa using g10, by simp [g9], by simpa using hw, trivial⟩
  · exact turn_ok R (tS_o w cm wc ln L n a rest ha hz) ⟨z0_ok, rfl, rfl, by simp [g6], z1_ok _, by simp [g3, g4, g5, g6], by simpa using g10, by simp [g9], by simpa using hw, by simp [g7, g8], trivial⟩
theorem rt_sp (htt : tcon tt = true) (hz : L.length ≤ sizeLine) (hcm : 39 ∉ cm.cps.toList) (hwc : 39 ∉ wc.cps.toList) (ha : L[n]? = some a) (hr : r.length + 1 ≤ L.length) (ih : RtIh w tt cm wc rest L o F r n) (h : rdSp F cm.cps.toList a false [] = some o) : RtTo w tt cm wc rest L o .sp false [] ln n := by
  have l0 : ([] : List Nat).length + r.length ≤ L.length := len_keep (t := []) (by rw [List.length_nil, Nat.zero_add]; exact hr)
  rcases ifs h with ⟨g, h⟩ | ⟨_, h⟩
  · subst g
    exact (ih .sp false [] ln h l0 ⟨rfl, rfl⟩).step htt (.inr rfl) fun c R => turn_ok R (tS_ws w cm wc ln L n rest ha hz) ⟨z0_ok, rfl, rfl, z1_ok _, z0_ok, trivial⟩
  rcases ifs h with ⟨g, h⟩ | ⟨_, h⟩
  · subst g
    exact (ih .sq false [] ln h l0 trivial).step htt (.inl rfl) fun c R => turn_ok R (tS_q w cm wc ln L n rest ha hz) ⟨z0_ok, rfl, rfl, z1_ok _, by simpa using hcm, by simpa using hwc, trivial⟩
  obtain ⟨g, h⟩ := oi h
  exact (ih .aa false [a] ln h (len_snoc (t := []) (by rw [List.length_nil, Nat.zero_add]; exact hr)) trivial).step htt (.inl rfl) (rt_plain hz ha (plain_is g))
theorem rt_aa (htt : tcon tt = true) (hz : L.length ≤ sizeLine) (hcm : (39 ∉ cm.cps.toList) ∧ (34 ∉ cm.cps.toList)) (ha : L[n]? = some a) (hn : n < L.length) (hd : L.drop (n + 1) = r) (ht : t.length + (r.length + 1) ≤ L.length) (ih : RtIh w tt cm wc rest L o F r n) (h : rdAa F cm.cps.toList a r q t = some o) : RtTo w tt cm wc rest L o .aa q t ln n := by
  rcases ifs h with ⟨g, h⟩ | ⟨_, h⟩
  · subst g
    obtain ⟨gq, h2⟩ := oi (p := (!t.isEmpty || q) = true) (x := some (false, q, t, r)) h
    have ho : o = (false, q, t, r) := (Option.some.inj h2).symm
    subst ho
    refine ⟨ln, n + 1, hd, hn, fun c R => ⟨0, .brk (tvT htt) (turn_ok R (tA_ws w cm wc ln (tx t) q L n rest ha hz) ⟨z0_ok, rfl, rfl, z1_ok _, by rw [tx_len]; omega, ?_, trivial⟩)⟩⟩
    show ((!t.isEmpty) || ((true && (q && true)) || false)) = true
    simpa using gq
  rcases ifs h with ⟨g, h⟩ | ⟨_, h⟩
  · subst g
    exact (ih .sq q t ln h (len_keep ht) trivial).step htt (.inl rfl) fun c R => turn_ok R (tA_q w cm wc ln (tx t) q L n rest ha hz) ⟨z0_ok, rfl, rfl, z1_ok _, by simpa using hcm.1, trivial⟩
  rcases ifs h with ⟨g, h⟩ | ⟨_, h⟩
  · subst g
    exact (ih .dq q t ln h (len_keep ht) trivial).step htt (.inl rfl) fun c R => turn_ok R (tA_d w cm wc ln (tx t) q L n rest ha hz) ⟨z0_ok, rfl, rfl, z1_ok _, by simpa using hcm.2, trivial⟩
  obtain ⟨g, h⟩ := oi h
  obtain ⟨⟨g3, g4, g5, g6⟩, ⟨g7, g8⟩, g9, g10⟩ := plain_is g
  refine (ih .aa q (t ++ [a]) ln h (len_snoc ht) trivial).step (f := .next) htt (.inl rfl) fun c R => ?_
  have z := turn_ok R (tA_c w cm wc ln (tx t) q L n a rest ha hz) ⟨z0_ok, rfl, rfl, by simp [g6], z1_ok _, by simp [g3, g4, g5, g6], by simpa using g10, by simp [g7, g8], by simp [g9], by simp, zt_ok hz ht, trivial⟩
  rwa [tx_snoc] at z
theorem rt_sq (htt : tcon tt = true) (hz : L.length ≤ sizeLine) (ha : L[n]? = some a) (ht : t.length + (r.length + 1) ≤ L.length) (ih : RtIh w tt cm wc rest L o F r n) (h : rdSq F a t = some o) : RtTo w tt cm wc rest L o .sq q t ln n := by
  rcases ifs h with ⟨g, h⟩ | ⟨g, h⟩
  · subst g
    exact (ih .aa true t ln h (len_keep ht) trivial).step htt (.inl rfl) fun c R => turn_ok R (tQ_end w cm wc ln (tx t) q L n rest ha hz) ⟨z0_ok, rfl, rfl, z1_ok _, trivial⟩
  by_cases g10 : a = 10
  · subst g10
    refine (ih .sq true (t ++ [10]) (ln + 1) h (len_snoc ht) trivial).step (f := .next) htt (.inl rfl) fun c R => ?_
    have z := turn_ok R (tQ_nl w cm wc ln (tx t) q L n rest ha hz) ⟨z0_ok, rfl, rfl, z1_ok _, zt_ok hz ht, trivial⟩
    rwa [tx_snoc] at z
  · refine (ih .sq true (t ++ [a]) ln h (len_snoc ht) trivial).step (f := .next) htt (.inl rfl) fun c R => ?_
    have z := turn_ok R (tQ_c w cm wc ln (tx t) q L n a rest ha hz) ⟨z0_ok, rfl, rfl, by simp [g10], z1_ok _, by simp [g], by simp, zt_ok hz ht, trivial⟩
    rwa [tx_snoc] at z
theorem rt_dq (htt : tcon tt = true) (hz : L.length ≤ sizeLine) (ha : L[n]? = some a) (ht : t.length + (r.length + 1) ≤ L.length) (ih : RtIh w tt cm wc rest L o F r n) (h : rdDq F a t = some o) : RtTo w tt cm wc rest L o .dq q t ln n := by
  rcases ifs h with ⟨g, h⟩ | ⟨_, h⟩
  · subst g
    exact (ih .aa true t ln h (len_keep ht) trivial).step htt (.inl rfl) fun c R => turn_ok R (tD_end w cm wc ln (tx t) q L n rest ha hz) ⟨z0_ok, rfl, rfl, z1_ok _, trivial⟩
  obtain ⟨g, h⟩ := oi h
  subst g
  refine (ih .dq true (t ++ [39]) ln h (len_snoc ht) trivial).step (f := .next) htt (.inl rfl) fun c R => ?_
  have z := turn_ok R (tD_c w cm wc ln (tx t) q L n rest ha hz) ⟨z0_ok, rfl, rfl, z1_ok _, zt_ok hz ht, trivial⟩
  rwa [tx_snoc] at z
theorem rt_end (htt : tcon tt = true) (hz : L.length ≤ sizeLine) (hs : stOk st q t) (h : rdT cm.cps.toList [] st q t = some o) : RtTo w tt cm wc rest L o st q t ln L.length := by
  have hd : L.drop L.length = [] := List.drop_length
  cases st with
  | sp =>
    obtain ⟨rfl, rfl⟩ := hs
    cases h
    exact ⟨ln, L.length, hd, Nat.le_refl _, fun c R => ⟨0, .brk (tvT htt) (turn_ok R (tS_eof w cm wc ln L rest hz) ⟨z0_ok, rfl, rfl, z0_ok, trivial⟩)⟩⟩
  | aa =>
    cases h
    exact ⟨ln, L.length, hd, Nat.le_refl _, fun c R => ⟨0, .brk (tvT htt) (turn_ok R (tA_eof w cm wc ln (tx t) q L rest hz) ⟨z0_ok, rfl, rfl, z0_ok, trivial⟩)⟩⟩
  | sq => exact no h
  | dq => exact no h
theorem rt_go (htt : tcon tt = true) (hz : L.length ≤ sizeLine) (hcm : (39 ∉ cm.cps.toList) ∧ (34 ∉ cm.cps.toList)) (hwc : 39 ∉ wc.cps.toList) : ∀ (r : List Nat) (st : LS) (q : Bool) (t : List Nat) (ln : Int) (n : Nat), rdT cm.cps.toList r st q t = some o → L.drop n = r → n ≤ L.length → t.length + r.length ≤ L.length → stOk st q t → RtTo w tt cm wc rest L o st q t ln n := by
  intro r
  induction r with
  | nil =>
    intro st q t ln n h hd hn ht hs
    have en : n = L.length := Nat.le_antisymm hn (List.drop_eq_nil_iff.mp hd)
    subst en
    exact rt_end htt hz hs h
  | cons a r ih =>
    intro st q t ln n h hd hn ht hs
    have hln : n < L.length := by
      have := congrArg List.length hd
      rw [List.length_drop, List.length_cons] at this
      omega
    have ha : L[n]? = some a := by
      have : (L.drop n)[0]? = some a := by rw [hd]; rfl
      rwa [List.getElem?_drop] at this
    have hd' : L.drop (n + 1) = r := by
      rw [← List.drop_drop, hd]; rfl
    have ih' : RtIh w tt cm wc rest L o (rdT cm.cps.toList r) r n := fun st q t ln h ht hs => ih st q t ln (n + 1) h hd' hln ht hs
    cases st with
    | sp =>
      obtain ⟨rfl, rfl⟩ := hs
      exact rt_sp htt hz hcm.1 hwc ha (by rw [List.length_nil, Nat.zero_add] at ht; exact ht) ih' h
    | aa => exact rt_aa htt hz hcm ha hln hd' ht ih' h
    | sq => exact rt_sq htt hz ha ht ih' h
    | dq => exact rt_dq htt hz ha ht ih' h
end
theorem rt_loop {w : Wn} {tt : Expr} (htt : tcon tt = true) {cm wc : Str} {rest : List PO} {L : List Nat} (hz : L.length ≤ sizeLine) (hcm : (39 ∉ cm.cps.toList) ∧ (34 ∉ cm.cps.toList)) (hwc : 39 ∉ wc.cps.toList)
    (r : List Nat) (st : LS) (q : Bool) (t : List Nat) (ln : Int) (n : Nat) (eof q' : Bool) (t' rem : List Nat) (h : rdT cm.cps.toList r st q t = some (eof, q', t', rem)) (hd : L.drop n = r) (hn : n ≤ L.length) (ht : t.length + r.length ≤ L.length) (hs : stOk st q t) :
      ∃ ln' n', L.drop n' = rem ∧ n' ≤ L.length ∧ ∀ c, RtC w c → ∃ m, LoopN c tt (rtBody w) m (rtV cm wc st.pv ln q t L n rest) .next (rtV cm wc (if eof then .v .none else .s " ") ln' q' t' L n' rest) := rt_go htt hz hcm hwc r st q t ln n h hd hn ht hs
end L2d
section L2e
theorem tN_eof (w : Wn) (cm wc : Str) (ln : Int) (L : List Nat) (rest : List PO) (hz : L.length ≤ sizeLine) :
    rtTurn w (rtRd0 w L (lexO cm wc (.v .none) ln "") rest hz) [] false (lexS cm wc (.v .none) ln "" L L.length rest) =
    some (.brk, [], ⟨rtLoc false ++ ncLoc "", lexS cm wc (.v .none) ln "" L L.length rest⟩, [Z0, false = false, Rf ([PV.o 1, PV.i 1], lexS cm wc (.v .none) ln "" L L.length rest)]) := by kernel_rfl
noncomputable abbrev rtCfg (w : Wn) : Cfg := mkCfg (W := WW w) (D := 3) (rtFd w).scope tabs (blt _ _) (.none _ _)
theorem rt_pre (w : Wn) (objs : List PO) : xs (rtCfg w) 60 (preW (bodyOf (rtFd w))) [] ⟨[("self", .o 0)], objs⟩ = some (.next, [], ⟨rtLoc false, objs⟩, []) := by kernel_rfl
theorem rt_post0 (w : Wn) (cm wc : Str) (st : PV) (ln : Int) (L : List Nat) (n : Nat) (rest : List PO) : xr (rtCfg w) 60 (postW (bodyOf (rtFd w))) [] ⟨rtLoc false, lexS cm wc st ln (tx []) L n rest⟩ = some (.ret (.v .none), lexS cm wc st ln "" L n rest, []) := by kernel_rfl
theorem rt_post (w : Wn) (cm wc : Str) (st : PV) (ln : Int) (t L : List Nat) (q : Bool) (n : Nat) (rest : List PO) : xr (rtCfg w) 60 (postW (bodyOf (rtFd w))) [some false] ⟨rtLoc q, lexS cm wc st ln (tx t) L n rest⟩ =
    some (.ret (.s (tx t)), lexS cm wc st ln "" L n rest, [(true && (!q && ((t == []) && true))) = false]) := by kernel_rfl
theorem rt_split (w : Wn) : (splitW (bodyOf (rtFd w))).isSome = true := by kernel_rfl
theorem rt_bodyW (w : Wn) : bodyW (bodyOf (rtFd w)) = rtBody w := by kernel_rfl
theorem rt_test (w : Wn) : tcon (testW (bodyOf (rtFd w))) = true := by kernel_rfl
theorem rt_def (w : Wn) : defOk (WW w).K 709 ["self"] = true := by kernel_rfl
theorem rt_bind (w : Wn) (v : Value) : runPure (WW w).K 30 (bindArgs (rtFd w) ⟨[v], []⟩) = some ([("self", v)] : List (Str × Value)) := by kernel_rfl
theorem keep_rt (w : Wn) : keepOk (WW w).K (.ref 709) = true := by kernel_rfl
/-- what read_token hands out -/
noncomputable def tokP (q : Bool) (t : List Nat) : PV := if !q && t.isEmpty then .v .none else .s (tx t)
theorem rt_from {w : Wn} {cm wc : Str} {st st' : PV} {ln ln' : Int} {L t' : List Nat} {n n' : Nat} {q' : Bool} {rest : List PO}
    (hl : ∀ c : Fc, RtC w c → ∃ m, LoopN c (testW (bodyOf (rtFd w))) (rtBody w) m (rtV cm wc st ln false [] L n rest) .next (rtV cm wc st' ln' q' t' L n' rest)) :
    Spec (WW w) 4 (.ref 709) [.o 0] (lexS cm wc st ln "" L n rest) (tokP q' t') (lexS cm wc st' ln' "" L n' rest) := by
  refine SpecC.spec (spec_body (D := 3) (fl := .ret (tokP q' t')) (loc := [("self", .o 0)]) (rt_def w) rfl (fun T ρ s vs B hT ia => ?_) fun c ok e room hs => ?_)
  · obtain ⟨v, rfl, i⟩ := isL1 ia
    exact ⟨_, rt_bind w v, rfl, .cons i .nil⟩
  · have gk := mkCfg_ok (t := tabs) (po := blt (WW w) 3) (eo := .none _ _) ok e room (by decide) hs (tabs_ok w)
    obtain ⟨m, hl⟩ := hl c ⟨ok, e, room, hs⟩
    have post : ∃ V', ExOk c (postW (bodyOf (rtFd w))) (rtV cm wc st' ln' q' t' L n' rest) (.ret (tokP q' t')) V' ∧ V'.objs = lexS cm wc st' ln' "" L n' rest := by
      cases hq : (!q' && t'.isEmpty) with
      | true =>
        obtain ⟨g1, g2⟩ := Bool.and_eq_true_iff.mp hq
        have e1 : q' = false := by simpa using g1
        have e2 : t' = [] := by simpa using g2
        subst e1 e2
        obtain ⟨ds', V', run, ho⟩ := xr_ok (rt_post0 w cm wc st' ln' L n' rest)
        exact ⟨V', (sx_sound ok gk 60).2 _ _ _ _ _ _ _ run trivial, ho⟩
      | false =>
        obtain ⟨ds', V', run, ho⟩ := xr_ok (rt_post w cm wc st' ln' t' L q' n' rest)
        have : tokP q' t' = .s (tx t') := by unfold tokP; rw [hq]; rfl
        rw [this]
        refine ⟨V', (sx_sound ok gk 60).2 _ _ _ _ _ _ _ run ⟨?_, trivial⟩, ho⟩
        cases t' <;> simp_all
    obtain ⟨V', post, ho⟩ := post
    refine ⟨V', ?_, ho⟩
    rw [splitW_is (rt_split w)]
    refine xs_app ok gk (rt_pre w _) trivial (ex_cons (sx_while (n := m) ?_) post)
    rw [rt_bodyW]
    exact hl
/-- a token is read -/
theorem spec_rt {w : Wn} {cm wc : Str} {L : List Nat} {n : Nat} {ln : Int} {rest : List PO} {eof q' : Bool} {t' rem : List Nat} (hz : L.length ≤ sizeLine) (hcm : (39 ∉ cm.cps.toList) ∧ (34 ∉ cm.cps.toList)) (hwc : 39 ∉ wc.cps.toList) (hn : n ≤ L.length) (h : rdT cm.cps.toList (L.drop n) .sp false [] = some (eof, q', t', rem)) :
    ∃ ln' n', L.drop n' = rem ∧ n' ≤ L.length ∧ Spec (WW w) 4 (.ref 709) [.o 0] (lexS cm wc (.s " ") ln "" L n rest) (tokP q' t') (lexS cm wc (if eof then .v .none else .s " ") ln' "" L n' rest) := by
  obtain ⟨ln', n', h1, h2, hl⟩ := rt_loop (w := w) (wc := wc) (rest := rest) (rt_test w) hz hcm hwc (L.drop n) .sp false [] ln n eof q' t' rem h rfl hn (by simp) ⟨rfl, rfl⟩
  exact ⟨ln', n', h1, h2, rt_from hl⟩
theorem spec_rtN {w : Wn} {cm wc : Str} {L : List Nat} {ln : Int} {rest : List PO} (hz : L.length ≤ sizeLine) : Spec (WW w) 4 (.ref 709) [.o 0] (lexS cm wc (.v .none) ln "" L L.length rest) (.v .none) (lexS cm wc (.v .none) ln "" L L.length rest) :=
  rt_from (q' := false) (t' := []) fun c R => ⟨0, .brk (tvT (rt_test w)) (turn_ok R (tN_eof w cm wc ln L rest hz) ⟨z0_ok, rfl, rfl, trivial⟩)⟩
end L2e
section L2f
/-! ## shlex.get_token, shlex.__next__ -/
noncomputable abbrev gtFd (w : Wn) : FuncData := fdOf (WW w).K 702
theorem gt_split (w : Wn) : (splitW (bodyOf (gtFd w))).isSome = true := by kernel_rfl
/-- the lexer, its stream, its two empty deques -/
noncomputable abbrev lexE (cm wc : Str) (st : PV) (ln : Int) (L : List Nat) (n : Nat) (rest : List PO) : List PO := lexS cm wc st ln "" L n (.dq [] :: .dq [] :: rest)
/-- what read_token does there -/
noncomputable abbrev RtIs (w : Wn) (cm wc : Str) (st st' : PV) (ln ln' : Int) (L : List Nat) (n n' : Nat) (r : PV) (rest : List PO) : Prop := Spec (WW w) 4 (.ref 709) [.o 0] (lexE cm wc st ln L n rest) r (lexE cm wc st' ln' L n' rest)
noncomputable abbrev gtCfg {w : Wn} {cm wc : Str} {st st' : PV} {ln ln' : Int} {L : List Nat} {n n' : Nat} {r : PV} {rest : List PO} (h : RtIs w cm wc st st' ln ln' L n n' r rest) : Cfg := mkCfg (gtFd w).scope tabs (blt _ _) (Orc.one (keep_rt w) h)
noncomputable abbrev Zq : Prop := List.length ([] : List PV) < 2 ^ 62
noncomputable abbrev gtLoc (r : PV) : List (Str × PV) := [("self", .o 0), ("raw", r)]
section
variable (w : Wn) (cm wc : Str) (st st' : PV) (ln ln' : Int) (L : List Nat) (n n' : Nat) (r : PV) (rest : List PO)
theorem gt_pre (h : RtIs w cm wc st st' ln ln' L n n' r rest) : xs (gtCfg h) 60 (preW (bodyOf (gtFd w))) [] ⟨[("self", .o 0)], lexE cm wc st ln L n rest⟩ =
    some (.next, [], ⟨gtLoc r, lexE cm wc st' ln' L n' rest⟩, [Zq, Rf ([PV.o 0], lexE cm wc st ln L n rest)]) := by kernel_rfl
theorem gt_testS (t : Str) (h : RtIs w cm wc st st' ln ln' L n n' (.s t) rest) : pt (gtCfg h) 60 (testW (bodyOf (gtFd w))) ⟨gtLoc (.s t), lexE cm wc st' ln' L n' rest⟩ = some (false, []) := by kernel_rfl
theorem gt_testN (h : RtIs w cm wc st st' ln ln' L n n' (.v .none) rest) : pt (gtCfg h) 60 (testW (bodyOf (gtFd w))) ⟨gtLoc (.v .none), lexE cm wc st' ln' L n' rest⟩ = some (true, []) := by kernel_rfl
theorem gt_postS (t : Str) (h : RtIs w cm wc st st' ln ln' L n n' (.s t) rest) : xr (gtCfg h) 60 (postW (bodyOf (gtFd w))) [] ⟨gtLoc (.s t), lexE cm wc st' ln' L n' rest⟩ = some (.ret (.s t), lexE cm wc st' ln' L n' rest, []) := by kernel_rfl
theorem gt_bodyN (h : RtIs w cm wc st st' ln ln' L n n' (.v .none) rest) : xr (gtCfg h) 60 (bodyW (bodyOf (gtFd w))) [] ⟨gtLoc (.v .none), lexE cm wc st' ln' L n' rest⟩ = some (.ret (.v .none), lexE cm wc st' ln' L n' rest, [Zq]) := by kernel_rfl
end
theorem gt_def (w : Wn) : defOk (WW w).K 702 ["self"] = true := by kernel_rfl
theorem gt_bind (w : Wn) (v : Value) : runPure (WW w).K 30 (bindArgs (gtFd w) ⟨[v], []⟩) = some ([("self", v)] : List (Str × Value)) := by kernel_rfl
theorem keep_gt (w : Wn) : keepOk (WW w).K (.ref 702) = true := by kernel_rfl
theorem zq_ok : Zq := by show 0 < _; decide
theorem spec_gtS {w : Wn} {cm wc : Str} {st st' : PV} {ln ln' : Int} {L : List Nat} {n n' : Nat} {t : Str} {rest : List PO} (h : RtIs w cm wc st st' ln ln' L n n' (.s t) rest) :
    Spec (WW w) 5 (.ref 702) [.o 0] (lexE cm wc st ln L n rest) (.s t) (lexE cm wc st' ln' L n' rest) := by
  refine SpecC.spec (spec_body (D := 4) (fl := .ret (.s t)) (loc := [("self", .o 0)]) (gt_def w) rfl (fun T ρ s vs B hT ia => ?_) fun c ok e room hs => ?_)
  · obtain ⟨v, rfl, i⟩ := isL1 ia
    exact ⟨_, gt_bind w v, rfl, .cons i .nil⟩
  · have gk := mkCfg_ok (t := tabs) (po := blt (WW w) 4) (eo := Orc.one (keep_rt w) h) ok e room (by decide) hs (tabs_ok w)
    exact while_stop ok gk (gt_split w) (gt_pre w cm wc st st' ln ln' L n n' _ rest h) ⟨zq_ok, rfl, trivial⟩ (gt_testS w cm wc st st' ln ln' L n n' rest t h) trivial rfl (gt_postS w cm wc st st' ln ln' L n n' rest t h) trivial
theorem spec_gtN {w : Wn} {cm wc : Str} {st st' : PV} {ln ln' : Int} {L : List Nat} {n n' : Nat} {rest : List PO} (h : RtIs w cm wc st st' ln ln' L n n' (.v .none) rest) :
    Spec (WW w) 5 (.ref 702) [.o 0] (lexE cm wc st ln L n rest) (.v .none) (lexE cm wc st' ln' L n' rest) := by
  refine SpecC.spec (spec_body (D := 4) (fl := .ret (.v .none)) (loc := [("self", .o 0)]) (gt_def w) rfl (fun T ρ s vs B hT ia => ?_) fun c ok e room hs => ?_)
  · obtain ⟨v, rfl, i⟩ := isL1 ia
    exact ⟨_, gt_bind w v, rfl, .cons i .nil⟩
  · have gk := mkCfg_ok (t := tabs) (po := blt (WW w) 4) (eo := Orc.one (keep_rt w) h) ok e room (by decide) hs (tabs_ok w)
    exact while_ret ok gk (gt_split w) (gt_pre w cm wc st st' ln ln' L n n' _ rest h) ⟨zq_ok, rfl, trivial⟩ (gt_testN w cm wc st st' ln ln' L n n' rest h) trivial rfl (gt_bodyN w cm wc st st' ln ln' L n n' rest h) ⟨zq_ok, trivial⟩
/-! ### __next__ -/
noncomputable abbrev GtIs (w : Wn) (cm wc : Str) (st st' : PV) (ln ln' : Int) (L : List Nat) (n n' : Nat) (r : PV) (rest : List PO) : Prop := Spec (WW w) 5 (.ref 702) [.o 0] (lexE cm wc st ln L n rest) r (lexE cm wc st' ln' L n' rest)
noncomputable abbrev nxFd (w : Wn) : FuncData := fdOf (WW w).K 738
noncomputable abbrev nxCfg {w : Wn} {cm wc : Str} {st st' : PV} {ln ln' : Int} {L : List Nat} {n n' : Nat} {r : PV} {rest : List PO} (h : GtIs w cm wc st st' ln ln' L n n' r rest) : Cfg := mkCfg (nxFd w).scope tabs (blt _ _) (Orc.one (keep_gt w) h)
section
variable (w : Wn) (cm wc : Str) (st st' : PV) (ln ln' : Int) (L : List Nat) (n n' : Nat) (rest : List PO)
theorem nx_runS (t : Str) (h : GtIs w cm wc st st' ln ln' L n n' (.s t) rest) : xr (nxCfg h) 60 (bodyOf (nxFd w)) [] ⟨[("self", .o 0)], lexE cm wc st ln L n rest⟩ = some (.ret (.s t), lexE cm wc st' ln' L n' rest, [Rf ([PV.o 0], lexE cm wc st ln L n rest)]) := by kernel_rfl
theorem nx_runN (h : GtIs w cm wc st st' ln ln' L n n' (.v .none) rest) : xxo (nxCfg h) 60 (bodyOf (nxFd w)) [] ⟨[("self", .o 0)], lexE cm wc st ln L n rest⟩ = some (lexE cm wc st' ln' L n' rest, [Rf ([PV.o 0], lexE cm wc st ln L n rest)]) := by kernel_rfl
end
theorem nx_def (w : Wn) : defOk (WW w).K 738 ["self"] = true := by kernel_rfl
theorem nx_bind (w : Wn) (v : Value) : runPure (WW w).K 30 (bindArgs (nxFd w) ⟨[v], []⟩) = some ([("self", v)] : List (Str × Value)) := by kernel_rfl
theorem spec_nxS {w : Wn} {cm wc : Str} {st st' : PV} {ln ln' : Int} {L : List Nat} {n n' : Nat} {t : Str} {rest : List PO} (h : GtIs w cm wc st st' ln ln' L n n' (.s t) rest) :
    Spec (WW w) 6 (.ref 738) [.o 0] (lexE cm wc st ln L n rest) (.s t) (lexE cm wc st' ln' L n' rest) :=
  SpecC.spec <| spec_run (nx_def w) (tabs_ok w) rfl (fun T ρ s vs B hT ia => by obtain ⟨v, rfl, i⟩ := isL1 ia; exact ⟨_, nx_bind w v, rfl, .cons i .nil⟩) (nx_runS w cm wc st st' ln ln' L n n' rest t h) ⟨rfl, trivial⟩
theorem spec_nxN {w : Wn} {cm wc : Str} {st st' : PV} {ln ln' : Int} {L : List Nat} {n n' : Nat} {rest : List PO} (h : GtIs w cm wc st st' ln ln' L n n' (.v .none) rest) :
    SpecX (WW w) 6 (.ref 738) [.o 0] (lexE cm wc st ln L n rest) (lexE cm wc st' ln' L n' rest) :=
  spec_runX (nx_def w) (tabs_ok w) rfl (fun T ρ s vs B hT ia => by obtain ⟨v, rfl, i⟩ := isL1 ia; exact ⟨_, nx_bind w v, rfl, .cons i .nil⟩) (nx_runN w cm wc st st' ln ln' L n n' rest h) ⟨rfl, trivial⟩
end L2f
section L2g
/-! ## list(lexer) -/
/-- the tokens of a text -/
noncomputable def toksT (cm : List Nat) : Nat → List Nat → Option (List (List Nat))
  | 0, _ => none
  | k + 1, r => match rdT cm r .sp false [] with
    | some (true, q, t, _) => if !q && t.isEmpty then some [] else some [t]
    | some (false, q, t, rem) => if !q && t.isEmpty then none else (toksT cm k rem).map (t :: ·)
    | none => none
theorem it_def (w : Wn) : defOk (WW w).K 731 ["self"] = true := by kernel_rfl
theorem it_bind (w : Wn) (v : Value) : runPure (WW w).K 30 (bindArgs (fdOf (WW w).K 731) ⟨[v], []⟩) = some ([("self", v)] : List (Str × Value)) := by kernel_rfl
theorem it_run (w : Wn) (objs : List PO) : xr (mkCfg (W := WW w) (D := 1) (fdOf (WW w).K 731).scope tabs (blt _ _) (.none _ _)) 60 (bodyOf (fdOf (WW w).K 731)) [] ⟨[("self", .o 0)], objs⟩ = some (.ret (.o 0), objs, []) := by kernel_rfl
theorem spec_it (w : Wn) (objs : List PO) : Spec (WW w) 2 (.ref 731) [.o 0] objs (.o 0) objs :=
  SpecC.spec <| spec_run (it_def w) (tabs_ok w) rfl (fun T ρ s vs B hT ia => by obtain ⟨v, rfl, i⟩ := isL1 ia; exact ⟨_, it_bind w v, rfl, .cons i .nil⟩) (it_run w objs) trivial
theorem lex_own (w : Wn) : ownIter (WW w).K 741 731 738 = true := by kernel_rfl
theorem lex_inst (cm wc : Str) (st : PV) (ln : Int) (L : List Nat) (n : Nat) (rest : List PO) : instC (lexE cm wc st ln L n rest) 0 741 := ⟨_, rfl⟩
theorem rd_len {cm : List Nat} : ∀ (r : List Nat) (st : LS) (q : Bool) (t : List Nat) {q' : Bool} {t' rem : List Nat}, rdT cm r st q t = some (true, q', t', rem) → rem = []
  | [], st, q, t, q', t', rem, h => by cases st <;> cases h <;> rfl
  | c :: r, st, q, t, q', t', rem, h => by
    have ih := fun st q t => rd_len (cm := cm) r st q t (q' := q') (t' := t') (rem := rem)
    cases st with
    | sp => unfold rdT at h; split at h; exact ih _ _ _ h; split at h; exact ih _ _ _ h; split at h; exact ih _ _ _ h; cases h
    | aa =>
      unfold rdT at h; split at h
      · split at h <;> cases h
      · split at h; exact ih _ _ _ h; split at h; exact ih _ _ _ h; split at h; exact ih _ _ _ h; cases h
    | sq => unfold rdT at h; split at h <;> exact ih _ _ _ h
    | dq => unfold rdT at h; split at h; exact ih _ _ _ h; split at h; exact ih _ _ _ h; cases h
theorem toks_chain {w : Wn} {cm wc : Str} {L : List Nat} {rest : List PO} (hz : L.length ≤ sizeLine) (hcm : (39 ∉ cm.cps.toList) ∧ (34 ∉ cm.cps.toList)) (hwc : 39 ∉ wc.cps.toList) :
    ∀ (k n : Nat) (ln : Int) (ts : List (List Nat)), n ≤ L.length → toksT cm.cps.toList k (L.drop n) = some ts → ∃ st' ln' n', ToksC (WW w) 6 (.ref 738) 0 741 (lexE cm wc (.s " ") ln L n rest) (ts.map fun t => .s (tx t)) (lexE cm wc st' ln' L n' rest)
  | 0, _, _, _, _, h => by cases h
  | k + 1, n, ln, ts, hn, h => by
    unfold toksT at h
    split at h
    · rename_i q t rem hr
      obtain ⟨ln', n', h1, h2, sp⟩ := spec_rt (w := w) (ln := ln) (rest := .dq [] :: .dq [] :: rest) hz hcm hwc hn hr
      have e1 : rem = [] := rd_len _ _ _ _ hr
      subst e1
      have en : n' = L.length := by
        have := congrArg List.length h1
        rw [List.length_drop] at this; simp at this; omega
      subst en
      unfold tokP at sp
      split at h
      · rename_i hq
        cases h
        rw [if_pos hq] at sp
        exact ⟨_, _, _, .stop (lex_inst ..) (spec_nxN (spec_gtN sp))⟩
      · rename_i hq
        cases h
        rw [if_neg hq] at sp
        exact ⟨_, _, _, .step (lex_inst ..) (spec_nxS (spec_gtS sp)) (.stop (lex_inst ..) (spec_nxN (spec_gtN (spec_rtN hz))))⟩
    · rename_i q t rem hr
      obtain ⟨ln', n', h1, h2, sp⟩ := spec_rt (w := w) (ln := ln) (rest := .dq [] :: .dq [] :: rest) hz hcm hwc hn hr
      unfold tokP at sp
      split at h
      · cases h
      · rename_i hq
        rw [if_neg hq] at sp
        obtain ⟨ts', e1, rfl⟩ := Option.map_eq_some_iff.mp h
        subst h1
        obtain ⟨st', ln2, n2, tk⟩ := toks_chain hz hcm hwc k n' ln' ts' h2 e1
        exact ⟨_, _, _, .step (lex_inst ..) (spec_nxS (spec_gtS sp)) tk⟩
    · cases h
/-- list(lexer) -/
theorem spec_list {w : Wn} {cm wc : Str} {L : List Nat} {rest : List PO} (hz : L.length ≤ 1000000) (hcm : (39 ∉ cm.cps.toList) ∧ (34 ∉ cm.cps.toList)) (hwc : 39 ∉ wc.cps.toList) {k : Nat} {ln : Int} {ts : List (List Nat)} (h : toksT cm.cps.toList k L = some ts) (hl : ts.length ≤ 1000000) :
    ∃ st' ln' n', Spec (WW w) 7 (.type "list") [.o 0] (lexE cm wc (.s " ") ln L 0 rest) (.l (ts.map fun t => .s (tx t))) (lexE cm wc st' ln' L n' rest) := by
  obtain ⟨st', ln', n', tk⟩ := toks_chain (w := w) (wc := wc) (rest := rest) (L := L) (by rw [sizeLine_eq]; omega) hcm hwc k 0 ln ts (Nat.zero_le _) h
  exact ⟨st', ln', n', list_own (by simpa using hl) (lex_own w) ((spec_it w _).le (by decide)) tk (lex_inst ..)⟩
end L2g
section L2h
/-! ## StringIO(text) -/
theorem sio_own (w : Wn) : MadeOwn (WW w).K 606 99 376 where
  mro := ⟨[.ref 606, .ref 129, .ref 102, .type "object"], by kernel_rfl, rfl⟩
  made := by kernel_rfl
  call := by kernel_rfl
  typ := by kernel_rfl
  reads := by kernel_rfl
  new := ⟨103, ((recIn (WW w).K 103 "staticmethod").getD []).tail, by kernel_rfl, by kernel_rfl⟩
  sub := by kernel_rfl
  init := by kernel_rfl
  fn := by kernel_rfl
noncomputable abbrev nwFd (w : Wn) : FuncData := fdOf (WW w).K 99
theorem nw_bind (w : Wn) (v : Value) (S : Setting) (sz tk : Nat) : (runAl (WW w).K S 200 sz tk (bindArgs (nwFd w) ⟨[.ref 606, v], []⟩)).map (·.1) = some ([("cls", .ref 606), ("args", .ref sz), ("kwargs", .ref (sz + 1))] : List (Str × Value)) := by kernel_rfl
theorem nw_names (w : Wn) : (["cls", "args", "kwargs"] : List Str).all (fun x => (nwFd w).scope.names.lookup x == some .local) = true := by kernel_rfl
theorem nw_def (w : Wn) : (isDef (WW w).K 99 (nwFd w) && hasBody (nwFd w)) = true := by kernel_rfl
theorem sio_new (w : Wn) : ObjNew (WW w).K 606 := ⟨fun S sz tk => by kernel_rfl, fun S sz tk => by kernel_rfl⟩
structure NwX where
  y : Str
  py : Pos
  n : Str
  apos : Pos
  x : Str
  px : Pos
  pos : Pos
  pr : Pos
noncomputable def NwX.ex (r : NwX) : Expr := .Call (.Attribute (.Name r.y r.py) r.n r.apos) [.Name r.x r.px] [] r.pos
noncomputable def nwX : Stmt → Option NwX
  | .Return (some (.Call (.Attribute (.Name y py) n apos) [.Name x px] _ pos)) pr => some ⟨y, py, n, apos, x, px, pos, pr⟩
  | _ => none
theorem nw_some (w : Wn) : (((bodyOf (nwFd w)).drop 1).head?.bind nwX).isSome = true := by kernel_rfl
noncomputable def nwG (w : Wn) : NwX := (((bodyOf (nwFd w)).drop 1).head?.bind nwX).get (nw_some w)
theorem nw_shape (w : Wn) : (bodyOf (nwFd w)).drop 1 = [.Return (some (nwG w).ex) (nwG w).pr] := by kernel_rfl
theorem nw_good (w : Wn) : ((nwG w).y == ("object" : Str) && ((nwG w).n == ("__new__" : Str)) && ((nwG w).x == ("cls" : Str)) && ((nwG w).apos.endLine == (nwG w).pos.line)) = true := by kernel_rfl
theorem nw_kinds (w : Wn) : (nwFd w).scope.names.lookup ("object" : Str) = some NameKind.globalImplicit ∧ (nwFd w).scope.names.lookup ("cls" : Str) = some NameKind.local := ⟨by kernel_rfl, by kernel_rfl⟩
theorem nw_if (w : Wn) (objs : List PO) : xs (mkCfg (W := WW w) (D := 1) (nwFd w).scope tabs (blt _ _) (.none _ _)) 60 ((bodyOf (nwFd w)).take 1) [] ⟨[("cls", .v (.ref 606))], objs⟩ = some (.next, [], ⟨[("cls", .v (.ref 606))], objs⟩, []) := by kernel_rfl
end L2h
section L2i
theorem nw_obj (w : Wn) : findCls (WW w).K (.type "object") (.type "type") "__new__" = some (.val (.builtin "object.__new__")) := by kernel_rfl
theorem glob_object (w : Wn) : globIs (WW w).K "object" (.type "object") = true := by kernel_rfl
theorem nw_end {w : Wn} {c : Fc} {g : Cfg} {objs : List PO} {b : List Stmt} (r : NwX) (ok : c.Ok) (e : c.toWd = WW w) (gk : CfgOk c g) (hg : (r.y == ("object" : Str) && (r.n == ("__new__" : Str)) && (r.x == ("cls" : Str)) && (r.apos.endLine == r.pos.line)) = true) (k1 : c.env.kindOf ("object" : Str) = some .globalImplicit) (k2 : c.env.kindOf ("cls" : Str) = some .local) (hb : b.drop 1 = [.Return (some r.ex) r.pr])
    (hi : xs g 60 (b.take 1) [] ⟨[("cls", .v (.ref 606))], objs⟩ = some (.next, [], ⟨[("cls", .v (.ref 606))], objs⟩, [])) : ExG c b ⟨[("cls", .v (.ref 606))], objs⟩ (.ret (.o objs.length)) ⟨[("cls", .v (.ref 606))], objs ++ [.inst 606 []]⟩ := by
  obtain ⟨y, py, n, apos, x, px, pos, pr⟩ := r
  simp only [Bool.and_eq_true, beq_iff_eq] at hg
  obtain ⟨⟨⟨rfl, rfl⟩, rfl⟩, hl⟩ := hg
  have hK : c.K = (WW w).K := congrArg Wd.K e
  rw [← List.take_append_drop 1 b, hb]
  refine xg_app ok gk hi trivial rfl (exg_one (sxg_return ?_))
  exact evg_objnew ok k1 (show (("object" : Str) == ("__debug__" : Str)) = false by decide) (by rw [hK]; exact glob_object w) (by rw [hK]; exact nw_obj w) k2 (show (("cls" : Str) == ("__debug__" : Str)) = false by decide) rfl (by rw [hK]; exact sio_new w) (by simpa using hl)
theorem spec_new (w : Wn) (v : PV) (objs : List PO) : SpecK (WW w) 2 (.ref 99) [.v (.ref 606), v] [] objs (.o objs.length) (objs ++ [.inst 606 []]) := by
  refine call_defB (D := 1) (fl := .ret (.o objs.length)) (loc := [("cls", .v (.ref 606))]) (defIs_of (nw_def w)) (fun T ρ s vs kvs B hT ia ek ik => ?_) fun c ok e room hs => ?_
  · obtain ⟨a, b, rfl, i, j⟩ := isL2 ia
    cases i
    cases kvs with
    | cons _ _ => cases ek
    | nil =>
    refine bind_al B.k (nw_bind w b _ _ _) (nw_names w) (fun x p h => ?_)
    refine ⟨.ref 606, ?_, ?_⟩
    · by_cases g : x = ("cls" : Str)
      · subst g; rfl
      · have : (x == ("cls" : Str)) = false := by simpa using g
        rw [List.lookup_cons, this] at h; cases h
    · by_cases g : x = ("cls" : Str)
      · subst g; cases h; exact .v _
      · have : (x == ("cls" : Str)) = false := by simpa using g
        rw [List.lookup_cons, this] at h; cases h
  · have gk := mkCfg_ok (t := tabs) (po := blt (WW w) 1) (eo := .none _ _) ok e room (by decide) hs (tabs_ok w)
    refine ⟨⟨[("cls", .v (.ref 606))], objs ++ [.inst 606 []]⟩, ?_, rfl⟩
    exact nw_end (nwG w) ok e gk (nw_good w) (by unfold Env.kindOf; rw [hs]; exact (nw_kinds w).1) (by unfold Env.kindOf; rw [hs]; exact (nw_kinds w).2) (nw_shape w) (nw_if w objs)
end L2i
section L2j
/-! ## StringIO.__init__ -/
noncomputable abbrev siFd (w : Wn) : FuncData := fdOf (WW w).K 376
noncomputable abbrev trFd (w : Wn) : FuncData := fdOf (WW w).K 383
noncomputable abbrev sioP (buf : Str) : PO := .inst 606 [("_StringIO__newline", .s "\n"), ("_StringIO__buf", .s buf), ("_StringIO__pos", .i 0)]
theorem tr_def (w : Wn) : defOk (WW w).K 383 ["self", "s"] = true := by kernel_rfl
theorem tr_bind (w : Wn) (v u : Value) : runPure (WW w).K 30 (bindArgs (trFd w) ⟨[v, u], []⟩) = some ([("self", v), ("s", u)] : List (Str × Value)) := by kernel_rfl
theorem tr_run (w : Wn) (x : PO) (t : Str) : xr (mkCfg (W := WW w) (D := 1) (trFd w).scope tabs (blt _ _) (.none _ _)) 60 (bodyOf (trFd w)) [] ⟨[("self", .o 1), ("s", .s t)], [x, sioP ""]⟩ = some (.ret (.s t), [x, sioP ""], []) := by kernel_rfl
theorem spec_tr (w : Wn) (x : PO) (t : Str) : Spec (WW w) 2 (.ref 383) [.o 1, .s t] [x, sioP ""] (.s t) [x, sioP ""] :=
  SpecC.spec <| spec_run (tr_def w) (tabs_ok w) rfl (fun T ρ s vs B hT ia => by obtain ⟨v, u, rfl, i, j⟩ := isL2 ia; exact ⟨_, tr_bind w v u, rfl, .cons i (.cons j .nil)⟩) (tr_run w x t) trivial
theorem keep_tr (w : Wn) : keepOk (WW w).K (.ref 383) = true := by kernel_rfl
noncomputable abbrev siPo (w : Wn) (x : PO) (t : Str) : POrc (WW w) 2 := (blt _ _).or (POrc.one (keep_tr w) (spec_tr w x t))
theorem si_def (w : Wn) : (isDef (WW w).K 376 (siFd w) && hasBody (siFd w)) = true := by kernel_rfl
theorem si_bind (w : Wn) (v u : Value) (S : Setting) (sz tk : Nat) : (runAl (WW w).K S 200 sz tk (bindArgs (siFd w) ⟨[v, u], []⟩)).map (·.1) = some ([("self", v), ("initial_value", u), ("newline", .str "\n" 771)] : List (Str × Value)) := by kernel_rfl
theorem si_names (w : Wn) : (["self", "initial_value", "newline"] : List Str).all (fun x => (siFd w).scope.names.lookup x == some .local) = true := by kernel_rfl
theorem si_run (w : Wn) (x : PO) (t : Str) : xr (mkCfg (W := WW w) (siFd w).scope tabs (siPo w x t) (.none _ _)) 60 (bodyOf (siFd w)) [] ⟨[("self", .o 1), ("initial_value", .s t), ("newline", .s "\n")], [x, .inst 606 []]⟩ = some (.next, [x, sioP t], [Rf ([PV.o 1, PV.s t], [x, sioP ""])]) := by kernel_rfl
theorem spec_si (w : Wn) (x : PO) (t : Str) : SpecK (WW w) 3 (.ref 376) [.o 1, .s t] [] [x, .inst 606 []] (.v .none) [x, sioP t] := by
  refine call_defB (D := 2) (fl := .next) (loc := [("self", .o 1), ("initial_value", .s t), ("newline", .s "\n")]) (defIs_of (si_def w)) (fun T ρ s vs kvs B hT ia ek ik => ?_) fun c ok e room hs => ?_
  · obtain ⟨a, b, rfl, i, j⟩ := isL2 ia
    cases kvs with
    | cons _ _ => cases ek
    | nil =>
    refine bind_al B.k (si_bind w a b _ _ _) (si_names w) (loc_binds rfl (.cons i (.cons j (.cons (.s _ _) .nil))) (nodupB_ok (l := ["self", "initial_value", "newline"]) (by decide)))
  · have gk := mkCfg_ok (t := tabs) (po := siPo w x t) (eo := .none _ _) ok e room (by decide) hs (tabs_ok w)
    obtain ⟨ds', V', run, ho⟩ := xr_ok (si_run w x t)
    exact ⟨V', ((sx_sound ok gk 60).2 _ _ _ _ _ _ _ run ⟨rfl, trivial⟩).g ok (by rw [ho]; rfl), ho⟩
/-- StringIO(text), behind one object -/
theorem spec_sio (w : Wn) (x : PO) (t : Str) : SpecK (WW w) 4 (.ref 606) [.s t] [] [x] (.o 1) [x, sioP t] :=
  spec_class (sio_own w) (SpecK.le (spec_new w (.s t) [x]) (by decide)) ⟨_, rfl⟩ (spec_si w x t)
end L2j
section L2k
/-! ## shlex(text, posix=True) -/
noncomputable abbrev liFd (w : Wn) : FuncData := fdOf (WW w).K 665
theorem li_def (w : Wn) : (isDef (WW w).K 665 (liFd w) && hasBody (liFd w)) = true := by kernel_rfl
noncomputable def liBinds (a b : Value) : List (Str × Value) := [("self", a), ("instream", b), ("infile", .none), ("posix", .bool true), ("punctuation_chars", .bool false)]
theorem li_bind2 (w : Wn) (a b : Value) (S : Setting) (sz tk : Nat) : (runAl (WW w).K S 200 sz tk (bindArgs (liFd w) ⟨[a, b], [("posix", .bool true)]⟩)).map (·.1) = some (liBinds a b) := by kernel_rfl
theorem li_names (w : Wn) : (["self", "instream", "infile", "posix", "punctuation_chars"] : List Str).all (fun x => (liFd w).scope.names.lookup x == some .local) = true := by kernel_rfl
theorem keep_sio (w : Wn) : keepOk (WW w).K (.ref 606) = true := by kernel_rfl
noncomputable abbrev liGo (w : Wn) (t : Str) : GOrc (WW w) 4 := GOrc.one (keep_sio w) (spec_sio w (.inst 741 []) t)
/-- the letters of a word -/
noncomputable def wcS : Str := Str.ofString "abcdfeghijklmnopqrstuvwxyzABCDEFGHIJKLMNOPQRSTUVWXYZ0123456789_" ++ Str.ofString "ßàáâãäåæçèéêëìíîïðñòóôõöøùúûüýþÿÀÁÂÃÄÅÆÇÈÉÊËÌÍÎÏÐÑÒÓÔÕÖØÙÚÛÜÝÞ"
/-- a new lexer -/
noncomputable def lexN : PO := .inst 741 [("instream", .o 1), ("infile", .v .none), ("posix", .v (.bool true)), ("eof", .v .none), ("commenters", .s "#"), ("wordchars", .s wcS), ("whitespace", .s " \t\r\n"), ("whitespace_split", .v (.bool false)), ("quotes", .s "'\""), ("escape", .s "\\"), ("escapedquotes", .s "\""), ("state", .s " "), ("pushback", .o 2), ("lineno", .i 1), ("debug", .i 0), ("token", .s ""), ("filestack", .o 3), ("source", .v .none), ("_punctuation_chars", .s "")]
noncomputable def liLoc (t : Str) : List (Str × PV) := [("self", .o 0), ("instream", .s t), ("infile", .v .none), ("posix", .v (.bool true)), ("punctuation_chars", .v (.bool false))]
theorem li_run (w : Wn) (t : Str) : gxr (mkCfg (W := WW w) (D := 4) (liFd w).scope tabs (blt _ _) (.none _ _)) (liGo w t).fn 60 (bodyOf (liFd w)) [] ⟨liLoc t, [.inst 741 []]⟩ =
  some (.next, [lexN, sioP t, .dq [], .dq []], [Rf ([PV.s t], ([] : List (Str × PV)), [PO.inst 741 []]), 2 = 2, 2 = 2, 2 = 2, 2 = 2, 2 = 2, wcS.length ≤ sizeLine, 2 = 2, 2 = 2, 2 = 2, 2 = 2, 2 = 2, 2 = 2, 2 = 2, 3 = 3, 3 = 3, 3 = 3, 4 = 4, 4 = 4, 4 = 4, Str.length "" ≤ sizeLine, 4 = 4]) := by kernel_rfl
theorem kw_one {T : List Addr} {ρ : List (Addr × Addr)} {h : Heap} {kvs : List (Str × Value)} {x : Str} {p : PV} (ek : kvs.map (·.1) = [x]) (ik : IsL T ρ h [p] (kvs.map (·.2))) : ∃ u, kvs = [(x, u)] ∧ Is T ρ h p u := by
  cases kvs with
  | nil => cases ek
  | cons z r =>
    obtain ⟨e1, e2⟩ := List.cons.inj ek
    cases r with
    | cons _ _ => cases e2
    | nil =>
      cases ik with | cons a b =>
      exact ⟨z.2, by rw [← e1], a⟩
theorem wcS_len : wcS.length ≤ sizeLine := by decide +kernel
theorem spec_li (w : Wn) (t : Str) : SpecK (WW w) 5 (.ref 665) [.o 0, .s t] [("posix", .v (.bool true))] [.inst 741 []] (.v .none) [lexN, sioP t, .dq [], .dq []] := by
  refine spec_runG (fl := .next) (li_def w) (tabs_ok w) (fun T ρ s vs kvs B hT ia ek ik => ?_) (li_run w t) (by simp only [AllP, true_and, and_true]; exact ⟨wcS_len, by decide +kernel⟩)
  obtain ⟨a, b, rfl, i, j⟩ := isL2 ia
  obtain ⟨u, rfl, iu⟩ := kw_one ek ik
  cases iu.iv
  exact bind_al B.k (li_bind2 w a b _ _ _) (li_names w) (loc_binds rfl (.cons i (.cons j (.cons (.v _) (.cons (.v _) (.cons (.v _) .nil))))) (nodupB_ok (l := ["self", "instream", "infile", "posix", "punctuation_chars"]) (by decide)))
theorem lex_makes (w : Wn) : makesIn (WW w).K 741 = true := by kernel_rfl
theorem lex_init (w : Wn) : findIn (WW w).K (.ref 741) "__init__" = some (some (.ref 665)) := by kernel_rfl
theorem lex_fn (w : Wn) : isFn (WW w).K (.ref 665) = true := by kernel_rfl
/-- shlex(text, posix=True) -/
theorem spec_lex (w : Wn) (t : Str) : SpecK (WW w) 6 (.ref 741) [.s t] [("posix", .v (.bool true))] [] (.o 0) [lexN, sioP t, .dq [], .dq []] :=
  spec_class0 (objs := []) (lex_makes w) (lex_init w) (lex_fn w) (spec_li w t)
end L2k
section L2l
/-! ## split -/
noncomputable abbrev spFd (w : Wn) : FuncData := fdOf (WW w).K 753
theorem sp_def (w : Wn) : (isDef (WW w).K 753 (spFd w) && hasBody (spFd w)) = true := by kernel_rfl
theorem sp_bind (w : Wn) (a : Value) (S : Setting) (sz tk : Nat) : (runAl (WW w).K S 200 sz tk (bindArgs (spFd w) ⟨[a], []⟩)).map (·.1) = some ([("s", a), ("comments", .bool false), ("posix", .bool true)] : List (Str × Value)) := by kernel_rfl
theorem sp_names (w : Wn) : (["s", "comments", "posix"] : List Str).all (fun x => (spFd w).scope.names.lookup x == some .local) = true := by kernel_rfl
theorem keep_lex (w : Wn) : keepOk (WW w).K (.ref 741) = true := by kernel_rfl
noncomputable abbrev spGo (w : Wn) (t : Str) : GOrc (WW w) 7 := GOrc.one (keep_lex w) ((spec_lex w t).le (by decide))
/-- the lexer that split reads -/
noncomputable abbrev lexR (L : List Nat) (n : Nat) (st : PV) (ln : Int) : List PO := lexE "" wcS st ln L n []
noncomputable abbrev LsIs (w : Wn) (L : List Nat) (ts : PV) (n' : Nat) (st' : PV) (ln' : Int) : Prop := Spec (WW w) 7 (.type "list") [.o 0] (lexR L 0 (.s " ") 1) ts (lexR L n' st' ln')
noncomputable abbrev spCfg {w : Wn} {L : List Nat} {ts : PV} {n' : Nat} {st' : PV} {ln' : Int} (h : LsIs w L ts n' st' ln') : Cfg := mkCfg (spFd w).scope tabs (blt _ _) (Orc.one rfl h)
theorem sp_run (w : Wn) (L : List Nat) (ts : PV) (n' : Nat) (st' : PV) (ln' : Int) (h : LsIs w L ts n' st' ln') : gxr (spCfg h) (spGo w (tx L)).fn 60 (bodyOf (spFd w)) [] ⟨[("s", .s (tx L)), ("comments", .v (.bool false)), ("posix", .v (.bool true))], []⟩ =
  some (.ret ts, lexR L n' st' ln', [0 = 0, Rf ([PV.s (tx L)], ([("posix", .v (.bool true))] : List (Str × PV)), ([] : List PO)), 4 = 4, 4 = 4, Rf ([PV.o 0], lexR L 0 (.s " ") 1), 4 = 4]) := by kernel_rfl
theorem ltL_strs {α : Type} {f : α → Str} : ∀ ts : List α, PV.ltL 0 (ts.map fun t => .s (f t)) = true
  | [] => rfl
  | t :: r => by show (true && PV.ltL 0 (r.map fun t => .s (f t))) = true; rw [ltL_strs r]; rfl
theorem wcS_39 : 39 ∉ wcS.cps.toList := by decide +kernel
theorem spec_split {w : Wn} {L : List Nat} {ts : List (List Nat)} {k : Nat} (h : toksT [] k L = some ts) (hz : L.length ≤ 1000000) (hl : ts.length ≤ 1000000) : SpecP (WW w) 8 (.ref 753) [.s (tx L)] (.l (ts.map fun t => .s (tx t))) := by
  obtain ⟨st', ln', n', sl⟩ := spec_list (w := w) (cm := "") (wc := wcS) (rest := []) (ln := 1) hz (by decide) wcS_39 (show toksT (Str.ofString "").cps.toList k L = some ts from h) hl
  refine spec_pure (spec_runG (sp_def w) (tabs_ok w) (fun T ρ s vs kvs B hT ia ek ik => ?_) (sp_run w L _ n' st' ln' sl) (by simp [AllP])) (by rfl) ?_
  · obtain ⟨a, rfl, i⟩ := isL1 ia
    cases kvs with
    | cons _ _ => cases ek
    | nil => exact bind_al B.k (sp_bind w a _ _ _) (sp_names w) (loc_binds rfl (.cons i (.cons (.v _) (.cons (.v _) .nil))) (nodupB_ok (l := ["s", "comments", "posix"]) (by decide)))
  · show PV.ltL 0 _ = true
    exact ltL_strs ts
end L2l
section P1
open PySem PySem.W PyProof.Rows PySem.Builtin PySem.Builtin.Re
/-! ## the search for an unsafe sign -/
noncomputable def reCode : Array Nat := #[14, 17, 4, 1, 1, 21, 9, 0, 604043296, 1, 0, 0, 0, 0, 0, 8, 4, 0, 13, 14, 21, 9, 0, 604043296, 1, 0, 0, 0, 0, 0, 8, 4, 0, 1]
noncomputable def sfBit (c : Nat) : Bool := decide (c < 256) && (reCode.getD (6 + (1 + c / 32)) 0).testBit (c % 32)
noncomputable def sf (c : Nat) : Bool := sfBit c || Sre.isWord c
open Sre
theorem inSet_a (c n : Nat) (seen : Sre.Seen) : inSet reCode c (n + 1) 5 true seen = inSet reCode c n 6 false (seen.add 21) := by kernel_rfl
theorem inSet_b (c n : Nat) (seen : Sre.Seen) : inSet reCode c (n + 1) 6 false seen = if sfBit c = true then .ok (false, seen.add 9) else inSet reCode c n 15 false (seen.add 9) := by kernel_rfl
theorem inSet_c (c n : Nat) (seen : Sre.Seen) : inSet reCode c (n + 1) 15 false seen = if (isWord c != false) = true then .ok (false, (seen.add 8).add 59) else inSet reCode c n 17 false ((seen.add 8).add 59) := by kernel_rfl
theorem inSet_d (c n : Nat) (seen : Sre.Seen) : inSet reCode c (n + 1) 17 false seen = .ok (true, seen.add 0) := by kernel_rfl
theorem inSet_a' (c n : Nat) (seen : Sre.Seen) : inSet reCode c (n + 1) 20 true seen = inSet reCode c n 21 false (seen.add 21) := by kernel_rfl
noncomputable def sfBit2 (c : Nat) : Bool := decide (c < 256) && (reCode.getD (21 + (1 + c / 32)) 0).testBit (c % 32)
theorem sfBit_eq (c : Nat) : sfBit2 c = sfBit c := by
  unfold sfBit sfBit2
  by_cases h : c < 256
  · have h8 : c / 32 < 8 := by omega
    have e : ∀ j, j < 8 → reCode.getD (21 + (1 + j)) 0 = reCode.getD (6 + (1 + j)) 0 := by decide
    rw [e _ h8]
  · simp [h]
theorem inSet_b' (c n : Nat) (seen : Sre.Seen) : inSet reCode c (n + 1) 21 false seen = if sfBit2 c = true then .ok (false, seen.add 9) else inSet reCode c n 30 false (seen.add 9) := by kernel_rfl
theorem inSet_c' (c n : Nat) (seen : Sre.Seen) : inSet reCode c (n + 1) 30 false seen = if (isWord c != false) = true then .ok (false, (seen.add 8).add 59) else inSet reCode c n 32 false ((seen.add 8).add 59) := by kernel_rfl
theorem inSet_d' (c n : Nat) (seen : Sre.Seen) : inSet reCode c (n + 1) 32 false seen = .ok (true, seen.add 0) := by kernel_rfl
theorem inSet_5 (c : Nat) (seen : Sre.Seen) : ∃ seen', inSet reCode c 34 5 true seen = .ok (!sf c, seen') := by
  rw [inSet_a c 33, inSet_b c 32, inSet_c c 31, inSet_d c 30]
  unfold sf
  by_cases h1 : sfBit c = true
  · rw [if_pos h1, h1]; exact ⟨_, rfl⟩
  · rw [if_neg h1]
    rw [Bool.not_eq_true] at h1
    rw [h1]
    cases h2 : isWord c with
    | true => exact ⟨_, rfl⟩
    | false => exact ⟨_, rfl⟩
theorem inSet_20 (c : Nat) (seen : Sre.Seen) : ∃ seen', inSet reCode c 34 20 true seen = .ok (!sf c, seen') := by
  rw [inSet_a' c 33, inSet_b' c 32, sfBit_eq, inSet_c' c 31, inSet_d' c 30]
  unfold sf
  by_cases h1 : sfBit c = true
  · rw [if_pos h1, h1]; exact ⟨_, rfl⟩
  · rw [if_neg h1]
    rw [Bool.not_eq_true] at h1
    rw [h1]
    cases h2 : isWord c with
    | true => exact ⟨_, rfl⟩
    | false => exact ⟨_, rfl⟩
/-- where the search goes on -/
theorem admitted_is (m : M) (hc : m.code = reCode) : ∀ (fuel s : Nat) (seen : Sre.Seen), m.lim < s + fuel → ∃ r seen', M.admitted m fuel s seen = .ok (r, seen') ∧ (match r with
    | none => ∀ k, s ≤ k → k < m.lim → sf (m.text.getD k 0) = true
    | some k => s ≤ k ∧ k < m.lim ∧ sf (m.text.getD k 0) = false)
  | 0, s, seen, h => ⟨none, seen, rfl, fun k h1 h2 => absurd h (by omega)⟩
  | fuel + 1, s, seen, h => by
    unfold M.admitted
    by_cases hs : s ≥ m.lim
    · rw [if_pos hs]; exact ⟨none, seen, rfl, fun k h1 h2 => absurd h2 (by omega)⟩
    · rw [if_neg hs, hc]
      obtain ⟨seen', e⟩ := inSet_5 (m.text.getD s 0) seen
      rw [show reCode.size = 34 from rfl, e]
      cases hq : sf (m.text.getD s 0) with
      | false => exact ⟨some s, seen', rfl, Nat.le_refl _, by omega, hq⟩
      | true =>
        obtain ⟨r, s2, e2, h2⟩ := admitted_is m hc fuel (s + 1) seen' (by omega)
        refine ⟨r, s2, e2, ?_⟩
        cases r with
        | none =>
          intro k h1 h3
          by_cases g : k = s
          · subst g; exact hq
          · exact h2 k (by omega) h3
        | some k => exact ⟨by have := h2.1; omega, h2.2⟩
/-- how the machine stands at its start -/
noncomputable def m0 (text : Array Nat) : M := { code := reCode, text, lim := text.size, start := 0, pc := 18, pos := 0, handed := 0, marks := #[], mustAdvance := false, seen := ({} : Sre.Seen).add 14 }
theorem forSearch_is (text : Array Nat) : forSearch reCode text 0 0 text.size false = if (decide (0 > text.size) || decide (text.size - 0 < 1)) = true then (m0 text).say false else M.attemptFrom { m0 text with lastStart := text.size } 0 true := by kernel_rfl
noncomputable def m1 (text : Array Nat) (seen : Sre.Seen) : M := { m0 text with lastStart := text.size, seen := seen }
noncomputable def m2 (text : Array Nat) (k : Nat) (seen : Sre.Seen) : M := M.attemptAt { m1 text seen with mustAdvance := false } k true
theorem attempt_is (text : Array Nat) : M.attemptFrom { m0 text with lastStart := text.size } 0 true = (match M.admitted (m1 text (({} : Sre.Seen).add 14)) (text.size + 1) 0 (({} : Sre.Seen).add 14) with
    | .ok (some s, seen) => m2 text s seen
    | .ok (none, seen) => (m1 text seen).say false
    | .error why => (m1 text (({} : Sre.Seen).add 14)).stick why) := by kernel_rfl
theorem fail_run (text : Array Nat) (seen : Sre.Seen) : (M.runFor 4 ((m1 text seen).say false)).outcome = some .failed := by kernel_rfl
theorem fail_run0 (text : Array Nat) : (M.runFor 4 ((m0 text).say false)).outcome = some .failed := by kernel_rfl
theorem m2_step (text : Array Nat) (k : Nat) (seen : Sre.Seen) : M.step (m2 text k seen) = (if k ≥ text.size then M.say { m2 text k seen with seen := seen.add 13 } false else match Sre.inSet reCode (text.getD k 0) 34 20 true (seen.add 13) with
    | .error why => M.stick { m2 text k seen with seen := seen.add 13 } why
    | .ok (false, s) => M.say { m2 text k seen with seen := s } false
    | .ok (true, s) => { m2 text k seen with seen := s, pc := 33, pos := k + 1 }) := by kernel_rfl
theorem m2_rest (text : Array Nat) (k : Nat) (seen s : Sre.Seen) : (M.runFor 3 { m2 text k seen with seen := s, pc := 33, pos := k + 1 }).outcome = some .matched := by kernel_rfl
theorem m2_none (text : Array Nat) (k : Nat) (seen : Sre.Seen) : M.runFor 4 (m2 text k seen) = M.runFor 3 (M.step (m2 text k seen)) := by kernel_rfl
theorem hit_run {text : Array Nat} {k : Nat} (seen : Sre.Seen) (hk : k < text.size) (hs : sf (text.getD k 0) = false) : (M.runFor 4 (m2 text k seen)).outcome = some .matched := by
  rw [m2_none, m2_step, if_neg (by omega)]
  obtain ⟨s, e⟩ := inSet_20 (text.getD k 0) (seen.add 13)
  rw [e, hs]
  exact m2_rest text k seen s
/-- the search's end -/
theorem search_end (text : Array Nat) : (M.runFor 4 (forSearch reCode text 0 0 text.size false)).outcome = some (if text.toList.all sf then .failed else .matched) := by
  rw [forSearch_is]
  by_cases h0 : (decide (0 > text.size) || decide (text.size - 0 < 1)) = true
  · rw [if_pos h0, fail_run0]
    have : text.size = 0 := by rcases Bool.or_eq_true_iff.mp h0 with q | q <;> have := of_decide_eq_true q <;> omega
    rw [Array.size_eq_zero_iff.mp this]; rfl
  · rw [if_neg h0, attempt_is]
    obtain ⟨r, seen', e, h⟩ := admitted_is (m1 text (({} : Sre.Seen).add 14)) rfl (text.size + 1) 0 (({} : Sre.Seen).add 14) (by show text.size < _; omega)
    rw [e]
    have hh : ∀ k, text.getD k 0 = text.toList.getD k 0 := fun k => by simp
    cases r with
    | none =>
      have : text.toList.all sf = true := by
        rw [List.all_eq_true]
        intro c hc
        obtain ⟨k, hk, e⟩ := List.mem_iff_getElem.mp hc
        have := h k (Nat.zero_le _) (show k < text.size by simpa using hk)
        have e2 : (m1 text (({} : Sre.Seen).add 14)).text.getD k 0 = c := by
          show text.getD k 0 = c
          rw [hh, List.getD_eq_getElem?_getD, List.getElem?_eq_getElem hk, e]; rfl
        rw [e2] at this; exact this
      rw [this]
      exact fail_run text seen'
    | some k =>
      obtain ⟨_, h2, h3⟩ := h
      have h2 : k < text.size := h2
      have h3 : sf (text.getD k 0) = false := h3
      have : text.toList.all sf = false := by
        rw [Bool.eq_false_iff]
        intro q
        rw [List.all_eq_true] at q
        have hk : k < text.toList.length := by simpa using h2
        have := q (text.toList[k]) (List.getElem_mem hk)
        rw [hh, List.getD_eq_getElem?_getD, List.getElem?_eq_getElem hk] at h3
        have h3 : sf text.toList[k] = false := h3
        rw [this] at h3; cases h3
      rw [this]
      exact hit_run seen' h2 h3
end P1
section P2
open PySem PySem.W PyProof.Rows PySem.Builtin PySem.Builtin.Re
theorem drive_is {m : Sre.M} (h : (m.runFor 4).outcome.isSome = true) : reDrive (2 ^ 64) m = pure (m.runFor 4) := by
  have e : (2 : Nat) ^ 64 = 18446744073709551615 + 1 := by decide
  rw [e]
  show (if (m.runFor 4).outcome.isSome then pure (m.runFor 4) else _) = _
  rw [if_pos h]
theorem rules_loop {M : Model} {A : Around} {E : Value → Shared → Prop} {Q : PUnit → Shared → Prop} {f : Nat → PUnit → Sem (ForInStep PUnit)} (hf : ∀ i u s (R : ForInStep PUnit → Shared → Prop), R (.yield PUnit.unit) s → wpAny M A (f i u) R E s) : ∀ (l : List Nat) (s : Shared), Q PUnit.unit s → wpAny M A (forIn l PUnit.unit f) Q E s
  | [], s, h => by rw [List.forIn_nil]; exact wpAny_pure h
  | i :: r, s, h => by
    rw [List.forIn_cons]
    exact wpAny_bind (hf i _ s _ (rules_loop hf r s h))
theorem run_end {M : Model} {A : Around} {E : Value → Shared → Prop} {s : Shared} {m : Sre.M} {b : Bool} {Q : Option Sre.M → Shared → Prop} (h : (m.runFor 4).outcome = some (if b then .failed else .matched)) (h1 : b = true → Q none s) (h2 : b = false → ∀ m', Q (some m') s) : wpAny M A (reRunToEnd m) Q E s := by
  unfold reRunToEnd
  rw [drive_is (by rw [h]; rfl)]
  refine wpAny_bind (wpAny_pure (wpAny_bind (rules_loop (fun i u s R hr => ?_) _ s ?_)))
  · split
    · exact wpAny_bind (wpAny_rule (wpAny_pure hr))
    · exact wpAny_pure hr
  · rw [h]
    cases b with
    | true => exact wpAny_pure (h1 rfl)
    | false => exact wpAny_pure (h2 rfl _)
theorem target_is (w : Wn) (x : Str) (t : Tok) : runPure (WW w).K 300 (reTarget "re.Pattern.search" "search" ⟨[.ref 58, .str x t], []⟩) = some { pattern := .ref 58, string := .str x t, code := reCode, text := x.cps, kind := 0, groups := 0, pos := min 0 x.cps.size, lim := min (2 ^ 63 - 1) x.cps.size } := by kernel_rfl
theorem check_is (w : Wn) (x : Str) (t : Tok) : runPure (WW w).K 300 (checkBoundCall "re.Pattern.search" ⟨[.ref 58, .str x t], []⟩) = some () := by kernel_rfl
theorem new_match {M : Model} {A : Around} {E : Value → Shared → Prop} {s : Shared} {p v : Value} {pos lim : Nat} {m : Sre.M} {Q : Value → Shared → Prop} (h : ∀ a o o', Q (.ref a) { s with heap := (s.heap.push o).push o' }) : wpAny M A (reNewMatch p v 0 pos lim m) Q E s := by
  show wpAny M A (newTuple [rawInt m.start, rawInt m.handed] >>= fun tp => newFields "re.Match" [v, p, rawInt pos, rawInt lim, rawInt m.lastindex, tp]) Q E s
  refine wpAny_bind (wpAny_newTuple ?_ (by rw [sizeLine_eq]; show 2 ≤ _; decide))
  exact wpAny_newObj_type (h _ _ _) (by show 6 ≤ _; rw [sizeLine_eq]; decide)
/-- the shape of the bound search -/
theorem fu_at (w : Wn) : (WW w).K.lookup 761 = some ⟨.type "builtin_function_or_method", none, .fields #[.builtin "re.Pattern.search", .ref 58], #[]⟩ := by kernel_rfl
theorem fu_entry : entryFor table "re.Pattern.search" = some Builtin.«re.Pattern.search» := entryFor_of_tree (by kernel_rfl)
theorem fu_quiet (args : Args) : (Code.builtin "re.Pattern.search" args).quiet = true := plainId_quiet (by decide +kernel) args
noncomputable def fuP (x : Str) : PV := if x.cps.toList.all sf then .v .none else .any
theorem spec_fu (w : Wn) (x : Str) (hz : x.length ≤ sizeLine) : SpecP (WW w) 1 (.ref 761) [.s x] (fuP x) := by
  rintro objs c ok e room s vs Q E B live frs O ia hq
  have hK : c.K = (WW w).K := congrArg Wd.K e
  obtain ⟨v, rfl, i⟩ := isL1 ia
  obtain ⟨t, rfl⟩ := i.is
  have X : (WW w).K.In s.heap := hK ▸ B.k
  refine wpAny_call (codeAny_of_tree ?_)
  show wpAny c.M c.A.in1 (callAny (.ref 761) ⟨[.str x t], []⟩) _ _ s
  refine nd_load (X _ _ (fu_at w)) ?_
  show wpAny c.M c.A.in1 (checkBoundCall "re.Pattern.search" ⟨[.ref 58, .str x t], []⟩ >>= fun _ => again (.builtin "re.Pattern.search" ⟨[.ref 58, .str x t], []⟩)) _ _ s
  refine wpAny_bind (runPure_sound X (check_is w x t) (wpAny_pure ⟨fu_quiet _, codeAny_builtin fu_entry ?_⟩))
  unfold Builtin.«re.Pattern.search»
  refine wpAny_bind (runPure_sound X (target_is w x t) ?_)
  have hl : min (2 ^ 63 - 1) x.cps.size = x.cps.size := by
    have : x.cps.size ≤ sizeLine := hz
    rw [sizeLine_eq] at this; omega
  unfold reAnswer
  dsimp only
  rw [hl, Nat.zero_min]
  unfold fuP at hq
  refine wpAny_bind (run_end (search_end x.cps) (fun h => ?_) fun h m' => ?_)
  · rw [if_pos h] at hq
    exact wpAny_pure (hq s .none (.refl s) B frs O (.v _))
  · rw [if_neg (by rw [h]; exact Bool.false_ne_true)] at hq
    refine wpAny_bind (new_match fun a o o' => wpAny_pure ?_)
    have kp : Keep c.N [] s.heap ((s.heap.push o).push o') := .of_all fun b o eb => Heap.get?_push_of_some _ (Heap.get?_push_of_some _ eb)
    exact hq { s with heap := (s.heap.push o).push o' } _ ⟨kp.all, .refl _, rfl⟩ (B.keep (T := []) ok.lowK (fun _ h => nomatch h) ok.lo kp) (frs.keep kp) (fun j po ej => (O j po ej).keep kp (fun _ _ _ z => nomatch z) (fun _ z => nomatch z) kp.all) .any
end P2
section P3
/-! ## quote -/
noncomputable def repQ (l : List Nat) : List Nat := l.flatMap fun d => if d = 39 then [39, 34, 39, 34, 39] else [d]
noncomputable def quoteL (l : List Nat) : List Nat := if l.isEmpty then [39, 39] else if l.all sf then l else 39 :: (repQ l ++ [39])
theorem repQ_free {l : List Nat} (h : 39 ∉ l) : repQ l = l := by
  induction l with
  | nil => rfl
  | cons a r ih =>
    have h1 : a ≠ 39 := fun e => h (e ▸ .head _)
    have h2 : 39 ∉ r := fun m => h (.tail _ m)
    show (if a = 39 then _ else [a]) ++ repQ r = _
    rw [if_neg h1, ih h2]; rfl
theorem repQ_append (a b : List Nat) : repQ (a ++ b) = repQ a ++ repQ b := List.flatMap_append ..
theorem repQ_join : ∀ parts : List Str, (∀ p ∈ parts, 39 ∉ p.cps.toList) → repQ (Str.join ⟨#[39]⟩ parts).cps.toList = (Str.join "'\"'\"'" parts).cps.toList
  | [], _ => rfl
  | [p], h => repQ_free (h p (List.mem_singleton.mpr rfl))
  | p :: q :: r, h => by
    have ih := repQ_join (q :: r) fun a ha => h a (List.mem_cons_of_mem _ ha)
    show repQ (p ++ ⟨#[39]⟩ ++ Str.join ⟨#[39]⟩ (q :: r)).cps.toList = (p ++ "'\"'\"'" ++ Str.join "'\"'\"'" (q :: r)).cps.toList
    simp only [Str.cps_append, Array.toList_append]
    rw [repQ_append, repQ_append, ih, repQ_free (h p (List.mem_cons_self ..))]
    rfl
theorem replace_q (l : List Nat) : Txt.replace (tx l) "'" "'\"'\"'" = tx (repQ l) := by
  have e : (Str.ofString "'") = ⟨#[39]⟩ := by decide +kernel
  rw [e]
  have h := repQ_join (Txt.split (tx l) ⟨#[39]⟩) (StrLaws.split_free (tx l) 39)
  rw [StrLaws.join_split, ← StrLaws.replace_one] at h
  apply Str.ext'
  apply Array.toList_inj.mp
  rw [← h]; rfl
theorem repQ_len (l : List Nat) : (repQ l).length ≤ 5 * l.length := by
  induction l with
  | nil => exact Nat.le_refl _
  | cons a r ih =>
    show ((if a = 39 then _ else [a]) ++ repQ r).length ≤ _
    rw [List.length_append]
    split <;> simp <;> omega
noncomputable abbrev quFd (w : Wn) : FuncData := fdOf (WW w).K 768
theorem qu_def (w : Wn) : defOk (WW w).K 768 ["s"] = true := by kernel_rfl
theorem qu_bind (w : Wn) (v : Value) : runPure (WW w).K 30 (bindArgs (quFd w) ⟨[v], []⟩) = some ([("s", v)] : List (Str × Value)) := by kernel_rfl
theorem keep_fu (w : Wn) : keepOk (WW w).K (.ref 761) = true := by kernel_rfl
noncomputable abbrev FuIs (w : Wn) (x : Str) (r : PV) (objs : List PO) : Prop := Spec (WW w) 1 (.ref 761) [.s x] objs r objs
noncomputable abbrev quCfg {w : Wn} {x : Str} {r : PV} {objs : List PO} (h : FuIs w x r objs) : Cfg := mkCfg (quFd w).scope tabs (POrc.one (keep_fu w) h) (.none _ _)
theorem qu_run0 (w : Wn) (objs : List PO) : xr (mkCfg (W := WW w) (D := 1) (quFd w).scope tabs (blt _ _) (.none _ _)) 60 (bodyOf (quFd w)) [] ⟨[("s", .s (tx []))], objs⟩ = some (.ret (.s "''"), objs, [(tx []).length ≤ sizeLine]) := by kernel_rfl
theorem qu_run1 (w : Wn) (a : Nat) (r : List Nat) (objs : List PO) (h : FuIs w (tx (a :: r)) (.v .none) objs) : xr (quCfg h) 60 (bodyOf (quFd w)) [] ⟨[("s", .s (tx (a :: r)))], objs⟩ = some (.ret (.s (tx (a :: r))), objs, [(tx (a :: r)).length ≤ sizeLine, Rf ([PV.s (tx (a :: r))], objs)]) := by kernel_rfl
theorem qu_run2 (w : Wn) (a : Nat) (r : List Nat) (objs : List PO) (h : FuIs w (tx (a :: r)) .any objs) : xs (quCfg h) 60 ((bodyOf (quFd w)).take 2) [] ⟨[("s", .s (tx (a :: r)))], objs⟩ = some (.next, [], ⟨[("s", .s (tx (a :: r)))], objs⟩, [(tx (a :: r)).length ≤ sizeLine, Rf ([PV.s (tx (a :: r))], objs)]) := by kernel_rfl
/-- a + y.replace(b, d) + e -/
structure RepX where
  a : Str
  y : Str
  b : Str
  d : Str
  e : Str
  ka : Nat
  pa : Pos
  py : Pos
  apos : Pos
  kb : Nat
  pb : Pos
  kd : Nat
  pd : Pos
  cp : Pos
  p1 : Pos
  ke : Nat
  pe : Pos
  p2 : Pos
  p3 : Pos
noncomputable def RepX.ex (r : RepX) : Expr := .BinOp (.BinOp (.Constant (.str r.a) r.ka r.pa) .Add (.Call (.Attribute (.Name r.y r.py) "replace" r.apos) [.Constant (.str r.b) r.kb r.pb, .Constant (.str r.d) r.kd r.pd] [] r.cp) r.p1) .Add (.Constant (.str r.e) r.ke r.pe) r.p2
noncomputable def RepX.st (r : RepX) : Stmt := .Return (some r.ex) r.p3
noncomputable def repX : Stmt → Option RepX
  | .Return (some (.BinOp (.BinOp (.Constant (.str a) ka pa) .Add (.Call (.Attribute (.Name y py) n apos) [.Constant (.str b) kb pb, .Constant (.str d) kd pd] [] cp) p1) .Add (.Constant (.str e) ke pe) p2)) p3 => some ⟨a, y, b, d, e, ka, pa, py, apos, kb, pb, kd, pd, cp, p1, ke, pe, p2, p3⟩
  | _ => none
theorem qu_shape (w : Wn) : ∃ r : RepX, (bodyOf (quFd w)).drop 2 = [r.st] ∧ r.a = "'" ∧ r.y = "s" ∧ r.b = "'" ∧ r.d = "'\"'\"'" ∧ r.e = "'" ∧ (r.apos.endLine == r.cp.line) = true := by
  have h : ((((bodyOf (quFd w)).drop 2).head?).bind repX).isSome = true := by kernel_rfl
  obtain ⟨r, e⟩ := Option.isSome_iff_exists.mp h
  refine ⟨((((bodyOf (quFd w)).drop 2).head?).bind repX).get h, ?_, ?_, ?_, ?_, ?_, ?_, ?_⟩ <;> kernel_rfl
theorem qu_name (w : Wn) : (quFd w).scope.names.lookup ("s" : Str) = some NameKind.local := by kernel_rfl
theorem sum_wp {prog : Program} {w : World} {A : Around} {s : Shared} {x y : Str} {t u : Tok} {Q E : Value → Shared → Prop} (hz : (x ++ y).length ≤ sizeLine) (hq : ∀ t' tk, Q (.str (x ++ y) t') { s with toks := tk }) : wpAny (model prog w) A (binaryOp .Add (.str x t) (.str y u)) Q E s := P.add_str (made_add hz fun _ _ => hq _ _)
theorem ev_rep {c : Fc} {V : View} {r : RepX} {x : Str} (ok : c.Ok) (hk : c.env.kindOf r.y = some .local) (hd : (r.y == ("__debug__" : Str)) = false) (hx : V.loc.lookup r.y = some (.s x)) (hl : (r.apos.endLine == r.cp.line) = true) (hbd : (r.b == r.d) = false) (hz : x.length ≤ 1048576) (hd14 : r.d.length ≤ 14)
    (z1 : (r.a ++ Txt.replace x r.b r.d).length ≤ sizeLine) (z2 : (r.a ++ Txt.replace x r.b r.d ++ r.e).length ≤ sizeLine) : EvOk c r.ex V (.s (r.a ++ Txt.replace x r.b r.d ++ r.e)) V := by
  intro s Q E I h
  refine wpAny_BinOp (wpAny_BinOp (wpAny_Constant_str ?_))
  rw [mc_eq (args := [_, _]) base_name hl rfl (show 2 < 30 by decide)]
  have I1 : Inv c V { s with toks := s.toks + 1 } := I.toks _
  obtain ⟨m, hn, hlo⟩ := I1.rep.ns
  obtain ⟨v, e1, i1⟩ := hlo _ _ hx
  obtain ⟨t, rfl⟩ := i1.is
  refine wpAny_bind (wpAny_Name (wpAny_loadName_local ok.kind hk (by rw [ok.loc]; exact hn.ns) e1 ?_) hd)
  refine wpAny_bind (wpAny_standAt (wpAny_bind (wpAny_holding (GM.replace ?_))))
  refine callWith_of (P := c.K.In) (by rw [starEach_any (by rfl)]; rfl) (keeps_ok (K := c.K) (f := .builtin "str.replace") rfl) (evalArgs_any (starEach_any (by rfl)) ?_)
  rw [starEach_cons (by rfl), starEach_cons (by rfl)]
  refine Calls.spliced_cons (wpAny_Constant_str (k := r.kb) (pos := r.pb) (Calls.spliced_cons (wpAny_Constant_str (k := r.kd) (pos := r.pd) (Calls.spliced_nil ⟨I.base.k, ?_⟩))))
  refine SC.replaceW (u := s.toks + 1) (v := s.toks + 1 + 1) (Nat.succ_ne_zero _) (Nat.succ_ne_zero _) (Nat.ne_of_lt (Nat.lt_succ_self _)) hbd hz hd14 fun t' k => ?_
  refine sum_wp z1 fun t2 k2 => wpAny_Constant_str (sum_wp z2 fun t3 k3 => ?_)
  exact h _ _ (I.toks k3) (.toks k3) (.s _ _)
/-- quote of a text -/
theorem spec_quote (w : Wn) (l : List Nat) (hz : l.length ≤ 1000000) : SpecP (WW w) 2 (.ref 768) [.s (tx l)] (.s (tx (quoteL l))) := by
  have hzl : (tx l).length ≤ sizeLine := by rw [tx_len, sizeLine_eq]; omega
  intro objs
  have fu := spec_fu w (tx l) hzl objs
  have bd : ∀ (T : List Addr) (ρ : List (Addr × Addr)) (s : Shared) (vs : List Value), Base (WW w).K (WW w).N s.heap → (∀ b ∈ T, (WW w).N ≤ b) → IsL T ρ s.heap [.s (tx l)] vs → ∃ binds, runPure (WW w).K 30 (bindArgs (fdOf (WW w).K 768) ⟨vs, []⟩) = some binds ∧ binds.map (·.1) = (["s"] : List Str) ∧ IsL T ρ s.heap (([("s", .s (tx l))] : List (Str × PV)).map (·.2)) (binds.map (·.2)) := fun T ρ s vs B hT ia => by
    obtain ⟨v, rfl, i⟩ := isL1 ia
    exact ⟨_, qu_bind w v, rfl, .cons i .nil⟩
  refine SpecC.spec ?_
  cases l with
  | nil => exact spec_run (qu_def w) (tabs_ok w) rfl bd (qu_run0 w objs) ⟨hzl, trivial⟩
  | cons a r =>
    unfold fuP at fu
    cases hs : ((tx (a :: r)).cps.toList.all sf) with
    | true =>
      have e : quoteL (a :: r) = a :: r := by
        show (if (a :: r).all sf then _ else _) = _
        rw [if_pos (show (a :: r).all sf = true from hs)]
      rw [e]
      rw [if_pos hs] at fu
      exact spec_run (qu_def w) (tabs_ok w) rfl bd (qu_run1 w a r objs fu) ⟨hzl, rfl, trivial⟩
    | false =>
      have e : quoteL (a :: r) = 39 :: (repQ (a :: r) ++ [39]) := by
        show (if (a :: r).all sf then _ else _) = _
        rw [if_neg (by rw [show (a :: r).all sf = false from hs]; exact Bool.false_ne_true)]
      rw [e]
      rw [if_neg (by rw [hs]; exact Bool.false_ne_true)] at fu
      obtain ⟨x, hb, ea, ey, eb, ed, ee, hl⟩ := qu_shape w
      refine spec_body (D := 1) (fl := .ret (.s (tx (39 :: (repQ (a :: r) ++ [39]))))) (loc := [("s", .s (tx (a :: r)))]) (qu_def w) rfl bd fun c ok e room hs => ?_
      have gk := mkCfg_ok (t := tabs) (po := POrc.one (keep_fu w) fu) (eo := .none _ _) ok e room (by decide) hs (tabs_ok w)
      refine ⟨⟨[("s", .s (tx (a :: r)))], objs⟩, ?_, rfl⟩
      have hsplit : bodyOf (fdOf (WW w).K 768) = (bodyOf (quFd w)).take 2 ++ [x.st] := by rw [← hb, List.take_append_drop]
      rw [hsplit]
      refine xs_app ok gk (qu_run2 w a r objs fu) ⟨hzl, rfl, trivial⟩ (ex_stop (sx_return ?_) (fun q => nomatch q))
      have hlen := repQ_len (a :: r)
      have er : Txt.replace (tx (a :: r)) x.b x.d = tx (repQ (a :: r)) := by rw [eb, ed]; exact replace_q _
      have e1 : x.a ++ Txt.replace (tx (a :: r)) x.b x.d = tx (39 :: repQ (a :: r)) := by
        rw [er, ea]
        apply Str.ext'; apply Array.toList_inj.mp
        rw [Str.cps_append, Array.toList_append]; rfl
      have e2 : x.a ++ Txt.replace (tx (a :: r)) x.b x.d ++ x.e = tx (39 :: (repQ (a :: r) ++ [39])) := by
        rw [e1, ee]
        apply Str.ext'; apply Array.toList_inj.mp
        rw [Str.cps_append, Array.toList_append]; rfl
      rw [← e2]
      refine ev_rep ok (by unfold Env.kindOf; rw [hs, ey]; exact qu_name w) (by rw [ey]; decide) (by rw [ey]; rfl) hl (by rw [eb, ed]; decide +kernel) (by rw [tx_len]; omega) (by rw [ed]; decide +kernel) ?_ ?_
      · rw [e1, tx_len, sizeLine_eq]; simp at hlen hz ⊢; omega
      · rw [e2, tx_len, sizeLine_eq]; simp at hlen hz ⊢; omega
end P3
section G4
/-! ## the generator is made -/
noncomputable def codeB (o : Obj) (P : Addr) : Bool := tabOf o == some P && (match o.data with
  | .fields vs => vs.getD 11 .none == .ref P && (match vs.getD 18 .none with | .str _ _ => true | _ => false) && (match vs.getD 7 .none with | .int _ _ => true | _ => false) &&
      (match vs.getD 9 .none with | .bool _ => true | _ => false) && (match vs.getD 10 .none with | .int _ _ => true | _ => false)
  | _ => false)
noncomputable def codeAtB (K : Frag) (c P : Addr) : Bool := (K.lookup c).elim false (codeB · P)
theorem Base.isCode {K : Frag} {N : Nat} {h : Heap} (lk : lowK K N = true) (B : Base K N h) {c P : Addr} (hc : codeAtB K c P = true) : ∃ ps, h.IsCode c P ps ∧ h.TableAt c P ps := by
  unfold codeAtB at hc
  cases hK : K.lookup c with
  | none => rw [hK] at hc; cases hc
  | some o =>
    rw [hK] at hc
    obtain ⟨ht, hd⟩ := Bool.and_eq_true_iff.mp (show codeB o P = true from hc)
    have ht := eq_of_beq ht
    have he := B.k c o hK
    obtain ⟨ps, eP, tr⟩ := B.tab c o P hK ht
    split at hd
    · rename_i vs ed
      obtain ⟨hd, h10⟩ := Bool.and_eq_true_iff.mp hd
      obtain ⟨hd, h9⟩ := Bool.and_eq_true_iff.mp hd
      obtain ⟨hd, h7⟩ := Bool.and_eq_true_iff.mp hd
      obtain ⟨h11, h18⟩ := Bool.and_eq_true_iff.mp hd
      have h11 := eq_of_beq h11
      obtain ⟨file, tf, h18⟩ : ∃ a b, vs.getD 18 .none = .str a b := by split at h18; exact ⟨_, _, by assumption⟩; cases h18
      obtain ⟨fl, tg, h7⟩ : ∃ a b, vs.getD 7 .none = .int a b := by split at h7; exact ⟨_, _, by assumption⟩; cases h7
      obtain ⟨inF, h9⟩ : ∃ a, vs.getD 9 .none = .bool a := by split at h9; exact ⟨_, by assumption⟩; cases h9
      obtain ⟨tx, tt, h10⟩ : ∃ a b, vs.getD 10 .none = .int a b := by split at h10; exact ⟨_, _, by assumption⟩; cases h10
      refine ⟨ps, ⟨o, vs, file, tf, fl, tg, inF, tx, tt, _, he, ed, h11, h18, h7, h9, h10, eP, rfl, tr, fun q => ?_⟩, ⟨o, vs, he, ?_, ed, ?_⟩, eP⟩
      · subst q
        rw [he] at eP
        exact (lowK_at lk hK).2.1 ps (Option.some.inj eP)
      · unfold tabOf at ht
        split at ht
        · rename_i g; exact eq_of_beq g
        · cases ht
      · unfold tabOf at ht
        split at ht
        · rw [ed] at ht
          dsimp only at ht
          split at ht
          · rename_i v ev
            split at ht
            · cases ht; exact ev
            · cases ht
          · cases ht
        · cases ht
    · cases hd
section
variable {W : Wd} {M : Model} {A : Around} {E : Value → Shared → Prop} {s : Shared}
theorem wp_gcode {env : Env} {c P : Addr} {pos : Pos} {qualname : Str} {scope : Scope} {Q : Value → Shared → Prop} (hc : env.code = .ref c) (lk : lowK W.K W.N = true) (B : Base W.K W.N s.heap) (hK : codeAtB W.K c P = true)
    (h : ∀ code h' tk, Keep W.N [] s.heap h' → Q code { s with heap := h', toks := tk }) : wpAny M A (genexprCode env pos qualname scope) Q E s := by
  obtain ⟨ps, ic, ta⟩ := B.isCode lk hK
  cases hf : codeAmong pos ps.toList with
  | some c' => exact wpAny_genexprCode_hit hc ic hf (h c' s.heap s.toks (.refl _))
  | none =>
    refine wpAny_genexprCodeX hc ic ta hf fun c' h' tk xb _ _ ic' _ ta' _ => h _ h' tk ⟨fun b o _ e => ?_, fun b o e => ?_⟩
    · by_cases hb : b = P
      · subst hb
        have := ta.2
        rw [e] at this; cases this
        rw [ta'.2]
        have lt : b < topN := by
          unfold codeAtB at hK
          cases hl : W.K.lookup c with
          | none => rw [hl] at hK; cases hK
          | some o' =>
            rw [hl] at hK
            exact ((lowK_at lk hl).2.2 b (eq_of_beq (Bool.and_eq_true_iff.mp (show codeB o' b = true from hK)).1)).2
        refine .tab ps _ lt rfl fun _ => ?_
        obtain ⟨_, _, _, _, _, _, _, _, _, op, _, _, _, _, _, _, _, hop, hpd, htr, _⟩ := ic'
        exact htr
      · rw [xb b o hb e]; exact .same
    · by_cases hb : b = P
      · subst hb; exact ⟨_, ta'.2⟩
      · exact ⟨o, xb b o hb e⟩
theorem wp_genEnv {scope : Scope} {glb bi : Addr} {it code : Value} {qual : Str} {Q : Env → Shared → Prop} (hcell : ∀ x ∈ scope.names, x.2 ≠ .cell) (h0 : scope.names.lookup (".0" : Str) = some .local) (hk : scope.kind = .function)
    (h : ∀ h' m, FrameAt h' s.heap.objs.size m → (∀ b o, s.heap.get? b = some o → h'.get? b = some o) → h'.objs.size = s.heap.objs.size + 1 → Q { scope, locals := s.heap.objs.size, globals := glb, cells := [], qual, func := none, code, frame := some s.heap.objs.size, builtins := bi } { s with heap := h', toks := s.toks + 1 }) :
    wpAny M A (newFunctionEnv scope glb [] [(".0", it)] qual none code none bi) Q E s := by
  simp only [newFunctionEnv, Option.isSome_none, Bool.false_eq_true, if_false]
  refine wpAny_bind (wpAny_alloc ?_)
  rw [forIn_yield_id [] (fun x hx c => by
    obtain ⟨name, kind⟩ := x
    have : (kind == NameKind.cell) = false := by simpa using hcell _ hx
    simp only [this, Bool.false_eq_true, if_false])]
  refine wpAny_bind (wpAny_pure (wpAny_bind ?_))
  refine bind_loop (L := s.heap.objs.size) (env := { scope, locals := s.heap.objs.size, globals := glb, cells := [], qual, func := none, code, frame := some s.heap.objs.size, builtins := bi }) rfl hk _ (fun _ _ => rfl) [(".0", it)] { s with heap := s.heap.push { cls := .type "frame", data := .dict #[] } } (fun _ => none) ⟨Heap.Ns.new .., ⟨_, Heap.get?_push_size _ rfl, rfl⟩⟩ (fun x hx => by rcases List.mem_singleton.mp hx with rfl; exact h0) fun h' F' S' => ?_
  refine wpAny_pure (h h' _ F' (fun b o e => (S'.2 b (Nat.ne_of_lt (Heap.lt_size e))).trans (Heap.get?_push_of_some _ e)) ?_)
  rw [S'.1, Heap.size_push]
end
section
variable {W : Wd} {A : Around} {C I l : Addr} {vs : List Value} {ts : List Str} {f : Str → Str} {cenv : Env} {x : Str} {D a g : Nat}
theorem gen_fresh {elt iter : Expr} {px : Pos} {scope : Scope} {pos : Pos} {s : Shared} (hh : A.handled = none) (hfr : A.frames.isSome = true) (Ev : GEnv W C I cenv x) (hts : StrsAre vs ts) (hCI : C ≠ I) (hCl : C ≠ l) (hIl : I ≠ l)
    (room : Room (A.in1.over (.compLoop (.GeneratorExp elt [⟨.Name x px, iter, [], 0⟩] scope pos) 0 (.ref I) .none cenv) []) D) (he : GElt W D cenv x elt ts f) (hgen : s.heap.IsGen a g)
    (hg : s.gens[g]? = some (.fresh (.compStart (.GeneratorExp elt [⟨.Name x px, iter, [], 0⟩] scope pos) 0 (.ref I) .none cenv))) : GAt W A C I l vs ts f a g 0 s := by
  refine ⟨hgen, _, hg, fun s'' P => ⟨rfl, ?_⟩⟩
  have loop := gen_seg (A := A.in1) (iter := iter) (px := px) (scope := scope) (pos := pos) (f := f) hh hfr Ev hts hCI hCl hIl room he ts.length 0 s'' s'' rfl (Nat.zero_le _) P (.refl _)
  show Seg _ A.in1 _ _ _ s'' _ ((compStart (.GeneratorExp elt [⟨.Name x px, iter, [], 0⟩] scope pos) 0 (.ref I) .none cenv).onRaise (leaving cenv)) [] s''
  unfold compStart
  rw [Sem.onRaise_eq_wrap]
  show Seg _ A.in1 _ _ _ s'' _ ((ask >>= _).wrap _ _ _ _) [] s''
  refine seg_bind_wrap (wpAny_askSetting ?_)
  split
  · exact seg_again rfl loop
  · refine seg_bind_wrap (wpAny_rule ?_)
    show Seg _ A.in1 _ _ _ s'' _ ((standAt iter.pos >>= _).wrap _ _ _ _) [] s''
    exact seg_bind_wrap (wpAny_standAt (seg_bind_wrap (wpAny_pyIter_listiter P.it (seg_again rfl loop))))
end
end G4
section G5
theorem strsOf_map : ∀ ts : List Str, strsOf (ts.map .s) = some ts
  | [] => rfl
  | t :: r => by show (strsOf (r.map .s)).map (t :: ·) = _; rw [strsOf_map r]; rfl
theorem no_size (h : Heap) : h.get? h.objs.size = none := by
  cases q : h.get? h.objs.size with
  | none => rfl
  | some o => exact absurd (Heap.lt_size q) (Nat.lt_irrefl _)
/-- what is known once a generator is made -/
structure GNew (c : Fc) (V : View) (ts : List Str) (f : Str → Str) (s s1 s' : Shared) (C I l a g : Nat) (vs : List Value) : Prop where
  st : St c.N c.muts s s1
  inv1 : Inv c V s1
  inv : Inv c V s'
  keep : Keep c.N [] s1.heap s'.heap
  os : s'.os = s1.os
  gz : g = s1.gens.size
  gens : ∃ gs, s'.gens = s1.gens.push gs
  nC : s1.heap.get? C = none
  nI : s1.heap.get? I = none
  aC : a ≠ C
  aI : a ≠ I
  low : c.N ≤ C
  at_ : GAt c.toWd c.A.in1.in1 C I l vs ts f a g 0 s'
  pre : GPre c.toWd c.A.in1.in1.in1 C I l vs 0 s'
theorem gen_make {c : Fc} {V : View} {elt iter : Expr} {x : Str} {px pos : Pos} {scope : Scope} {ts : List Str} {f : Str → Str} {D : Nat} {cc P : Addr} {s : Shared} {Q E : Value → Shared → Prop}
    (ok : c.Ok) (room : Room c.A (D + 2)) (hco : scope.isCoroutine = false) (hclos : closureFor scope c.env = pure []) (hcell : ∀ x ∈ scope.names, x.2 ≠ .cell) (h0 : scope.names.lookup (".0" : Str) = some .local) (hx : scope.names.lookup x = some .local) (hkind : scope.kind = .function)
    (hcode : c.env.code = .ref cc) (hK : codeAtB c.K cc P = true) (hbf : runPure c.K 30 (builtinsFor mainGlobals builtinsNs) = some builtinsNs)
    (hit : EvOk c iter V (.l (ts.map .s)) V) (hs : ∀ x, genFold iter c.env x = pure x) (he : ∀ cenv : Env, cenv.scope = scope → GElt c.toWd D cenv x elt ts f) (Iv : Inv c V s)
    (h : ∀ s1 s' C I l a g vs, GNew c V ts f s s1 s' C I l a g vs → Q (.ref a) s') :
    wpAny c.M c.A (eval (.GeneratorExp elt [⟨.Name x px, iter, [], 0⟩] scope pos) c.env) Q E s := by
  rw [eval_GeneratorExp1 _ _ _ _ _ _ _ hco, hclos]
  refine wpAny_bind (hit s _ _ Iv fun s1 v I1 t1 i1 => ?_)
  obtain ⟨l, ob, arr, n, si, hl⟩ := i1.il
  have hv := si.v
  subst hv
  have hts : StrsAre arr.toList ts := strsOf_is (strsOf_map ts) hl
  refine wpAny_bind (wpAny_standAt (wpAny_bind (wpAny_of_eq (hs _) (wpAny_bind (wpAny_holding (wpAny_pyIter_list si.isList ?_))))))
  have k2 : ∀ b o, s1.heap.get? b = some o → (s1.heap.push { cls := .type "list_iterator", data := .fields #[.ref l, .int 0 0] }).get? b = some o := fun b o e => Heap.get?_push_of_some _ e
  have it2 : (s1.heap.push { cls := .type "list_iterator", data := .fields #[.ref l, .int 0 0] }).IsListIter s1.heap.objs.size l 0 := ⟨_, Heap.get?_push_size _ rfl, rfl, rfl⟩
  have nI := no_size s1.heap
  have NI : c.N ≤ s1.heap.objs.size := by
    obtain ⟨o, e⟩ := I1.live c.L (ok.fx.mem _ (.head _))
    exact Nat.le_of_lt (Nat.lt_of_le_of_lt (ok.fx.low _ (ok.fx.mem _ (.head _))) (Heap.lt_size e))
  generalize s1.heap.objs.size = I at *
  generalize s1.heap.push { cls := .type "list_iterator", data := .fields #[.ref l, .int 0 0] } = h2 at *
  have K2 : Keep c.N [] s1.heap h2 := .of_all k2
  have B2 : Base c.K c.N h2 := I1.base.keep (T := []) ok.lowK (fun _ h => nomatch h) ok.lo K2
  refine wpAny_bind (wpAny_enterFrame (s := { s1 with heap := h2 }) B2.lim (by have := room.depth; omega) ?_)
  refine wpAny_bind (wpAny_pure ?_)
  refine wpAny_bind (wp_gcode (W := c.toWd) (s := { s1 with heap := h2 }) hcode ok.lowK B2 hK fun code h3 tk3 K3' => ?_)
  have K3 : Keep c.N [] s1.heap h3 := K2.trans K3'
  have B3 : Base c.K c.N h3 := I1.base.keep (T := []) ok.lowK (fun _ h => nomatch h) ok.lo K3
  have it3 : h3.IsListIter I l 0 := keep_iter K3' (fun z => nomatch z) it2
  have ls3 : h3.IsList l arr.toList.toArray := keep_list K3 (fun z => nomatch z) si.isList
  refine wpAny_bind ?_
  rw [ok.glb, ok.blt]
  refine runPure_sound (s := { s1 with heap := h3, toks := tk3 }) B3.k hbf ?_
  refine wpAny_bind (wp_genEnv (s := { s1 with heap := h3, toks := tk3 }) hcell h0 hkind fun h4 m F4 k4 sz4 => ?_)
  have nC := no_size h3
  have NC : I < h3.objs.size := by obtain ⟨o, e, _⟩ := it3; exact Heap.lt_size e
  have lC : l < h3.objs.size := by obtain ⟨o, e, _⟩ := ls3; exact Heap.lt_size e
  generalize hC : h3.objs.size = C at *
  simp only [newGenerator, newFields]
  refine wpAny_bind (wpAny_newGen (wpAny_bind (wpAny_mkText (wpAny_bind (wpAny_mkText (wpAny_newObj_type ?_ (by size_fits)))))))
  have a4 := no_size h4
  have eh : ({ s1 with heap := h4, toks := tk3 + 1 } : Shared).heap.objs.size = h4.objs.size := rfl
  have K5 : ∀ o, Keep c.N [] s1.heap (h4.push o) := fun o => K3.trans ((Keep.of_all k4).trans (Keep.of_all fun b o' e => Heap.get?_push_of_some _ e))
  have F5 : ∀ o, FrameAt (h4.push o) C m := fun o => (Keep.of_all (N := c.N) (T := []) fun b o' e => Heap.get?_push_of_some _ e).frame (fun z => nomatch z) F4
  have it5 : ∀ o, (h4.push o).IsListIter I l 0 := fun o => by obtain ⟨oi, e, r⟩ := it3; exact ⟨oi, Heap.get?_push_of_some _ (k4 _ _ e), r⟩
  have ls5 : ∀ o, (h4.push o).IsList l arr.toList.toArray := fun o => by obtain ⟨oi, e, r⟩ := ls3; exact ⟨oi, Heap.get?_push_of_some _ (k4 _ _ e), r⟩
  have inv5 : ∀ o tk gs, Inv c V { s1 with heap := h4.push o, toks := tk, gens := gs } := fun o tk gs => let J := I1.keep (s' := { s1 with heap := h4.push o }) ok (K5 o); ⟨J.rep, J.base, J.live, J.frs⟩
  have ng : ∀ C, h3.get? C = none → s1.heap.get? C = none := fun C e => by
    cases q : s1.heap.get? C with
    | none => rfl
    | some o => obtain ⟨o', e'⟩ := K3.there C o q; rw [e] at e'; cases e'
  have P5 : ∀ o tk gs, GPre c.toWd c.A.in1.in1.in1 C I l arr.toList 0 { s1 with heap := h4.push o, toks := tk, gens := gs } := fun o tk gs => ⟨(inv5 o tk gs).base, (inv5 o tk gs).frs, it5 o, ls5 o, m, F5 o⟩
  have haC : h4.objs.size ≠ C := by show h4.objs.size ≠ C; rw [sz4]; omega
  have haI : h4.objs.size ≠ I := by show h4.objs.size ≠ I; rw [sz4]; omega
  refine h s1 _ C I l h4.objs.size s1.gens.size arr.toList ⟨t1, I1, inv5 _ _ _, K5 _, rfl, rfl, ⟨_, rfl⟩, ng C nC, nI, haC, haI, Nat.le_trans NI (Nat.le_of_lt NC), ?_, P5 _ _ _⟩
  refine gen_fresh (D := D) (iter := iter) (px := px) (scope := scope) (pos := pos) room.handled ?_ ⟨rfl, rfl, hkind, rfl, rfl, hco, by exact hx, ok.lowK, ok.lo, Nat.le_trans NI (Nat.le_of_lt NC), NI⟩ hts (Nat.ne_of_gt NC) (Nat.ne_of_gt lC) ?_ ?_ (he _ rfl) ⟨_, _, _, Heap.get?_push_size _ rfl, rfl, rfl, rfl⟩ (Array.getElem?_push_size ..)
  · obtain ⟨fs, e, _⟩ := I1.frs
    show c.A.frames.isSome = true
    rw [e]; rfl
  · rintro rfl
    obtain ⟨o, e, _⟩ := si.isList
    rw [nI] at e; cases e
  · refine ⟨?_, ?_, room.handled⟩
    · have := room.depth
      show c.A.depth + 0 + 1 + D < _
      omega
    · have := room.units
      show c.A.units + 1 + 1 + 1 + 0 + 3 + 8 * D + 120 < _
      omega
theorem GNew.after {c : Fc} {V : View} {ts : List Str} {f : Str → Str} {s s1 s' s2 : Shared} {C I l a g : Nat} {vs : List Value} (ok : c.Ok) (n : GNew c V ts f s s1 s' C I l a g vs) (hg : s2.gens[g]? = some .finished) (st : CStep c.toWd C I g s' s2) : Inv c V s2 ∧ St c.N c.muts s s2 := by
  have ne : ∀ {b : Addr} {o : Obj}, s1.heap.get? b = some o → b ≠ C ∧ b ≠ I := fun {b o} e => ⟨fun q => (by subst q; rw [n.nC] at e; cases e), fun q => (by subst q; rw [n.nI] at e; cases e)⟩
  have k : Keep c.N [] s1.heap s2.heap := ⟨fun b o _ e => (n.keep.off b o (fun z => nomatch z) e).trans fun o' e' => st.off b o' (ne e).1 (ne e).2 e', fun b o e => let ⟨o', e'⟩ := n.keep.there b o e; st.there b o' (ne e).2 e'⟩
  obtain ⟨gs, eg⟩ := n.gens
  have gz := n.gz
  subst gz
  have gn : Gn s1.gens s2.gens := by
    have sz : s'.gens.size = s1.gens.size + 1 := by rw [eg, Array.size_push]
    have o' : ∀ k, k < s1.gens.size → s'.gens[k]? = s1.gens[k]? := fun k hk => by rw [eg, Array.getElem?_push, if_neg (Nat.ne_of_lt hk)]
    refine ⟨by have := st.gens.size; omega, fun k hk => (st.gens.old k (Nat.ne_of_lt hk) (by omega)).trans (o' k hk), fun hb y hy => ?_⟩
    obtain ⟨k, e⟩ := Array.mem_iff_getElem?.mp hy
    by_cases q : k = s1.gens.size
    · subst q; rw [hg] at e; cases e; rfl
    · refine st.gens.bare (fun k y q e => ?_) k y q e
      rw [eg, Array.getElem?_push, if_neg q] at e
      exact hb y (Array.mem_iff_getElem?.mpr ⟨k, e⟩)
  exact ⟨n.inv1.keep ok k, n.st.trans ⟨k.all, gn, st.os.trans n.os⟩⟩
theorem base_const {k : Const} {n : Nat} {p : Pos} {name : Str} {env : Env} {t : Sem Value} : attributeBase (.Constant k n p) name env t = t := rfl
/-- sep.join(elt for x in texts) -/
theorem ev_join {c : Fc} {V : View} {elt iter : Expr} {sep x : Str} {kc : Nat} {pc apos cp px pos : Pos} {scope : Scope} {ts : List Str} {f : Str → Str} {D : Nat} {cc P : Addr}
    (ok : c.Ok) (room : Room c.A (D + 2)) (hco : scope.isCoroutine = false) (hclos : closureFor scope c.env = pure []) (hcell : ∀ x ∈ scope.names, x.2 ≠ .cell) (h0 : scope.names.lookup (".0" : Str) = some .local) (hx : scope.names.lookup x = some .local) (hkind : scope.kind = .function)
    (hcode : c.env.code = .ref cc) (hK : codeAtB c.K cc P = true) (hbf : runPure c.K 30 (builtinsFor mainGlobals builtinsNs) = some builtinsNs)
    (hit : EvOk c iter V (.l (ts.map .s)) V) (hs : ∀ x, genFold iter c.env x = pure x) (he : ∀ cenv : Env, cenv.scope = scope → GElt c.toWd D cenv x elt ts f)
    (hl : (apos.endLine == cp.line) = true) (hz : ts.length ≤ 1000000) (hj : JoinOk sep (ts.map f) = true) :
    EvOk c (.Call (.Attribute (.Constant (.str sep) kc pc) "join" apos) [.GeneratorExp elt [⟨.Name x px, iter, [], 0⟩] scope pos] [] cp) V (.s (Txt.join sep (ts.map f))) V := by
  intro s Q E I h
  rw [mc_eq (args := [_]) base_const hl rfl (show 1 < 30 by decide)]
  refine wpAny_bind (wpAny_Constant_str (wpAny_bind (wpAny_standAt (wpAny_bind (wpAny_holding (GM.join ?_))))))
  refine callWith_of (P := c.K.In) (by rw [starEach_any (by rfl)]; rfl) (keeps_ok (K := c.K) (f := .builtin "str.join") rfl) (evalArgs_any (starEach_any (by rfl)) ?_)
  rw [starEach_cons (by rfl)]
  refine Calls.spliced_cons (gen_make ok room hco hclos hcell h0 hx hkind hcode hK hbf hit hs he (I.toks _) fun s1 s' C It l a g vs n => Calls.spliced_nil ⟨n.inv.base.k, ?_⟩)
  refine join_call (W := c.toWd) (A := c.A) room.handled (by have := room.depth; omega) ok.lowK ok.lo n.aC n.aI hz n.low n.at_ n.pre hj fun s2 t' k B F hg st => ?_
  obtain ⟨i2, st2⟩ := n.after ok hg st
  exact h _ _ (i2.toks k) (St.trans (.toks _) (st2.trans (.toks k))) (.s _ _)
end G5
section J1
/-! ## join -/
noncomputable abbrev joFd (w : Wn) : FuncData := fdOf (WW w).K 760
theorem jo_def (w : Wn) : defOk (WW w).K 760 ["split_command"] = true := by kernel_rfl
theorem jo_bind (w : Wn) (v : Value) : runPure (WW w).K 30 (bindArgs (joFd w) ⟨[v], []⟩) = some ([("split_command", v)] : List (Str × Value)) := by kernel_rfl
theorem keep_qu (w : Wn) : keepOk (WW w).K (.ref 768) = true := by kernel_rfl
/-- return sep.join(elt for x in y) -/
structure JoX where
  sep : Str
  kc : Nat
  pc : Pos
  apos : Pos
  elt : Expr
  x : Str
  px : Pos
  y : Str
  py : Pos
  scope : Scope
  pos : Pos
  cp : Pos
  p3 : Pos
noncomputable def JoX.ex (r : JoX) : Expr := .Call (.Attribute (.Constant (.str r.sep) r.kc r.pc) "join" r.apos) [.GeneratorExp r.elt [⟨.Name r.x r.px, .Name r.y r.py, [], 0⟩] r.scope r.pos] [] r.cp
noncomputable def JoX.st (r : JoX) : Stmt := .Return (some r.ex) r.p3
noncomputable def joX : Stmt → Option JoX
  | .Return (some (.Call (.Attribute (.Constant (.str sep) kc pc) _ apos) [.GeneratorExp elt [⟨.Name x px, .Name y py, _, _⟩] scope pos] _ cp)) p3 => some ⟨sep, kc, pc, apos, elt, x, px, y, py, scope, pos, cp, p3⟩
  | _ => none
noncomputable def JoX.good (r : JoX) : Bool := r.sep == (" " : Str) && r.x == ("arg" : Str) && r.y == ("split_command" : Str) && (r.apos.endLine == r.cp.line) && !r.scope.isCoroutine && r.scope.names.all (fun x => x.2 != .cell && x.2 != .free) && (r.scope.names.lookup (".0" : Str) == some .local) && (r.scope.names.lookup ("arg" : Str) == some .local) && r.scope.kind == .function
theorem jo_some (w : Wn) : (((bodyOf (joFd w)).head?).bind joX).isSome = true := by kernel_rfl
noncomputable def joG (w : Wn) : JoX := (((bodyOf (joFd w)).head?).bind joX).get (jo_some w)
theorem jo_shape (w : Wn) : bodyOf (joFd w) = [(joG w).st] := by kernel_rfl
theorem jo_good (w : Wn) : (joG w).good = true := by kernel_rfl
theorem jo_name (w : Wn) : (joFd w).scope.names.lookup ("split_command" : Str) = some NameKind.local := by kernel_rfl
theorem jo_code (w : Wn) : (joFd w).code = .ref 759 := by kernel_rfl
theorem jo_tab (w : Wn) : codeAtB (WW w).K 759 755 = true := by kernel_rfl
theorem jo_blt (w : Wn) : runPure (WW w).K 30 (builtinsFor mainGlobals builtinsNs) = some builtinsNs := by kernel_rfl
noncomputable abbrev QuIs (w : Wn) (t : Str) : Prop := Spec (WW w) 2 (.ref 768) [.s t] [] (.s (tx (quoteL t.cps.toList))) []
noncomputable abbrev elCfg {w : Wn} {t : Str} (h : QuIs w t) : Cfg := mkCfg (joG w).scope tabs (POrc.one (keep_qu w) h) (.none _ _)
theorem el_run (w : Wn) (t : Str) (h : QuIs w t) : pf (elCfg h) 20 (joG w).elt ⟨[("arg", .s t)], []⟩ = some (.s (tx (quoteL t.cps.toList)), [], [Rf ([PV.s t], ([] : List PO))]) := by kernel_rfl
noncomputable def glueL : List (List Nat) → List Nat
  | [] => []
  | [a] => a
  | a :: b :: r => a ++ 32 :: glueL (b :: r)
noncomputable def joinL (ws : List (List Nat)) : List Nat := glueL (ws.map quoteL)
theorem glue_join : ∀ ls : List (List Nat), Str.join " " (ls.map tx) = tx (glueL ls)
  | [] => rfl
  | [a] => rfl
  | a :: b :: r => by
    have ih := glue_join (b :: r)
    show tx a ++ " " ++ Str.join " " ((b :: r).map tx) = _
    rw [ih]
    apply Str.ext'; apply Array.toList_inj.mp
    rw [Str.cps_append, Str.cps_append, Array.toList_append, Array.toList_append]
    show a ++ [32] ++ glueL (b :: r) = a ++ 32 :: glueL (b :: r)
    simp
theorem txt_join (ls : List (List Nat)) : Txt.join " " (ls.map tx) = tx (glueL ls) := (StrLaws.glued_eq_join _ _).trans (glue_join ls)
theorem room_in1 {A : Around} {D : Nat} (r : Room A (D + 1)) : Room A.in1 D := ⟨rdD r.depth, ru (k := 1) (by decide) r.units, r.handled⟩
theorem spec_join (w : Wn) (ws : List (List Nat)) (hq : ∀ l ∈ ws, l.length ≤ 1000000) (hz : ((ws.map quoteL).map List.length).sum + ws.length ≤ 1000000) : SpecP (WW w) 6 (.ref 760) [.l (ws.map fun l => .s (tx l))] (.s (tx (joinL ws))) := by
  intro objs
  have g := jo_good w
  unfold JoX.good at g
  simp only [Bool.and_eq_true, Bool.not_eq_true', beq_iff_eq] at g
  obtain ⟨⟨⟨⟨⟨⟨⟨⟨g1, g2⟩, g3⟩, g4⟩, g5⟩, g6⟩, g7⟩, g8⟩, g9⟩ := g
  refine SpecC.spec (spec_bodyC (D := 5) (fl := .ret (.s (tx (joinL ws)))) (loc := [("split_command", .l (ws.map fun l => .s (tx l)))]) (jo_def w) rfl (fun T ρ s vs B hT ia => ?_) fun c ok e room hs hc => ⟨⟨[("split_command", .l (ws.map fun l => .s (tx l)))], objs⟩, ?_, rfl⟩)
  · obtain ⟨v, rfl, i⟩ := isL1 ia
    exact ⟨_, jo_bind w v, rfl, .cons i .nil⟩
  · rw [jo_shape w]
    refine ex_stop (sx_return ?_) (fun q => nomatch q)
    have em : (ws.map tx).map (fun t : Str => tx (quoteL t.cps.toList)) = (ws.map quoteL).map tx := by
      rw [List.map_map, List.map_map]; rfl
    have er : Txt.join (joG w).sep ((ws.map tx).map fun t : Str => tx (quoteL t.cps.toList)) = tx (joinL ws) := by rw [g1, em]; exact txt_join _
    rw [← er]
    have gx : (joG w).scope.names.lookup (joG w).x = some NameKind.local := by rw [g2]; exact g8
    have hn : ∀ x ∈ (joG w).scope.names, x.2 ≠ .cell ∧ x.2 ≠ .free := fun x hx => by
      have := List.all_eq_true.mp g6 x hx
      obtain ⟨a, b⟩ := Bool.and_eq_true_iff.mp this
      exact ⟨fun q => (by rw [q] at a; cases a), fun q => (by rw [q] at b; cases b)⟩
    have hK : codeAtB c.toWd.K 759 755 = true := by rw [e]; exact jo_tab w
    have hbf : runPure c.toWd.K 30 (builtinsFor mainGlobals builtinsNs) = some builtinsNs := by rw [e]; exact jo_blt w
    refine ev_join (D := 3) (P := 755) ok room.of_in1 g5 (closureFor_none fun x hx => (hn x hx).2) (fun x hx => (hn x hx).1) g7 gx g9 (hc.trans (jo_code w)) hK hbf ?_ (fun _ => rfl) (fun cenv hcs => ?_) (by rw [g4]; exact beq_self_eq_true _) ?_ ?_
    · refine ev_local ok ?_ ?_ ?_
      · unfold Env.kindOf; rw [hs, g3]; exact jo_name w
      · rw [g3]; decide
      · rw [g3]
        show some (PV.l (ws.map fun l => .s (tx l))) = some (.l ((ws.map tx).map .s))
        rw [List.map_map]; rfl
    · rw [e]
      intro c' ok' e' room' hs' t ht
      obtain ⟨l, hl, rfl⟩ := List.mem_map.mp ht
      rw [g2]
      have sq : QuIs w (tx l) := spec_quote w l (hq l hl) []
      have gk := mkCfg_ok (D := 2) (t := tabs) (po := POrc.one (keep_qu w) sq) (eo := .none _ _) ok' e' (room_in1 room') (by decide) (hs'.trans hcs) (tabs_ok w)
      exact (pf_ok ok' gk 20).1 _ _ _ _ _ (el_run w (tx l) sq) ⟨rfl, trivial⟩
    · rw [List.length_map]; omega
    · rw [g1, em]
      refine joinOk_of_weight ?_ (by decide)
      rw [List.map_map, List.length_map, List.length_map]
      have : (ws.map quoteL).map ((fun x : Str => x.length) ∘ tx) = (ws.map quoteL).map List.length := List.map_congr_left fun a _ => tx_len a
      rw [this]; omega
end J1
section F1
/-! ## for over a list -/
section
variable {prog : Program} {w : World} {A : Around} {E : Value → Shared → Prop} {s : Shared}
theorem iter_list {l : Addr} {items : Array Value} {Q : Value → Shared → Prop} (hl : s.heap.IsList l items) (hQ : Q (.ref s.heap.objs.size) { s with heap := s.heap.push { cls := .type "list_iterator", data := .fields #[.ref l, .int 0 0] } }) : wpAny (model prog w) A (call (.builtin "iter") [.ref l]) Q E s := by
  refine PySem.Calls.call_function_entry (by decide +kernel) (by decide +kernel) kdk_entry_iter (kdk_args_iter _) ?_
  unfold Builtin.«iter»
  refine wpAny_bind (m := someArgs "iter" 1 2 _) (wpAny_of_eq (a := [Value.ref l]) (by first | rfl | kernel_rfl!) ?_)
  show wpAny _ _ (pyIter (.ref l) >>= _) _ _ _
  refine wpAny_bind (wpAny_pyIter_list hl ?_)
  exact wpAny_pure ⟨_, rfl, hQ⟩
end
/-! ### what is the frame's no more -/
/-- no frame's names lie there -/
noncomputable def NoFr (A : Around) (It : Addr) : Prop := ∀ fs, A.frames = some fs → ∀ env ∈ fs, env.frame ≠ some It
theorem Frs.off {N : Nat} {A : Around} {h h' : Heap} {d : Addr} (x : Frs N A h) (k : Heap.ExtBut d h h') (hd : NoFr A d) : Frs N A h' := by
  obtain ⟨fs, e, hf⟩ := x
  refine ⟨fs, e, fun env he => ?_⟩
  obtain ⟨h1, L, m, h2, h3, h4⟩ := hf env he
  have hL : L ≠ d := fun q => hd fs e env he (q ▸ h2)
  obtain ⟨o, ho, hc⟩ := h4.cls
  exact ⟨h1, L, m, h2, h3, h4.ns.at' fun o e => k _ o hL e, o, k _ o hL ho, hc⟩
theorem Base.off {K : Frag} {N : Nat} {h h' : Heap} {d : Addr} (lk : lowK K N = true) (lo : builtinsNs < N ∧ cStatics < N) (B : Base K N h) (hd : N ≤ d) (xb : Heap.ExtBut d h h') : Base K N h' := by
  have ne : ∀ {a}, a < N → a ≠ d := fun h => Nat.ne_of_lt (Nat.lt_of_lt_of_le h hd)
  refine ⟨fun a o e => xb a o (ne (lowK_at lk e).1) (B.k a o e), ?_, B.lim.extBut xb (ne lo.2), fun a o q e t => ?_⟩
  · obtain ⟨mb, h1, h2⟩ := B.b
    exact ⟨mb, h1.at' fun o e => xb _ o (ne lo.1) e, h2⟩
  · obtain ⟨ps, h1, h2⟩ := B.tab a o q e t
    exact ⟨ps, xb _ _ (ne ((lowK_at lk e).2.2 q t).1) h1, h2⟩
theorem NoFr.of {N : Nat} {A : Around} {h : Heap} {d : Addr} (x : Frs N A h) (hc : ∃ o, h.get? d = some o ∧ o.cls ≠ .type "frame") : NoFr A d := fun fs e env he q => by
  obtain ⟨fs', e', hf⟩ := x
  rw [e] at e'; cases e'
  obtain ⟨_, L, m, h2, _, h4⟩ := hf env he
  rw [q] at h2; cases h2
  obtain ⟨o, ho, hc1⟩ := h4.cls
  obtain ⟨o', ho', hc2⟩ := hc
  rw [ho] at ho'; cases ho'; exact hc2 hc1
noncomputable abbrev lessA (T : List Addr) (d : Addr) : List Addr := T.filter (· != d)
theorem mem_lessA {T : List Addr} {b d : Addr} : b ∈ lessA T d ↔ b ∈ T ∧ b ≠ d := by simp [lessA]
theorem Match.to {T T' : List Addr} {ρ ρ' : List (Addr × Addr)} {h h' : Heap} (t : IsTo T T' ρ ρ' h h') : ∀ {r : List (Str × PV)} {es : List DictEntry}, Match T ρ h r es → Match T' ρ' h' r es
  | _, _, .nil => .nil
  | _, _, .cons a b c => .cons a (b.to t) (c.to t)
section
variable {T : List Addr} {ρ : List (Addr × Addr)} {h h' : Heap} {d : Addr}
theorem to_off (hT : d ∈ T) (xb : Heap.ExtBut d h h') : IsTo T (lessA T d) ρ ρ h h' := ⟨fun a ob n e _ _ => ⟨fun z => n (mem_lessA.mp z).1, xb a ob (fun q => n (q ▸ hT)) e⟩, fun _ _ _ e => e⟩
theorem ObjAt.off {k : Nat} {po : PO} (hT : d ∈ T) (xb : Heap.ExtBut d h h') (hm : d ∉ ρ.map (·.2)) (x : ObjAt T ρ h k po) : ObjAt (lessA T d) ρ h' k po := by
  have up : ∀ {a x : Addr} {o : Obj}, ρ[k]? = some (a, x) → h.get? x = some o → h'.get? x = some o := fun {a x o} e eo => xb x o (fun q => hm (List.mem_map.mpr ⟨(a, x), List.mem_of_getElem? e, q⟩)) eo
  have t := to_off (ρ := ρ) hT xb
  cases po with
  | inst K att => obtain ⟨a, dx, es, n, e, na, ea, ed, m⟩ := x; exact ⟨a, dx, es, n, e, fun z => na (mem_lessA.mp z).1, xb a _ (fun q => na (q ▸ hT)) ea, up e ed, m.to t⟩
  | list xs => obtain ⟨a, vs, n, e, ea, m⟩ := x; exact ⟨a, vs, n, e, up e ea, m.to t⟩
  | dq xs => obtain ⟨a, st, vs, e, ea, m⟩ := x; exact ⟨a, st, vs, e, up e ea, m.to t⟩
  | opaq ob => obtain ⟨a, e, ea, h1⟩ := x; exact ⟨a, e, up e ea, h1⟩
end
/-- an owned object, under no name, is given up, whatever became of it -/
theorem Inv.off {c : Fc} {V : View} {s : Shared} {T : List Addr} {ρ : List (Addr × Addr)} {h' : Heap} {d : Addr} (ok : (c.at T ρ).Ok) (I : Inv (c.at T ρ) V s) (hT : d ∈ T) (hm : d ∉ Mine.muts c.L ρ) (hf : NoFr c.A d) (xb : Heap.ExtBut d s.heap h') : Inv (c.at (lessA T d) ρ) V { s with heap := h' } := by
  obtain ⟨m, fr, lo⟩ := I.rep.ns
  have hL : c.L ≠ d := fun q => hm (q ▸ .head _)
  obtain ⟨o, ho, hc⟩ := fr.cls
  have t := to_off (ρ := ρ) hT xb
  refine ⟨⟨⟨m, ⟨fr.ns.at' fun o e => xb _ o hL e, o, xb _ o hL ho, hc⟩, fun x p e => let ⟨v, e1, e2⟩ := lo x p e; ⟨v, e1, e2.to t⟩⟩, fun j po e => (I.rep.objs j po e).off hT xb fun z => hm (.tail _ z)⟩, I.base.off ok.lowK ok.lo (ok.fx.low _ hT) xb, fun b hb => ?_, I.frs.off xb hf⟩
  obtain ⟨b1, b2⟩ := mem_lessA.mp hb
  obtain ⟨o, e⟩ := I.live b b1
  exact ⟨o, xb b o b2 e⟩
theorem Grow.off {c : Fc} {s : Shared} {T : List Addr} {ρ : List (Addr × Addr)} {d : Addr} (g : Grow c s T ρ) (hm : d ∉ Mine.muts c.L ρ) (hd : d ∉ c.T) : Grow c s (lessA T d) ρ :=
  ⟨⟨⟨fun b hb => mem_lessA.mpr ⟨g.ok.fx.mem b hb, fun q => hm (q ▸ hb)⟩, g.ok.fx.nodup, fun b hb => g.ok.fx.low b (mem_lessA.mp hb).1⟩, g.ok.kind, g.ok.loc, g.ok.glb, g.ok.blt, g.ok.lowK, g.ok.lo⟩, fun b hb => mem_lessA.mpr ⟨g.sub b hb, fun q => hd (q ▸ hb)⟩, fun b hb => g.fresh b (mem_lessA.mp hb).1, g.ext⟩
theorem St.off {N : Nat} {F : List Addr} {s0 s : Shared} {h' : Heap} {d : Addr} (x : St N F s0 s) (n : s0.heap.get? d = none) (xb : Heap.ExtBut d s.heap h') : St N F s0 { s with heap := h' } := by
  have ne : ∀ {b o}, s0.heap.get? b = some o → b ≠ d := fun e q => by rw [q, n] at e; cases e
  refine ⟨⟨fun b o nb e => (x.keep.off b o nb e).trans fun o' e' => by rw [xb b o' (ne e) e']; exact .same, fun b o e => ?_⟩, x.gens, x.os⟩
  obtain ⟨o', e'⟩ := x.keep.there b o e
  exact ⟨o', xb b o' (ne e) e'⟩
/-- an object of the frame's that no name holds is turned -/
theorem Inv.touch {c : Fc} {V : View} {s : Shared} {h' : Heap} {It : Addr} (ok : c.Ok) (I : Inv c V s) (hT : It ∈ c.T) (hm : It ∉ c.muts) (hc : ∃ o, s.heap.get? It = some o ∧ o.cls ≠ .type "frame") (k : Keep c.N [It] s.heap h') : Inv c V { s with heap := h' } := by
  have kT : Keep c.N c.T s.heap h' := k.sub fun b hb => by rcases List.mem_singleton.mp hb with rfl; exact hT
  have nm : ∀ {b}, b ∈ c.muts → b ∉ [It] := fun hb z => hm (by rcases List.mem_singleton.mp z with rfl; exact hb)
  obtain ⟨m, fr, lo⟩ := I.rep.ns
  refine ⟨⟨⟨m, k.frame (nm (.head _)) fr, fun x p e => let ⟨v, e1, e2⟩ := lo x p e; ⟨v, e1, e2.keep kT⟩⟩, fun j po e => (I.rep.objs j po e).keep k (fun a d e => nm (.tail _ (List.mem_map.mpr ⟨(a, d), List.mem_of_getElem? e, rfl⟩))) (fun b hb => by rcases List.mem_singleton.mp hb with rfl; exact hT) kT⟩, I.base.keep (T := [It]) ok.lowK (fun b hb => by rcases List.mem_singleton.mp hb with rfl; exact ok.fx.low _ hT) ok.lo k, fun b hb => let ⟨o, e⟩ := I.live b hb; k.there b o e, I.frs.one k (.inl hc)⟩
theorem St.touch {N : Nat} {F : List Addr} {s0 s : Shared} {h' : Heap} {It : Addr} (x : St N F s0 s) (n : s0.heap.get? It = none) (k : Keep N [It] s.heap h') : St N F s0 { s with heap := h' } := by
  have ne : ∀ {b o}, s0.heap.get? b = some o → b ∉ [It] := fun e z => by rcases List.mem_singleton.mp z with rfl; rw [n] at e; cases e
  exact ⟨⟨fun b o nb e => (x.keep.off b o nb e).trans fun o' e' => k.off b o' (ne e) e', fun b o e => let ⟨o', e'⟩ := x.keep.there b o e; k.there b o' e'⟩, x.gens, x.os⟩
inductive ForG (c : Fc) (x : Str) (body : List Stmt) : List PV → View → View → Prop
  | stop {V : View} : ForG c x body [] V V
  | step {p : PV} {ps : List PV} {V V2 V3 : View} {f : PF} : (∀ T ρ, (c.at T ρ).Ok → ExG (c.at T ρ) body { V with loc := put x p V.loc } f V2) → (f = .next ∨ f = .cont) → ForG c x body ps V2 V3 → ForG c x body (p :: ps) V V3
/-- what stands between two turns -/
structure ForAt (c : Fc) (x : Str) (body : List Stmt) (It l : Addr) (vs : List Value) (ps : List PV) (V' : View) (s0 : Shared) (i : Nat) (T : List Addr) (ρ : List (Addr × Addr)) (V : View) (s : Shared) : Prop where
  g : Grow c s0 T ρ
  hT : It ∈ T
  hm : It ∉ muts c.L ρ
  inv : Inv (c.at T ρ) V s
  len : V.objs.length = ρ.length
  st : St c.N c.muts s0 s
  it : s.heap.IsListIter It l i
  ls : s.heap.IsList l vs.toArray
  lT : l ∉ T
  iv : IsL T ρ s.heap (ps.drop i) (vs.drop i)
  F : ForG c x body (ps.drop i) V V'
theorem for_mut {c : Fc} {It : Addr} {T T' : List Addr} {ρ ρ' : List (Addr × Addr)} {s2 : Shared} {o : Obj} (hm : It ∉ muts c.L ρ) (e : s2.heap.get? It = some o) (g' : Grow (c.at T ρ) s2 T' ρ') : It ∉ muts c.L ρ' := by
  intro z
  obtain ⟨ν, eρ, hν⟩ := g'.ext
  have eρ : ρ' = ρ ++ ν := eρ
  subst eρ
  rcases List.mem_cons.mp z with z | z
  · exact hm (z ▸ .head _)
  · rw [List.map_append] at z
    rcases List.mem_append.mp z with z | z
    · exact hm (.tail _ z)
    · obtain ⟨p, hp, q⟩ := List.mem_map.mp z
      have := hν p hp
      rw [q, e] at this; exact no this.symm
theorem for_iv {c : Fc} {T T' : List Addr} {ρ ρ' : List (Addr × Addr)} {s2 s3 : Shared} {ps : List PV} {vs : List Value} (ok : (c.at T ρ).Ok) (g' : Grow (c.at T ρ) s2 T' ρ') (t3 : St c.N (c.at T ρ).muts s2 s3) (iv2 : IsL T ρ s2.heap ps vs) : IsL T' ρ' s3.heap ps vs := by
  obtain ⟨ν, eρ, _⟩ := g'.ext
  have eρ : ρ' = ρ ++ ν := eρ
  subst eρ
  exact (IsL.grow g'.fresh iv2).keep (t3.keep.sub fun b hb => g'.sub b (ok.fx.mem b hb))
theorem for_nx {c : Fc} {x : Str} {body : List Stmt} {It l : Addr} {vs : List Value} {ps : List PV} {V2 V' : View} {s0 s2 s3 : Shared} {i : Nat} {T T' : List Addr} {ρ ρ' : List (Addr × Addr)} (g : Grow c s0 T ρ) (hT : It ∈ T) (hm : It ∉ muts c.L ρ) (lT : l ∉ T) (st2 : St c.N c.muts s0 s2) (it2 : s2.heap.IsListIter It l (i + 1)) (ls2 : s2.heap.IsList l vs.toArray) (iv2 : IsL T ρ s2.heap (ps.drop (i + 1)) (vs.drop (i + 1)))
    (g' : Grow (c.at T ρ) s2 T' ρ') (l3 : V2.objs.length = ρ'.length) (I3 : Inv (c.at T' ρ') V2 s3) (t3 : St c.N (c.at T ρ).muts s2 s3) (hr : ForG c x body (ps.drop (i + 1)) V2 V') : ForAt c x body It l vs ps V' s0 (i + 1) T' ρ' V2 s3 := by
  refine ⟨g.trans st2.keep g', g'.sub _ hT, ?_, I3, l3, g.keep st2 t3, keep_iter t3.keep hm it2, keep_list t3.keep (fun z => lT (g.ok.fx.mem _ z)) ls2, fun z => ?_, for_iv g.ok g' t3 iv2, hr⟩
  · obtain ⟨o, e, _⟩ := it2
    exact for_mut hm e g'
  · rcases g'.fresh l z with q | q
    · exact lT q
    · obtain ⟨o, e, _⟩ := ls2; rw [q] at e; exact no e
theorem for_end {c : Fc} {x : Str} {body : List Stmt} {It l : Addr} {vs : List Value} {ps : List PV} {V V' : View} {s0 s : Shared} {T : List Addr} {ρ : List (Addr × Addr)} {h' : Heap} (nI : s0.heap.get? It = none) (nT : It ∉ c.T) (a : ForAt c x body It l vs ps V' s0 vs.length T ρ V s) (hF : NoFr c.A It) (xb : Heap.ExtBut It s.heap h') : Grow c s0 (lessA T It) ρ ∧ V'.objs.length = ρ.length ∧ Inv (c.at (lessA T It) ρ) V' { s with heap := h' } ∧ St c.N c.muts s0 { s with heap := h' } := by
  have ei : ps.drop vs.length = [] := by
    have h := a.iv
    rw [List.drop_length] at h
    cases q : ps.drop vs.length with
    | nil => rfl
    | cons => rw [q] at h; cases h
  have hf := a.F
  rw [ei] at hf
  cases hf
  exact ⟨a.g.off a.hm nT, a.len, a.inv.off a.g.ok a.hT a.hm hF xb, a.st.off nI xb⟩
theorem drop_at {α : Type} {vs : List α} {i : Nat} {v : α} (hv : vs[i]? = some v) : vs.drop i = v :: vs.drop (i + 1) := by
  obtain ⟨h, rfl⟩ := List.getElem?_eq_some_iff.mp hv
  exact List.drop_eq_getElem_cons h
theorem for_cons {c : Fc} {x : Str} {body : List Stmt} {V V' : View} {ps : List PV} {vs : List Value} {T : List Addr} {ρ : List (Addr × Addr)} {h : Heap} {i : Nat} {v : Value} (hv : vs[i]? = some v) (iv : IsL T ρ h (ps.drop i) (vs.drop i)) (F : ForG c x body (ps.drop i) V V') : ∃ p f V2, Is T ρ h p v ∧ IsL T ρ h (ps.drop (i + 1)) (vs.drop (i + 1)) ∧ (∀ T ρ, (c.at T ρ).Ok → ExG (c.at T ρ) body { V with loc := put x p V.loc } f V2) ∧ (f = .next ∨ f = .cont) ∧ ForG c x body (ps.drop (i + 1)) V2 V' := by
  rw [drop_at hv] at iv
  have ep : (ps.drop i).tail = ps.drop (i + 1) := List.tail_drop
  rw [← ep]
  generalize ps.drop i = q at iv F
  cases iv with
  | cons i1 ir =>
    cases F with
    | step hb hf hr => exact ⟨_, _, _, i1, ir, hb, hf, hr⟩
theorem for_go {c : Fc} {x : Str} {px : Pos} {body : List Stmt} {It l : Addr} {vs : List Value} {ps : List PV} {V V' : View} {s0 s : Shared} {T : List Addr} {ρ : List (Addr × Addr)} {Q : Flow → Shared → Prop} {E : Value → Shared → Prop} (hh : c.A.handled = none) (hk : c.env.kindOf x = some .local) (nI : s0.heap.get? It = none) (nT : It ∉ c.T)
    (a : ForAt c x body It l vs ps V' s0 0 T ρ V s) (k : ∀ s' T ρ, Grow c s0 T ρ → V'.objs.length = ρ.length → Inv (c.at T ρ) V' s' → St c.N c.muts s0 s' → Q .next s') :
    codeAny c.M c.A (.forLoop (.Name x px) (.ref It) body [] c.env) (fun r s' => match r with | .ok f => Q f s' | .error e => cameBackBy c.M c.A c.env E e s') s := by
  refine codeAny_forLoop (fun n s' => ∃ i T ρ V, n = vs.length + 1 - i ∧ i ≤ vs.length ∧ ForAt c x body It l vs ps V' s0 i T ρ V s') ?_ (vs.length + 1) ⟨0, T, ρ, V, rfl, Nat.zero_le _, a⟩
  rintro n s' ⟨i, T, ρ, V, rfl, hi, a⟩
  have nL : l ≠ It := fun q => a.lT (q ▸ a.hT)
  have cI : ∃ o, s'.heap.get? It = some o ∧ o.cls ≠ .type "frame" := by obtain ⟨o, e, c, _⟩ := a.it; exact ⟨o, e, by rw [c]; decide⟩
  cases hv : vs[i]? with
  | none =>
    cases (Nat.le_antisymm hi (List.getElem?_eq_none_iff.mp hv) : i = vs.length)
    refine wpAny_pyNext_list_end hh a.it a.ls (by rw [List.getElem?_toArray]; exact hv) fun h' xb => wpAny_execs_nil ?_
    obtain ⟨z1, z2, z3, z4⟩ := for_end nI nT a (.of a.inv.frs cI) xb
    exact k _ _ ρ z1 z2 z3 z4
  | some v =>
    refine wpAny_pyNext_list_item a.it a.ls (by rw [List.getElem?_toArray]; exact hv) fun h1 it1 sb1 => ?_
    have kI : Keep c.N [It] s'.heap h1 := by obtain ⟨o1, e1, _⟩ := it1; exact .sameBut sb1 e1 (.head _)
    have I1 := a.inv.touch (c := c.at T ρ) a.g.ok a.hT a.hm cI kI
    have iv1 := a.iv.keep (kI.sub fun b hb => by rcases List.mem_singleton.mp hb with rfl; exact a.hT)
    have ls1 : h1.IsList l vs.toArray := keep_list kI (fun z => nL (List.mem_singleton.mp z)) a.ls
    obtain ⟨p, f, V2, i1, ir, hb, hf, hr⟩ := for_cons hv iv1 a.F
    refine wpAny_assign_Name (store_name (c := c.at T ρ) a.g.ok hk I1 i1 fun s2 I2 t2 => ?_)
    refine hb T ρ a.g.ok s2 _ _ I2 a.len fun s3 fl T' ρ' g' l3 I3 t3 hfl => ?_
    have nx := for_nx a.g a.hT a.hm a.lT (a.g.keep (a.st.touch nI kI) t2) (keep_iter t2.keep a.hm it1) (keep_list t2.keep (fun z => a.lT (a.g.ok.fx.mem _ z)) ls1) (ir.keep (t2.keep.sub a.g.ok.fx.mem)) g' l3 I3 t3 hr
    have hlt : i < vs.length := (List.getElem?_eq_some_iff.mp hv).1
    rcases hf with rfl | rfl <;> (cases hfl; exact ⟨_, ndec hlt, i + 1, T', ρ', _, rfl, hlt, nx⟩)
end F1
section F2
noncomputable abbrev itObj (l : Addr) : Obj := { cls := .type "list_iterator", data := .fields #[.ref l, .int 0 0] }
/-- an iterator is laid: the frame owns it, under no name -/
structure ItNew (c : Fc) (V : View) (s : Shared) (It l : Addr) (s' : Shared) : Prop where
  no : s.heap.get? It = none
  g : Grow c s (It :: c.T) c.ρ
  hm : It ∉ c.muts
  inv : Inv (c.at (It :: c.T) c.ρ) V s'
  st : St c.N c.muts s s'
  it : s'.heap.IsListIter It l 0
  keep : Keep c.N [] s.heap s'.heap
theorem it_new {c : Fc} {V : View} {s : Shared} {l : Addr} (ok : c.Ok) (I : Inv c V s) : ItNew c V s s.heap.objs.size l { s with heap := s.heap.push (itObj l) } := by
  have no : s.heap.get? s.heap.objs.size = none := by
    cases q : s.heap.get? s.heap.objs.size with
    | none => rfl
    | some o => exact absurd (Heap.lt_size q) (Nat.lt_irrefl _)
  have NI : c.N ≤ s.heap.objs.size := by
    obtain ⟨o, e⟩ := I.live c.L (ok.fx.mem _ (.head _))
    exact Nat.le_of_lt (Nat.lt_of_le_of_lt (ok.fx.low _ (ok.fx.mem _ (.head _))) (Heap.lt_size e))
  have up : ∀ b o, s.heap.get? b = some o → (s.heap.push (itObj l)).get? b = some o := fun b o e => Heap.get?_push_of_some _ e
  have at_ : (s.heap.push (itObj l)).get? s.heap.objs.size = some (itObj l) := Heap.get?_push_size _ rfl
  generalize s.heap.objs.size = It at *
  generalize s.heap.push (itObj l) = h' at *
  have k : Keep c.N [] s.heap h' := .of_all up
  have nT : It ∉ c.T := fun z => by obtain ⟨o, e⟩ := I.live _ z; rw [no] at e; cases e
  have ok' : (c.at (It :: c.T) c.ρ).Ok := ⟨⟨fun b hb => .tail _ (ok.fx.mem b hb), ok.fx.nodup, fun b hb => by rcases List.mem_cons.mp hb with rfl | hb; exact NI; exact ok.fx.low b hb⟩, ok.kind, ok.loc, ok.glb, ok.blt, ok.lowK, ok.lo⟩
  have fr : ∀ b ∈ It :: c.T, b ∈ c.T ∨ s.heap.get? b = none := fun b hb => by rcases List.mem_cons.mp hb with rfl | hb; exact .inr no; exact .inl hb
  obtain ⟨m, hn, lo⟩ := I.rep.ns
  have kT : Keep c.N (It :: c.T) s.heap h' := k.all
  refine ⟨no, ⟨ok', fun b hb => .tail _ hb, fr, [], by simp, fun _ h => nomatch h⟩, fun z => nT (ok.fx.mem _ z), ⟨⟨⟨m, k.frame (fun z => nomatch z) hn, fun x p e => let ⟨v, e1, e2⟩ := lo x p e; ⟨v, e1, (e2.more no).keep kT⟩⟩, fun j po e => ((I.rep.objs j po e).more no).keep k (fun _ _ _ z => nomatch z) (fun _ z => nomatch z) kT⟩, I.base.keep (T := []) ok.lowK (fun _ h => nomatch h) ok.lo k, fun b hb => ?_, I.frs.keep k⟩, ⟨k.all, .refl _, rfl⟩, ⟨_, at_, rfl, rfl⟩, k⟩
  rcases List.mem_cons.mp hb with rfl | hb
  · exact ⟨_, at_⟩
  · obtain ⟨o, e⟩ := I.live b hb; exact ⟨o, up b o e⟩
end F2
section R1
/-! ## reduce -/
inductive Steps (W : Wd) (D : Nat) (f : Value) : List PV → List PV → List PV → Prop
  | nil {a : List PV} : Steps W D f a [] a
  | cons {a b r xs : List PV} {x : PV} : SpecP W D f [.r a, x] (.r b) → Steps W D f b xs r → Steps W D f a (x :: xs) r
noncomputable abbrev ruFd (w : Wn) : FuncData := fdOf (WW w).K 53
structure RedX where
  it : Str
  p0 : Pos
  g : Str
  p1 : Pos
  y : Str
  p2 : Pos
  p3 : Pos
  p4 : Pos
  s2 : Stmt
  x : Str
  px : Pos
  z : Str
  pz : Pos
  fb : List Stmt
  pp : Pos
  v : Str
  pv : Pos
  p5 : Pos
noncomputable def RedX.st1 (r : RedX) : Stmt := .Assign [.Name r.it r.p0] (.Call (.Name r.g r.p1) [.Name r.y r.p2] [] r.p3) r.p4
noncomputable def RedX.st3 (r : RedX) : Stmt := .For (.Name r.x r.px) (.Name r.z r.pz) r.fb [] r.pp
noncomputable def RedX.st4 (r : RedX) : Stmt := .Return (some (.Name r.v r.pv)) r.p5
noncomputable def redX : List Stmt → Option RedX
  | [.Assign [.Name it p0] (.Call (.Name g p1) [.Name y p2] _ p3) p4, s2, .For (.Name x px) (.Name z pz) fb _ pp, .Return (some (.Name v pv)) p5] => some ⟨it, p0, g, p1, y, p2, p3, p4, s2, x, px, z, pz, fb, pp, v, pv, p5⟩
  | _ => none
theorem ru_some (w : Wn) : (redX (bodyOf (ruFd w))).isSome = true := by kernel_rfl
noncomputable def ruG (w : Wn) : RedX := (redX (bodyOf (ruFd w))).get (ru_some w)
theorem ru_shape (w : Wn) : bodyOf (ruFd w) = [(ruG w).st1, (ruG w).s2, (ruG w).st3, (ruG w).st4] := by kernel_rfl
noncomputable def RedX.good (r : RedX) : Bool := r.it == ("it" : Str) && r.g == ("iter" : Str) && r.y == ("sequence" : Str) && r.x == ("element" : Str) && r.z == ("it" : Str) && r.v == ("value" : Str)
theorem ru_good (w : Wn) : (ruG w).good = true := by kernel_rfl
theorem ru_names (w : Wn) : (["it", "element", "value"] : List Str).all (fun x => (ruFd w).scope.names.lookup x == some .local) = true := by kernel_rfl
theorem ru_def (w : Wn) : (isDef (WW w).K 53 (ruFd w) && hasBody (ruFd w)) = true := by kernel_rfl
theorem ru_bind (w : Wn) (f x a : Value) (S : Setting) (sz tk : Nat) : (runAl (WW w).K S 200 sz tk (bindArgs (ruFd w) ⟨[f, x, a], []⟩)).map (·.1) = some ([("function", f), ("sequence", x), ("initial", a)] : List (Str × Value)) := by kernel_rfl
theorem ru_nms (w : Wn) : (["function", "sequence", "initial"] : List Str).all (fun x => (ruFd w).scope.names.lookup x == some .local) = true := by kernel_rfl
theorem keep_step (w : Wn) : keepOk (WW w).K (.ref 794) = true := by kernel_rfl
theorem keep_iter0 (w : Wn) : keepOk (WW w).K (.builtin "iter") = true := by kernel_rfl
noncomputable abbrev ruL0 (ws a : List PV) : List (Str × PV) := [("function", .v (.ref 794)), ("sequence", .l ws), ("initial", .r a)]
noncomputable abbrev ruL1 (ws a : List PV) (It : Value) : List (Str × PV) := [("function", .v (.ref 794)), ("sequence", .l ws), ("initial", .r a), ("it", .v It)]
noncomputable abbrev ruL2 (ws a : List PV) (It : Value) (b : List PV) : List (Str × PV) := [("function", .v (.ref 794)), ("sequence", .l ws), ("initial", .r a), ("it", .v It), ("value", .r b)]
noncomputable abbrev ruL3 (ws a : List PV) (It : Value) (b : List PV) (e : PV) : List (Str × PV) := [("function", .v (.ref 794)), ("sequence", .l ws), ("initial", .r a), ("it", .v It), ("value", .r b), ("element", e)]
noncomputable abbrev ruCfg0 (w : Wn) : Cfg := mkCfg (W := WW w) (D := 1) (ruFd w).scope tabs (blt _ _) (.none _ _)
theorem ru_g (w : Wn) (ws a : List PV) : pe (ruCfg0 w) 5 (.Name (ruG w).g (ruG w).p1) ⟨ruL0 ws a, []⟩ = some (.v (.builtin "iter"), []) := by kernel_rfl
theorem ru_as (w : Wn) (ws a : List PV) : pfs (ruCfg0 w) 10 [.Name (ruG w).y (ruG w).p2] ⟨ruL0 ws a, []⟩ = some ([.l ws], [], []) := by kernel_rfl
theorem ru_2 (w : Wn) (ws a : List PV) (It : Value) : Mine.xs (ruCfg0 w) 20 [(ruG w).s2] [] ⟨ruL1 ws a It, []⟩ = some (.next, [], ⟨ruL2 ws a It a, []⟩, []) := by kernel_rfl
noncomputable abbrev StIs (w : Wn) (D : Nat) (b : List PV) (e : PV) (b' : List PV) : Prop := Spec (WW w) D (.ref 794) [.r b, e] [] (.r b') []
noncomputable abbrev ruCfg {w : Wn} {D : Nat} {b : List PV} {e : PV} {b' : List PV} (h : StIs w D b e b') : Cfg := mkCfg (ruFd w).scope tabs (POrc.one (keep_step w) h) (.none _ _)
theorem ru_fb (w : Wn) {D : Nat} (ws a : List PV) (It : Value) (b : List PV) (e : PV) (b' : List PV) (h : StIs w D b e b') : Mine.xs (ruCfg h) 30 (ruG w).fb [] ⟨ruL3 ws a It b e, []⟩ = some (.next, [], ⟨ruL3 ws a It b' e, []⟩, [Rf ([PV.r b, e], ([] : List PO))]) := by kernel_rfl
theorem steps_for {w : Wn} {D : Nat} {c : Fc} (hD : 1 ≤ D) (e : c.toWd = WW w) (room : Room c.A.in1 D) (hs : c.env.scope = (ruFd w).scope) (ws a : List PV) (It : Value) {b r xs : List PV} (h : Steps (WW w) D (.ref 794) b xs r) :
    ∀ L, (L = ruL2 ws a It b ∨ ∃ q, L = ruL3 ws a It b q) → ∃ L', ForG c "element" (ruG w).fb xs ⟨L, []⟩ ⟨L', []⟩ ∧ L'.lookup ("value" : Str) = some (PV.r r) := by
  induction h with
  | nil => intro L hL; refine ⟨L, .stop, ?_⟩; rcases hL with rfl | ⟨q, rfl⟩ <;> rfl
  | @cons b b' r xs x hp _ ih =>
    intro L hL
    obtain ⟨L', h1, h2⟩ := ih (ruL3 ws a It b' x) (.inr ⟨x, rfl⟩)
    have eL : put "element" x L = ruL3 ws a It b x := by rcases hL with rfl | ⟨q, rfl⟩ <;> rfl
    refine ⟨L', .step (f := .next) (fun T ρ ok => ?_) (.inl rfl) h1, h2⟩
    rw [show ({ (⟨L, []⟩ : View) with loc := put "element" x (⟨L, []⟩ : View).loc } : View) = ⟨ruL3 ws a It b x, []⟩ from by show (⟨put "element" x L, []⟩ : View) = _; rw [eL]]
    have gk := mkCfg_ok (c := c.at T ρ) (t := tabs) (po := POrc.one (keep_step w) (hp [])) (eo := .none _ _) ok e room hD hs (tabs_ok w)
    exact ((sx_sound ok gk 30).2 _ _ _ _ _ _ _ (ru_fb w ws a It b x b' (hp [])) ⟨rfl, trivial⟩).g ok rfl
theorem spec_reduce (w : Wn) {D : Nat} (hD : 1 ≤ D) {a r xs : List PV} (h : Steps (WW w) D (.ref 794) a xs r) (h1 : PV.ltL 0 xs = true) (h2 : PV.ltL 0 a = true) (h3 : PV.ltL 0 r = true) : SpecP (WW w) (D + 1) (.ref 53) [.v (.ref 794), .l xs, .r a] (.r r) := by
  have g := ru_good w
  unfold RedX.good at g
  simp only [Bool.and_eq_true, beq_iff_eq] at g
  obtain ⟨⟨⟨⟨⟨g1, g2⟩, g3⟩, g4⟩, g5⟩, g6⟩ := g
  refine spec_pure (call_defB (fl := .ret (.r r)) (loc := ruL0 xs a) (defIs_of (ru_def w)) (fun T ρ s vs kvs B hT ia ek ik => ?_) fun c ok e room hs => ⟨⟨[], []⟩, ?_, rfl⟩) (by show (true && (PV.ltL 0 xs && (PV.ltL 0 a && true))) = true; rw [h1, h2]; rfl) (by show PV.ltL 0 r = true; exact h3)
  · cases kvs with
    | cons _ _ => cases ek
    | nil =>
      cases ia with
      | cons i1 ia => cases ia with
        | cons i2 ia => cases ia with
          | cons i3 ia =>
            cases ia
            exact bind_al B.k (ru_bind w _ _ _ _ _ _) (ru_nms w) (loc_binds rfl (.cons i1 (.cons i2 (.cons i3 .nil))) (nodupB_ok (l := ["function", "sequence", "initial"]) (by decide)))
  · have kn : ∀ x ∈ (["it", "element", "value"] : List Str), c.env.kindOf x = some .local := fun x hx => by
      unfold Env.kindOf; rw [hs]; exact beq_iff_eq.mp (List.all_eq_true.mp (ru_names w) x hx)
    intro s Q E I hl k
    have e' := e
    have gk := mkCfg_ok (D := 1) (t := tabs) (po := blt _ _) (eo := .none _ _) ok e (room.le hD) (by decide) hs (tabs_ok w)
    rw [show bodyOf (fdOf (WW w).K 53) = _ from ru_shape w]
    refine wpAny_execs_cons ?_
    unfold RedX.st1
    refine wpAny_Assign_Name (wpAny_Call_NameR ((pe_ok ok gk 5).e _ _ _ (ru_g w xs a) trivial s _ E I fun s1 v I1 t1 i1 => ?_)) (swaps_no rfl)
    cases i1
    refine callWith_ok (first := []) (by rw [e]; exact keep_iter0 w) rfl ((pf_ok ok gk 10).as _ _ _ _ _ (ru_as w xs a) trivial) I1 fun s2 vs I2 t2 i2 => ?_
    obtain ⟨v, rfl, j2⟩ := isL1 i2
    obtain ⟨l, ob, arr, n, si, il⟩ := j2.il
    have hv := si.v
    subst hv
    refine iter_list si.isList ?_
    have N := it_new (l := l) ok I2
    have ls3 := keep_list N.keep (fun z => nomatch z) si.isList
    have no0 : s.heap.get? s2.heap.objs.size = none := by
      cases q : s.heap.get? s2.heap.objs.size with
      | none => rfl
      | some o => obtain ⟨o', e'⟩ := (t1.trans t2).keep.there _ o q; rw [N.no] at e'; cases e'
    have lno : l ∉ s2.heap.objs.size :: c.T := fun z => by
      rcases List.mem_cons.mp z with z | z
      · obtain ⟨o, e, _⟩ := si.isList; rw [z, N.no] at e; cases e
      · exact si.out z
    have il3 := (il.more N.no).keep N.keep.all
    have nIt : s2.heap.objs.size ∉ c.T := fun z => by obtain ⟨o, e⟩ := I2.live _ z; rw [N.no] at e; exact no e
    generalize s2.heap.objs.size = It at *
    have ok3 := N.g.ok
    rw [g1]
    refine store_name (c := c.at (It :: c.T) c.ρ) (x := "it") (p := .v (.ref It)) ok3 (kn _ (.head _)) N.inv (.v _) fun s4 I4 t4 => ?_
    have gk3 := mkCfg_ok (c := c.at (It :: c.T) c.ρ) (D := 1) (t := tabs) (po := blt _ _) (eo := .none _ _) ok3 e (room.le hD) (by decide) hs (tabs_ok w)
    refine xs_then (c := c.at (It :: c.T) c.ρ) ok3 gk3 (pre := [(ruG w).s2]) (ru_2 w xs a (.ref It)) trivial s4 I4 fun s5 I5 t5 => ?_
    obtain ⟨L', hF, hL⟩ := steps_for (c := c) hD e room hs xs a (.ref It) h (ruL2 xs a (.ref It) a) (.inl rfl)
    refine wpAny_execs_cons ?_
    unfold RedX.st3
    rw [g4, g5]
    have st2 : St c.N c.muts s s2 := t1.trans t2
    have st5 : St c.N c.muts s s5 := st2.trans (N.st.trans (t4.trans t5))
    have it5 : s5.heap.IsListIter It l 0 := keep_iter (t4.trans t5).keep N.hm N.it
    have ls5 : s5.heap.IsList l arr.toList.toArray := keep_list (t4.trans t5).keep (fun z => si.out (ok.fx.mem _ z)) ls3
    refine wpAny_For (ev_local (c := c.at (It :: c.T) c.ρ) ok3 (kn _ (.head _)) (by decide) rfl s5 _ E I5 fun s6 v6 I6 t6 i6 => ?_) (fun _ => rfl)
    cases i6
    have it6 := keep_iter t6.keep N.hm it5
    have ls6 := keep_list t6.keep (fun z => si.out (ok.fx.mem _ z)) ls5
    refine wpAny_pyIter_listiter it6 ?_
    refine for_go (c := c) (x := "element") (s0 := s) (vs := arr.toList) (ps := xs) (T := It :: c.T) (ρ := c.ρ) room.handled (kn _ (.tail _ (.head _))) no0 nIt ⟨N.g.from st2.keep, .head _, N.hm, I6, hl, st5.trans t6, it6, ls6, lno, ?_, hF⟩ fun s7 T ρ g7 l7 I7 t7 => ?_
    · rw [List.drop_zero, List.drop_zero]
      exact il3.keep ((t4.trans (t5.trans t6)).keep.sub fun b hb => .tail _ (ok.fx.mem b hb))
    · refine wpAny_execs_cons ?_
      unfold RedX.st4
      rw [g6]
      refine sx_return (c := c.at T ρ) (V := ⟨L', []⟩) (V1 := ⟨L', []⟩) (ev_local (c := c.at T ρ) g7.ok (kn _ (.tail _ (.tail _ (.head _)))) (by decide) hL) s7 _ E I7 fun s8 fl I8 t8 hf => ?_
      obtain ⟨v8, rfl, i8⟩ := hf
      obtain ⟨⟨⟨m, hn, _⟩, ho⟩, B, lv, F⟩ := I8
      exact k s8 _ T ρ g7 l7 ⟨⟨⟨m, hn, fun x p e => by cases e⟩, ho⟩, B, lv, F⟩ (g7.keep t7 t8) ⟨v8, rfl, i8⟩
end R1
section Q1
/-! ## joined words are read back -/
theorem sf_plain {c : Nat} (h : sf c = true) : plainC [] c = true ∧ c ≠ 32 ∧ c ≠ 39 ∧ c ≠ 34 := by
  have key : ∀ d ∈ ([32, 9, 13, 10, 39, 34, 92] : List Nat), sf d = false := by decide +kernel
  have ne : ∀ d ∈ ([32, 9, 13, 10, 39, 34, 92] : List Nat), c ≠ d := fun d hd q => by rw [q, key d hd] at h; cases h
  refine ⟨?_, ne 32 (by decide), ne 39 (by decide), ne 34 (by decide)⟩
  unfold plainC
  have : ([32, 9, 13, 10, 39, 34, 92] : List Nat).contains c = false := by
    cases q : ([32, 9, 13, 10, 39, 34, 92] : List Nat).contains c with
    | false => rfl
    | true => exact absurd rfl (ne c (List.contains_iff_mem.mp q))
  rw [this]; rfl
theorem rd_safe : ∀ (l r : List Nat) (q : Bool) (t : List Nat), l.all sf = true → rdT [] (l ++ r) .aa q t = rdT [] r .aa q (t ++ l)
  | [], r, q, t, _ => by rw [List.append_nil]; rfl
  | c :: l, r, q, t, h => by
    obtain ⟨h1, h2⟩ := Bool.and_eq_true_iff.mp (show (sf c && l.all sf) = true from h)
    obtain ⟨p, a, b, d⟩ := sf_plain h1
    show rdT [] (c :: (l ++ r)) .aa q t = _
    rw [rdT, if_neg a, if_neg b, if_neg d, if_pos p, rd_safe l r q _ h2, List.append_assoc]; rfl
theorem rd_quoted : ∀ (l r : List Nat) (q : Bool) (t : List Nat), rdT [] (repQ l ++ 39 :: r) .sq q t = rdT [] r .aa true (t ++ l)
  | [], r, q, t => by
    show rdT [] (39 :: r) .sq q t = _
    rw [rdT, if_pos rfl, List.append_nil]
  | c :: l, r, q, t => by
    have e : repQ (c :: l) = (if c = 39 then [39, 34, 39, 34, 39] else [c]) ++ repQ l := rfl
    rw [e]
    by_cases h : c = 39
    · subst h
      rw [if_pos rfl]
      show rdT [] (39 :: 34 :: 39 :: 34 :: 39 :: (repQ l ++ 39 :: r)) .sq q t = _
      rw [rdT, if_pos rfl, rdT, if_neg (by decide), if_neg (by decide), if_pos rfl, rdT, if_neg (by decide), if_pos rfl, rdT, if_pos rfl, rdT, if_neg (by decide), if_pos rfl, rd_quoted l r true (t ++ [39]), List.append_assoc]; rfl
    · rw [if_neg h]
      show rdT [] (c :: (repQ l ++ 39 :: r)) .sq q t = _
      rw [rdT, if_neg h, rd_quoted l r true (t ++ [c]), List.append_assoc]; rfl
theorem rd_word (w r : List Nat) : ∃ q, (q = true ∨ w ≠ []) ∧ rdT [] (quoteL w ++ r) .sp false [] = rdT [] r .aa q w := by
  unfold quoteL
  cases w with
  | nil =>
    refine ⟨true, .inl rfl, ?_⟩
    show rdT [] (39 :: 39 :: r) .sp false [] = _
    rw [rdT, if_neg (by decide), if_pos rfl, rdT, if_pos rfl]
  | cons c l =>
    rw [if_neg (by simp)]
    by_cases h : (c :: l).all sf = true
    · rw [if_pos h]
      obtain ⟨h1, h2⟩ := Bool.and_eq_true_iff.mp (show (sf c && l.all sf) = true from h)
      obtain ⟨p, a, b, d⟩ := sf_plain h1
      refine ⟨false, .inr (by simp), ?_⟩
      show rdT [] (c :: (l ++ r)) .sp false [] = _
      rw [rdT, if_neg a, if_neg b, if_pos p, rd_safe l r false [c] h2]; rfl
    · rw [if_neg h]
      refine ⟨true, .inl rfl, ?_⟩
      show rdT [] (39 :: ((repQ (c :: l) ++ [39]) ++ r)) .sp false [] = _
      rw [rdT, if_neg (by decide), if_pos rfl, List.append_assoc]
      exact rd_quoted (c :: l) r false []
theorem toks_join : ∀ (ws : List (List Nat)) (k : Nat), ws.length < k → toksT [] k (joinL ws) = some ws
  | [], 0, h => by omega
  | [], k + 1, _ => rfl
  | [a], 0, h => by omega
  | [a], k + 1, _ => by
    obtain ⟨q, hq, e⟩ := rd_word a []
    show toksT [] (k + 1) (quoteL a) = _
    rw [List.append_nil] at e
    rw [toksT, e, rdT]
    have : (!q && a.isEmpty) = false := by
      rcases hq with rfl | hq
      · rfl
      · cases a with
        | nil => exact absurd rfl hq
        | cons => simp
    dsimp only
    rw [this]; rfl
  | a :: b :: r, 0, h => by omega
  | a :: b :: r, k + 1, h => by
    obtain ⟨q, hq, e⟩ := rd_word a (32 :: joinL (b :: r))
    show toksT [] (k + 1) (quoteL a ++ 32 :: joinL (b :: r)) = _
    have : (!q && a.isEmpty) = false := by
      rcases hq with rfl | hq
      · rfl
      · cases a with
        | nil => exact absurd rfl hq
        | cons => simp
    have h2 : (!a.isEmpty || q) = true := by
      rcases hq with rfl | hq
      · simp
      · cases a with
        | nil => exact absurd rfl hq
        | cons => rfl
    rw [toksT, e, rdT, if_pos rfl, if_pos h2]
    dsimp only
    rw [this, if_neg (by simp), toks_join (b :: r) k (by simp at h ⊢; omega)]; rfl
/-! ## programs as trees -/
inductive Tr where
  | w (x : List Nat)
  | l (ts : List Tr)
mutual
noncomputable def Tr.line : Tr → List Nat
  | .w x => x
  | .l ts => joinL (Tr.lines ts)
noncomputable def Tr.lines : List Tr → List (List Nat)
  | [] => []
  | t :: r => t.line :: Tr.lines r
end
mutual
noncomputable def Tr.pv : Tr → PV
  | .w x => .s (tx x)
  | .l ts => .l (Tr.pvs ts)
noncomputable def Tr.pvs : List Tr → List PV
  | [] => []
  | t :: r => t.pv :: Tr.pvs r
end
noncomputable def Tr.words : Tr → List Tr
  | .w x => [.w x]
  | .l ts => ts
noncomputable abbrev wRun : List Nat := [114, 117, 110]
noncomputable abbrev wDip : List Nat := [100, 105, 112]
noncomputable abbrev wCat : List Nat := [99, 97, 116]
noncomputable abbrev wSwap : List Nat := [115, 119, 97, 112]
noncomputable abbrev wUnit : List Nat := [117, 110, 105, 116]
noncomputable def madeT : List Tr → Tr
  | [.w x] => if x = [35] ∨ x = [126, 38] then .l [.w x] else .w x
  | ts => .l ts
/-- one word, top first; nested runs up to the fuel -/
noncomputable def stepF : Nat → List Tr → Tr → Option (List Tr)
  | 0, _, _ => none
  | n + 1, S, t => match t with
    | .l _ => some (t :: S)
    | .w x => if x = wRun then (match S with
        | a :: r => a.words.foldlM (stepF n) r
        | _ => some (t :: S))
      else if x = wDip then (match S with
        | a :: b :: r => (a.words.foldlM (stepF n) r).map (b :: ·)
        | _ => some (t :: S))
      else if x = wCat then (match S with
        | a :: b :: r => some (madeT (b.words ++ a.words) :: r)
        | _ => some (t :: S))
      else if x = wSwap then (match S with
        | a :: b :: r => some (b :: a :: r)
        | _ => some (t :: S))
      else if x = wUnit then (match S with
        | a :: r => some (madeT [a] :: r)
        | _ => some (t :: S))
      else some (t :: S)
noncomputable def vocab : List (List Nat) := [wRun, wDip, wCat, wSwap, wUnit, [97], [98], [35], [126, 38]]
mutual
noncomputable def Tr.wf : Tr → Bool
  | .w x => vocab.contains x
  | .l ts => Tr.wfs ts && (match ts with
    | [.w x] => decide (x = [35] ∨ x = [126, 38])
    | _ => true)
noncomputable def Tr.wfs : List Tr → Bool
  | [] => true
  | t :: r => t.wf && Tr.wfs r
end
theorem lines_map : ∀ ts : List Tr, Tr.lines ts = ts.map Tr.line
  | [] => rfl
  | t :: r => by show _ :: Tr.lines r = _; rw [lines_map r]; rfl
theorem pvs_map : ∀ ts : List Tr, Tr.pvs ts = ts.map Tr.pv
  | [] => rfl
  | t :: r => by show _ :: Tr.pvs r = _; rw [pvs_map r]; rfl
theorem wfs_iff : ∀ ts : List Tr, Tr.wfs ts = true ↔ ∀ t ∈ ts, t.wf = true
  | [] => by simp [Tr.wfs]
  | t :: r => by
    show (t.wf && Tr.wfs r) = true ↔ _
    rw [Bool.and_eq_true, wfs_iff r]; simp
/-- a text that stands for one safe word -/
noncomputable def safeW (l : List Nat) : Bool := !l.isEmpty && l.all sf
theorem safe_quote {l : List Nat} (h : safeW (quoteL l) = true) : safeW l = true := by
  unfold quoteL at h
  split at h
  · exact absurd h (by decide +kernel)
  · split at h
    · exact h
    · exfalso
      obtain ⟨_, h2⟩ := Bool.and_eq_true_iff.mp h
      have : sf 39 = true := List.all_eq_true.mp h2 39 (.head _)
      exact absurd this (by decide +kernel)
theorem safe_line {t : Tr} (hw : t.wf = true) (h : safeW t.line = true) : ∃ x, t = .w x ∧ x ≠ [35] ∧ x ≠ [126, 38] := by
  match t, hw, h with
  | .w x, _, h =>
    refine ⟨x, rfl, fun q => ?_, fun q => ?_⟩
    · subst q; exact absurd h (by decide +kernel)
    · subst q; exact absurd h (by decide +kernel)
  | .l [], _, h => exact absurd h (by decide +kernel)
  | .l [t], hw, h =>
    exfalso
    have hw' : (Tr.wfs [t] && (match [t] with | [.w x] => decide (x = [35] ∨ x = [126, 38]) | _ => true)) = true := hw
    obtain ⟨h1, h2⟩ := Bool.and_eq_true_iff.mp hw'
    have ht : t.wf = true := (wfs_iff [t]).mp h1 t (.head _)
    obtain ⟨x, rfl, a, b⟩ := safe_line ht (safe_quote h)
    rcases of_decide_eq_true h2 with q | q
    · exact a q
    · exact b q
  | .l (a :: b :: r), _, h =>
    exfalso
    obtain ⟨_, h2⟩ := Bool.and_eq_true_iff.mp h
    have : sf 32 = true := List.all_eq_true.mp h2 32 (by
      show 32 ∈ quoteL a.line ++ 32 :: glueL ((Tr.lines (b :: r)).map quoteL)
      exact List.mem_append.mpr (.inr (.head _)))
    exact absurd this (by decide +kernel)
theorem vocab_toks : ∀ x ∈ vocab, toksT [] 2 x = some [x] := by decide +kernel
theorem toks_more {cm : List Nat} : ∀ {k j : Nat} {r : List Nat} {ts : List (List Nat)}, toksT cm k r = some ts → k ≤ j → toksT cm j r = some ts
  | 0, _, _, _, h, _ => by cases h
  | k + 1, 0, _, _, _, hj => by omega
  | k + 1, j + 1, r, ts, h, hj => by
    rw [toksT] at h ⊢
    split at h
    · exact h
    · rename_i q t rem e
      split at h
      · cases h
      · rename_i g
        cases q2 : toksT cm k rem with
        | none => rw [q2] at h; cases h
        | some ys => rw [q2] at h; rw [if_neg g, toks_more q2 (by omega)]; exact h
    · cases h
theorem vocab_safe : ∀ x ∈ vocab, x ≠ [35] → x ≠ [126, 38] → quoteL x = x := by decide +kernel
theorem made_line (ts : List Tr) (h : ∀ t ∈ ts, t.wf = true) : (madeT ts).line = joinL (ts.map Tr.line) := by
  unfold madeT
  split
  · rename_i x
    split
    · rfl
    · rename_i g
      show x = quoteL x
      exact (vocab_safe x (List.contains_iff_mem.mp (h _ (.head _))) (fun q => g (.inl q)) (fun q => g (.inr q))).symm
  · show joinL (Tr.lines ts) = _; rw [lines_map]
theorem made_wf {ts : List Tr} (h : ∀ t ∈ ts, t.wf = true) : (madeT ts).wf = true := by
  unfold madeT
  split
  · rename_i x
    split
    · rename_i g
      show (Tr.wfs [.w x] && decide _) = true
      rw [(wfs_iff _).mpr h, decide_eq_true g]; rfl
    · exact h _ (.head _)
  · rename_i hn
    show (Tr.wfs ts && _) = true
    rw [(wfs_iff _).mpr h]
    split
    · rename_i x; exact absurd rfl (hn x)
    · rfl
theorem words_wf {t : Tr} (h : t.wf = true) : ∀ u ∈ t.words, u.wf = true := by
  cases t with
  | w x => intro u hu; rcases List.mem_singleton.mp hu with rfl; exact h
  | l ts => exact (wfs_iff ts).mp (Bool.and_eq_true_iff.mp h).1
end Q1
section Q2
/-! ## sizes -/
mutual
/-- what a tree's text takes within a text -/
noncomputable def Tr.q : Tr → Nat
  | .w _ => 5
  | .l ts => 5 * (1 + Tr.qs ts)
noncomputable def Tr.qs : List Tr → Nat
  | [] => 0
  | t :: r => t.q + Tr.qs r
end
noncomputable def Tr.pot : Tr → Nat
  | .w _ => 5
  | .l ts => 1 + Tr.qs ts
mutual
noncomputable def Tr.nl : Tr → Nat
  | .w _ => 1
  | .l ts => Tr.nls ts
noncomputable def Tr.nls : List Tr → Nat
  | [] => 0
  | t :: r => t.nl + Tr.nls r
end
mutual
noncomputable def Tr.nu : Tr → Nat
  | .w x => if x = wUnit then 1 else 0
  | .l ts => Tr.nus ts
noncomputable def Tr.nus : List Tr → Nat
  | [] => 0
  | t :: r => t.nu + Tr.nus r
end
noncomputable def pots : List Tr → Nat
  | [] => 0
  | t :: r => t.pot + pots r
theorem qs_app : ∀ a b : List Tr, Tr.qs (a ++ b) = Tr.qs a + Tr.qs b
  | [], b => by simp [Tr.qs]
  | t :: r, b => by show t.q + Tr.qs (r ++ b) = t.q + Tr.qs r + _; rw [qs_app r b]; omega
theorem nls_app : ∀ a b : List Tr, Tr.nls (a ++ b) = Tr.nls a + Tr.nls b
  | [], b => by simp [Tr.nls]
  | t :: r, b => by show t.nl + Tr.nls (r ++ b) = t.nl + Tr.nls r + _; rw [nls_app r b]; omega
theorem nus_app : ∀ a b : List Tr, Tr.nus (a ++ b) = Tr.nus a + Tr.nus b
  | [], b => by simp [Tr.nus]
  | t :: r, b => by show t.nu + Tr.nus (r ++ b) = t.nu + Tr.nus r + _; rw [nus_app r b]; omega
theorem pot_q (t : Tr) : t.pot ≤ t.q := by
  cases t with
  | w x => exact Nat.le_refl _
  | l ts => show 1 + Tr.qs ts ≤ 5 * (1 + Tr.qs ts); omega
theorem pots_qs : ∀ ts : List Tr, pots ts ≤ Tr.qs ts
  | [] => Nat.le_refl _
  | t :: r => Nat.add_le_add (pot_q t) (pots_qs r)
theorem pot_pos (t : Tr) : 1 ≤ t.pot := by
  cases t with
  | w x => show 1 ≤ 5; decide
  | l ts => show 1 ≤ 1 + _; omega
theorem pots_len : ∀ ts : List Tr, ts.length ≤ pots ts
  | [] => Nat.le_refl _
  | t :: r => by have h1 := pot_pos t; have h2 := pots_len r; show r.length + 1 ≤ t.pot + pots r; omega
theorem words_pot (t : Tr) : pots t.words ≤ t.pot := by
  cases t with
  | w x => exact Nat.le_refl _
  | l ts => show pots ts ≤ 1 + Tr.qs ts; have := pots_qs ts; omega
theorem words_nu (t : Tr) : Tr.nus t.words = t.nu := by
  cases t with
  | w x => rfl
  | l ts => rfl
theorem words_nl (t : Tr) : Tr.nls t.words = t.nl := by
  cases t with
  | w x => rfl
  | l ts => rfl
theorem made_nu (ts : List Tr) : (madeT ts).nu = Tr.nus ts := by
  unfold madeT
  split
  · split <;> rfl
  · rfl
theorem made_nl (ts : List Tr) : (madeT ts).nl = Tr.nls ts := by
  unfold madeT
  split
  · split <;> rfl
  · rfl
theorem made_pot (ts : List Tr) : (madeT ts).pot ≤ 1 + Tr.qs ts := by
  unfold madeT
  split
  · split
    · exact Nat.le_refl _
    · show 5 ≤ 1 + (5 + 0); decide
  · exact Nat.le_refl _
/-- as a list, less its brackets -/
theorem words_qs (t : Tr) : Tr.qs t.words ≤ t.pot := by
  cases t with
  | w x => exact Nat.le_refl _
  | l ts => show Tr.qs ts ≤ 1 + Tr.qs ts; omega
theorem q_len (l : List Nat) : (quoteL l).length ≤ 5 * l.length + 2 := by
  unfold quoteL
  split
  · simp
  · split
    · omega
    · have := repQ_len l
      simp; omega
theorem glue_len : ∀ ls : List (List Nat), (glueL ls).length ≤ (ls.map fun l => l.length + 1).sum
  | [] => Nat.le_refl _
  | [a] => by show a.length ≤ (a.length + 1) + 0; omega
  | a :: b :: r => by
    have := glue_len (b :: r)
    show (a ++ 32 :: glueL (b :: r)).length ≤ (a.length + 1) + ((b :: r).map fun l => l.length + 1).sum
    rw [List.length_append, List.length_cons]; omega
theorem vocab_len : ∀ x ∈ vocab, x.length + 1 ≤ 5 ∧ (quoteL x).length + 1 ≤ 5 := by decide +kernel
mutual
theorem line_len : ∀ t : Tr, t.wf = true → t.line.length + 1 ≤ t.pot ∧ (quoteL t.line).length + 1 ≤ t.q
  | .w x, h => vocab_len x (List.contains_iff_mem.mp h)
  | .l ts, h => by
    have h1 := lines_len ts (Bool.and_eq_true_iff.mp (show (Tr.wfs ts && _) = true from h)).1
    have h2 := glue_len ((Tr.lines ts).map quoteL)
    have e : (Tr.l ts).line = glueL ((Tr.lines ts).map quoteL) := rfl
    have h3 := q_len (Tr.l ts).line
    rw [List.map_map] at h2
    have h4 : (((Tr.lines ts).map ((fun l : List Nat => l.length + 1) ∘ quoteL))).sum ≤ Tr.qs ts := h1
    rw [e] at *
    refine ⟨?_, ?_⟩
    · show _ ≤ 1 + Tr.qs ts; omega
    · show _ ≤ 5 * (1 + Tr.qs ts); omega
theorem lines_len : ∀ ts : List Tr, Tr.wfs ts = true → ((Tr.lines ts).map fun l => (quoteL l).length + 1).sum ≤ Tr.qs ts
  | [], _ => Nat.le_refl _
  | t :: r, h => by
    obtain ⟨h1, h2⟩ := Bool.and_eq_true_iff.mp (show (t.wf && Tr.wfs r) = true from h)
    have a := (line_len t h1).2
    have b := lines_len r h2
    show ((quoteL t.line).length + 1) + ((Tr.lines r).map fun l => (quoteL l).length + 1).sum ≤ t.q + Tr.qs r
    omega
end
/-- what a machine's state may come to -/
noncomputable def Bd (p u : Nat) : Nat := p * 5 ^ u
theorem Bd.mono {p u p' u' : Nat} (h : p ≤ p') (g : u ≤ u') : Bd p u ≤ Bd p' u' := Nat.mul_le_mul h (Nat.pow_le_pow_right (by decide) g)
theorem Bd.add (p q u : Nat) : Bd (p + q) u = Bd p u + Bd q u := Nat.add_mul ..
theorem Bd.up {p u p' u' : Nat} (h : Bd p u ≤ Bd p' u') (k : Nat) : Bd p (u + k) ≤ Bd p' (u' + k) := by
  unfold Bd at *
  rw [Nat.pow_add, Nat.pow_add, ← Nat.mul_assoc, ← Nat.mul_assoc]
  exact Nat.mul_le_mul_right _ h
theorem Bd.self (p u : Nat) : p ≤ Bd p u := Nat.le_mul_of_pos_right _ (Nat.pow_pos (by decide))
theorem Bd.five (p u : Nat) : Bd (5 * p) u = Bd p (u + 1) := by unfold Bd; rw [Nat.pow_succ]; rw [Nat.mul_comm 5 p, Nat.mul_assoc, Nat.mul_comm 5]
theorem pots_app : ∀ a b : List Tr, pots (a ++ b) = pots a + pots b
  | [], b => by simp [pots]
  | t :: r, b => by show t.pot + pots (r ++ b) = t.pot + pots r + _; rw [pots_app r b]; omega
structure Kept (S : List Tr) (t : List Tr) (S' : List Tr) : Prop where
  u : Tr.nus S' ≤ Tr.nus S + Tr.nus t
  l : Tr.nls S' ≤ Tr.nls S + Tr.nls t
  b : Bd (pots S') (Tr.nus S') ≤ Bd (pots S + pots t) (Tr.nus S + Tr.nus t)
  wf : (∀ x ∈ S, x.wf = true) → (∀ x ∈ t, x.wf = true) → ∀ x ∈ S', x.wf = true
theorem Kept.trans {S S1 S' a b : List Tr} (x : Kept S a S1) (y : Kept S1 b S') : Kept S (a ++ b) S' := by
  have e1 := nus_app a b
  have e2 := nls_app a b
  have e3 := pots_app a b
  refine ⟨by have := x.u; have := y.u; omega, by have := x.l; have := y.l; omega, ?_, fun hS ht => y.wf (x.wf hS fun z hz => ht z (List.mem_append.mpr (.inl hz))) fun z hz => ht z (List.mem_append.mpr (.inr hz))⟩
  refine Nat.le_trans y.b ?_
  rw [e1, e3, Bd.add, ← Nat.add_assoc, ← Nat.add_assoc, Bd.add (pots S + pots a)]
  exact Nat.add_le_add (Bd.up x.b _) (Bd.mono (Nat.le_refl _) (by have := x.u; omega))
theorem Kept.push (S : List Tr) (t : Tr) : Kept S [t] (t :: S) := by
  refine ⟨by show t.nu + Tr.nus S ≤ Tr.nus S + (t.nu + 0); omega, by show t.nl + Tr.nls S ≤ Tr.nls S + (t.nl + 0); omega, Bd.mono (by show t.pot + pots S ≤ pots S + (t.pot + 0); omega) (by show t.nu + Tr.nus S ≤ Tr.nus S + (t.nu + 0); omega), fun h1 h2 x hx => ?_⟩
  rcases List.mem_cons.mp hx with rfl | hx
  · exact h2 _ (.head _)
  · exact h1 _ hx
theorem Kept.nil (S : List Tr) : Kept S [] S := ⟨Nat.le_refl _, Nat.le_refl _, Nat.le_refl _, fun h _ => h⟩
theorem Kept.fold {n : Nat} (ih : ∀ S t S', stepF n S t = some S' → Kept S [t] S') : ∀ (ts S S' : List Tr), ts.foldlM (stepF n) S = some S' → Kept S ts S'
  | [], S, S', h => by cases h; exact .nil S
  | t :: r, S, S', h => by
    rw [List.foldlM_cons] at h
    cases e : stepF n S t with
    | none => rw [e] at h; cases h
    | some S1 => rw [e] at h; exact (ih S t S1 e).trans (Kept.fold ih r S1 S' h)
/-- a step from words out of the stack -/
theorem Kept.from {S t R ws S' : List Tr} (k : Kept R ws S') (hu : Tr.nus R + Tr.nus ws ≤ Tr.nus S + Tr.nus t) (hl : Tr.nls R + Tr.nls ws ≤ Tr.nls S + Tr.nls t) (hp : pots R + pots ws ≤ pots S + pots t) (hw : (∀ x ∈ S, x.wf = true) → (∀ x ∈ R, x.wf = true) ∧ ∀ x ∈ ws, x.wf = true) : Kept S t S' :=
  ⟨Nat.le_trans k.u hu, Nat.le_trans k.l hl, Nat.le_trans k.b (Bd.mono hp hu), fun hS _ => k.wf (hw hS).1 (hw hS).2⟩
/-- a word is laid upon the stack -/
structure Laid1 (S : List Tr) (x : List Nat) : Prop where
  run : x ≠ wRun ∨ S.length ≤ 0
  dip : x ≠ wDip ∨ S.length ≤ 1
  cat : x ≠ wCat ∨ S.length ≤ 1
  swap : x ≠ wSwap ∨ S.length ≤ 1
  unit : x ≠ wUnit ∨ S.length ≤ 0
/-- the ways of a step -/
inductive StepC (n : Nat) : List Tr → Tr → List Tr → Prop
  | list (ts S : List Tr) : StepC n S (.l ts) (.l ts :: S)
  | push (x : List Nat) (S : List Tr) : Laid1 S x → StepC n S (.w x) (.w x :: S)
  | run (a : Tr) (r S' : List Tr) : a.words.foldlM (stepF n) r = some S' → StepC n (a :: r) (.w wRun) S'
  | dip (a b : Tr) (r S1 : List Tr) : a.words.foldlM (stepF n) r = some S1 → StepC n (a :: b :: r) (.w wDip) (b :: S1)
  | cat (a b : Tr) (r : List Tr) : StepC n (a :: b :: r) (.w wCat) (madeT (b.words ++ a.words) :: r)
  | swap (a b : Tr) (r : List Tr) : StepC n (a :: b :: r) (.w wSwap) (b :: a :: r)
  | unit (a : Tr) (r : List Tr) : StepC n (a :: r) (.w wUnit) (madeT [a] :: r)
theorem stepF_is {n : Nat} {S S' : List Tr} {t : Tr} (h : stepF (n + 1) S t = some S') : StepC n S t S' := by
  cases t with
  | l ts => cases h; exact .list _ _
  | w x =>
    by_cases h1 : x = wRun
    · subst h1
      cases S with
      | nil => cases h; exact .push _ _ ⟨.inr (Nat.zero_le _), .inl (by decide), .inl (by decide), .inl (by decide), .inl (by decide)⟩
      | cons a r => exact .run a r S' h
    by_cases h2 : x = wDip
    · subst h2
      have lay : ∀ {R : List Tr}, R.length ≤ 1 → Laid1 R wDip := fun q => ⟨.inl (by decide), .inr q, .inl (by decide), .inl (by decide), .inl (by decide)⟩
      cases S with
      | nil => cases h; exact .push _ _ (lay (Nat.zero_le _))
      | cons a r => cases r with
        | nil => cases h; exact .push _ _ (lay (Nat.le_refl _))
        | cons b r =>
          obtain ⟨S1, e, h⟩ := Option.map_eq_some_iff.mp (show (a.words.foldlM (stepF n) r).map (b :: ·) = some S' from h)
          subst h
          exact .dip a b r S1 e
    by_cases h3 : x = wCat
    · subst h3
      have lay : ∀ {R : List Tr}, R.length ≤ 1 → Laid1 R wCat := fun q => ⟨.inl (by decide), .inl (by decide), .inr q, .inl (by decide), .inl (by decide)⟩
      cases S with
      | nil => cases h; exact .push _ _ (lay (Nat.zero_le _))
      | cons a r => cases r with
        | nil => cases h; exact .push _ _ (lay (Nat.le_refl _))
        | cons b r => cases h; exact .cat a b r
    by_cases h4 : x = wSwap
    · subst h4
      have lay : ∀ {R : List Tr}, R.length ≤ 1 → Laid1 R wSwap := fun q => ⟨.inl (by decide), .inl (by decide), .inl (by decide), .inr q, .inl (by decide)⟩
      cases S with
      | nil => cases h; exact .push _ _ (lay (Nat.zero_le _))
      | cons a r => cases r with
        | nil => cases h; exact .push _ _ (lay (Nat.le_refl _))
        | cons b r => cases h; exact .swap a b r
    by_cases h5 : x = wUnit
    · subst h5
      cases S with
      | nil => cases h; exact .push _ _ ⟨.inl (by decide), .inl (by decide), .inl (by decide), .inl (by decide), .inr (Nat.zero_le _)⟩
      | cons a r => cases h; exact .unit a r
    have e : stepF (n + 1) S (.w x) = some (.w x :: S) := by
      unfold stepF
      dsimp only
      rw [if_neg h1, if_neg h2, if_neg h3, if_neg h4, if_neg h5]
    rw [e] at h
    cases h
    exact .push _ _ ⟨.inl h1, .inl h2, .inl h3, .inl h4, .inl h5⟩
theorem kept_dip {a b : Tr} {r S1 : List Tr} (k : Kept r a.words S1) : Kept (a :: b :: r) [.w wDip] (b :: S1) := by
  have hu := k.u
  have hl := k.l
  have wu := words_nu a
  have wl := words_nl a
  have wp := words_pot a
  have eu : Tr.nus (a :: b :: r) = a.nu + (b.nu + Tr.nus r) := rfl
  have el : Tr.nls (a :: b :: r) = a.nl + (b.nl + Tr.nls r) := rfl
  refine ⟨Nat.le_trans (show b.nu + Tr.nus S1 ≤ a.nu + (b.nu + Tr.nus r) by omega) (Nat.le_add_right _ _), Nat.le_trans (show b.nl + Tr.nls S1 ≤ a.nl + (b.nl + Tr.nls r) by omega) (Nat.le_add_right _ _), ?_, fun hS ht x hx => ?_⟩
  · refine Nat.le_trans (?_ : Bd (b.pot + pots S1) (b.nu + Tr.nus S1) ≤ Bd ((a.pot + (b.pot + pots r)) + 5) (a.nu + (b.nu + Tr.nus r))) (Bd.mono (Nat.le_refl _) (Nat.le_add_right _ _))
    rw [Bd.add]
    have h1 : Bd b.pot (b.nu + Tr.nus S1) ≤ Bd b.pot (a.nu + (b.nu + Tr.nus r)) := Bd.mono (Nat.le_refl _) (by omega)
    have h2 : Bd (pots S1) (b.nu + Tr.nus S1) ≤ Bd (a.pot + pots r + 5) (a.nu + (b.nu + Tr.nus r)) := by
      rw [Nat.add_comm b.nu]
      exact Nat.le_trans (Bd.up k.b b.nu) (Bd.mono (by omega) (by omega))
    refine Nat.le_trans (Nat.add_le_add h1 h2) ?_
    rw [← Bd.add]
    exact Bd.mono (by omega) (Nat.le_refl _)
  · rcases List.mem_cons.mp hx with rfl | hx
    · exact hS _ (.tail _ (.head _))
    · exact k.wf (fun z hz => hS z (.tail _ (.tail _ hz))) (words_wf (hS a (.head _))) x hx
/-- by what each measure becomes, the word left out of the sum -/
theorem Kept.of {S S' : List Tr} {x : List Nat} (hu : Tr.nus S' ≤ Tr.nus S) (hl : Tr.nls S' ≤ Tr.nls S) (hp : pots S' ≤ pots S + 5) (hw : (∀ x ∈ S, x.wf = true) → ∀ x ∈ S', x.wf = true) : Kept S [.w x] S' :=
  ⟨Nat.le_trans hu (Nat.le_add_right _ _), Nat.le_trans hl (Nat.le_add_right _ _), Bd.mono hp (Nat.le_trans hu (Nat.le_add_right _ _)), fun hS _ => hw hS⟩
theorem kept_cat (a b : Tr) (r : List Tr) : Kept (a :: b :: r) [.w wCat] (madeT (b.words ++ a.words) :: r) := by
  have wq := words_qs a
  have wq2 := words_qs b
  have mp := made_pot (b.words ++ a.words)
  have mu := made_nu (b.words ++ a.words)
  have ml := made_nl (b.words ++ a.words)
  rw [qs_app] at mp
  rw [nus_app, words_nu a, words_nu b] at mu
  rw [nls_app, words_nl a, words_nl b] at ml
  refine Kept.of ?_ ?_ ?_ fun hS x hx => ?_
  · show (madeT _).nu + Tr.nus r ≤ a.nu + (b.nu + Tr.nus r); rw [mu]; omega
  · show (madeT _).nl + Tr.nls r ≤ a.nl + (b.nl + Tr.nls r); rw [ml]; omega
  · show (madeT _).pot + pots r ≤ (a.pot + (b.pot + pots r)) + 5; omega
  · rcases List.mem_cons.mp hx with rfl | hx
    · refine made_wf fun z hz => ?_
      rcases List.mem_append.mp hz with hz | hz
      · exact words_wf (hS b (.tail _ (.head _))) z hz
      · exact words_wf (hS a (.head _)) z hz
    · exact hS x (.tail _ (.tail _ hx))
theorem kept_swap (a b : Tr) (r : List Tr) : Kept (a :: b :: r) [.w wSwap] (b :: a :: r) := by
  refine Kept.of (Nat.le_of_eq (Nat.add_left_comm ..)) (Nat.le_of_eq (Nat.add_left_comm ..)) (Nat.le_trans (Nat.le_of_eq (Nat.add_left_comm ..)) (Nat.le_add_right _ _)) fun hS x hx => ?_
  rcases List.mem_cons.mp hx with rfl | hx
  · exact hS _ (.tail _ (.head _))
  · rcases List.mem_cons.mp hx with rfl | hx
    · exact hS _ (.head _)
    · exact hS x (.tail _ (.tail _ hx))
theorem made_one (a : Tr) : (madeT [a]).pot ≤ 5 * a.pot + 5 := by
  refine Nat.le_trans (made_pot [a]) ?_
  show 1 + (a.q + 0) ≤ _
  cases a with
  | w y => show 1 + (5 + 0) ≤ 5 * 5 + 5; decide
  | l ts => show 1 + (5 * (1 + Tr.qs ts) + 0) ≤ 5 * (1 + Tr.qs ts) + 5; omega
theorem kept_unit (a : Tr) (r : List Tr) : Kept (a :: r) [.w wUnit] (madeT [a] :: r) := by
  have mu : (madeT [a]).nu = a.nu := made_nu [a]
  have ml : (madeT [a]).nl = a.nl := made_nl [a]
  have eu : Tr.nus [Tr.w wUnit] = 1 := by decide
  refine ⟨?_, ?_, ?_, fun hS ht x hx => ?_⟩
  · show (madeT _).nu + Tr.nus r ≤ (a.nu + Tr.nus r) + _; rw [mu]; exact Nat.le_add_right _ _
  · show (madeT _).nl + Tr.nls r ≤ (a.nl + Tr.nls r) + _; rw [ml]; exact Nat.le_add_right _ _
  · show Bd ((madeT [a]).pot + pots r) ((madeT [a]).nu + Tr.nus r) ≤ Bd ((a.pot + pots r) + 5) ((a.nu + Tr.nus r) + Tr.nus [Tr.w wUnit])
    rw [eu, mu, ← Bd.five]
    have := made_one a
    exact Bd.mono (by omega) (Nat.le_refl _)
  · rcases List.mem_cons.mp hx with rfl | hx
    · exact made_wf fun z hz => by rcases List.mem_singleton.mp hz with rfl; exact hS _ (.head _)
    · exact hS x (.tail _ hx)
theorem kept_run {a : Tr} {r S' : List Tr} (k : Kept r a.words S') : Kept (a :: r) [.w wRun] S' := by
  have h1 := words_nu a
  have h2 := words_nl a
  have h3 := words_pot a
  refine k.from (Nat.le_trans (?_ : _ ≤ a.nu + Tr.nus r) (Nat.le_add_right _ _)) (Nat.le_trans (?_ : _ ≤ a.nl + Tr.nls r) (Nat.le_add_right _ _)) (Nat.le_trans (?_ : _ ≤ a.pot + pots r) (Nat.le_add_right _ _)) fun hS => ⟨fun z hz => hS z (.tail _ hz), words_wf (hS a (.head _))⟩
  · rw [h1]; exact Nat.le_of_eq (Nat.add_comm ..)
  · rw [h2]; exact Nat.le_of_eq (Nat.add_comm ..)
  · rw [Nat.add_comm a.pot]; exact Nat.add_le_add_left h3 _
theorem step_kept : ∀ (n : Nat) (S : List Tr) (t : Tr) (S' : List Tr), stepF n S t = some S' → Kept S [t] S' := by
  intro n
  induction n with
  | zero => intro S t S' h; cases h
  | succ n ih =>
    intro S t S' h
    cases stepF_is h with
    | list ts => exact .push _ _
    | push x _ hl => exact .push _ _
    | run a r _ h2 => exact kept_run (Kept.fold ih _ _ _ h2)
    | dip a b r S1 h2 => exact kept_dip (Kept.fold ih _ _ _ h2)
    | cat a b r => exact kept_cat a b r
    | swap a b r => exact kept_swap a b r
    | unit a r => exact kept_unit a r
theorem fold_kept {n : Nat} {ts S S' : List Tr} (h : ts.foldlM (stepF n) S = some S') : Kept S ts S' := Kept.fold (step_kept n) ts S S' h
/-- enough fuel -/
theorem step_some : ∀ (n : Nat) (S : List Tr) (t : Tr), Tr.nls S + t.nl < n → ∃ S', stepF n S t = some S'
  | 0, _, _, h => by omega
  | n + 1, S, t, h => by
    have fold : ∀ (ts R : List Tr), Tr.nls R + Tr.nls ts < n → ∃ S', ts.foldlM (stepF n) R = some S' := by
      intro ts
      induction ts with
      | nil => intro R _; exact ⟨R, rfl⟩
      | cons t r ih =>
        intro R hR
        have hR : Tr.nls R + (t.nl + Tr.nls r) < n := hR
        obtain ⟨S1, e⟩ := step_some n R t (by omega)
        have := (step_kept n R t S1 e).l
        have e1 : Tr.nls [t] = t.nl := by show t.nl + 0 = _; omega
        obtain ⟨S', e'⟩ := ih S1 (by omega)
        exact ⟨S', by rw [List.foldlM_cons, e]; exact e'⟩
    cases t with
    | l ts => exact ⟨_, rfl⟩
    | w x =>
      have hn : Tr.nls S + 1 < n + 1 := h
      clear h
      unfold stepF
      dsimp only
      split
      · split
        · rename_i a r
          have h : (a.nl + Tr.nls r) + 1 < n + 1 := hn
          exact fold _ _ (by rw [words_nl]; omega)
        · exact ⟨_, rfl⟩
      · split
        · split
          · rename_i a b r
            have h : (a.nl + (b.nl + Tr.nls r)) + 1 < n + 1 := hn
            obtain ⟨S1, e⟩ := fold a.words r (by rw [words_nl]; omega)
            exact ⟨_, by rw [e]; rfl⟩
          · exact ⟨_, rfl⟩
        · split
          · split <;> exact ⟨_, rfl⟩
          · split
            · split <;> exact ⟨_, rfl⟩
            · split
              · split <;> exact ⟨_, rfl⟩
              · exact ⟨_, rfl⟩
end Q2
section S1
/-! ## _law_step -/
noncomputable def textOf : PV → List Nat
  | .s x => x.cps.toList
  | _ => []
noncomputable def splT (l : List Nat) : List (List Nat) := (toksT [] (l.length + 2) l).getD []
noncomputable def SplOk (l : List Nat) : Prop := toksT [] (l.length + 2) l = some (splT l) ∧ l.length ≤ 1000000 ∧ (splT l).length ≤ 1000000
noncomputable def splF : List PV → VP
  | [.s x] => some (.l ((splT x.cps.toList).map fun t => .s (tx t)), [SplOk x.cps.toList])
  | _ => none
noncomputable def JnOk (ps : List PV) : Prop := ps = (ps.map textOf).map (fun l => .s (tx l)) ∧ (∀ l ∈ ps.map textOf, l.length ≤ 1000000) ∧ (((ps.map textOf).map quoteL).map List.length).sum + (ps.map textOf).length ≤ 1000000
noncomputable def jnF : List PV → VP
  | [.l ps] => some (.s (tx (joinL (ps.map textOf))), [JnOk ps])
  | _ => none
theorem keep_split (w : Wn) : keepOk (WW w).K (.ref 753) = true := by kernel_rfl
theorem keep_join (w : Wn) : keepOk (WW w).K (.ref 760) = true := by kernel_rfl
theorem keep_red (w : Wn) : keepOk (WW w).K (.ref 53) = true := by kernel_rfl
theorem tx_cps (x : Str) : tx x.cps.toList = x := by apply Str.ext'; rfl
noncomputable def orSpl (w : Wn) {D : Nat} (hD : 8 ≤ D) : POrc (WW w) D := POrc.fn1 (keep_split w) splF fun ps r P h hP => by
  unfold splF at h
  split at h
  · rename_i x
    cases h
    obtain ⟨⟨h1, h2, h3⟩, _⟩ := hP
    have := (spec_split (w := w) h1 h2 h3).le hD
    rw [tx_cps] at this
    exact this
  · cases h
noncomputable def orJn (w : Wn) {D : Nat} (hD : 6 ≤ D) : POrc (WW w) D := POrc.fn1 (keep_join w) jnF fun ps r P h hP => by
  unfold jnF at h
  split at h
  · rename_i xs
    cases h
    obtain ⟨⟨h1, h2, h3⟩, _⟩ := hP
    have := (spec_join w (xs.map textOf) h2 h3).le hD
    rw [← h1] at this
    exact this
  · cases h
noncomputable abbrev RdIs (w : Wn) (D : Nat) (ws rest res : List PV) (objs : List PO) : Prop := Spec (WW w) D (.ref 53) [.v (.ref 794), .l ws, .r rest] objs (.r res) objs
noncomputable abbrev stFd (w : Wn) : FuncData := fdOf (WW w).K 794
theorem st_def (w : Wn) : defOk (WW w).K 794 ["stack", "word"] = true := by kernel_rfl
theorem st_bind (w : Wn) (a b : Value) : runPure (WW w).K 30 (bindArgs (stFd w) ⟨[a, b], []⟩) = some ([("stack", a), ("word", b)] : List (Str × Value)) := by kernel_rfl
noncomputable abbrev stCfg (w : Wn) {D : Nat} (hD : 8 ≤ D) (po : POrc (WW w) D) : Cfg := mkCfg (stFd w).scope tabs ((blt _ _).or ((orSpl w hD).or ((orJn w (Nat.le_trans (by decide) hD)).or po))) (.none _ _)
noncomputable abbrev stV (S : List PV) (x : PV) (objs : List PO) : View := ⟨[("stack", .r S), ("word", x)], objs⟩
noncomputable abbrev sS (w : List Nat) : PV := .s (tx w)
end S1
section S2
noncomputable abbrev lnI (S : List PV) : Int := ((S.length : Nat) : Int)
noncomputable abbrev cW (x : Str) (c : String) (n : Int) (S : List PV) : Bool := (x.cps.toList == (Str.ofString c).cps.toList) && (decide (lnI S > n) && true)
noncomputable abbrev pvT (l : List (List Nat)) : List PV := l.map fun t => .s (tx t)
theorem st_run (w : Wn) (D : Nat) (hD : 8 ≤ D) (a : Str) (r ws res : List PV) (objs : List PO) (h : RdIs w D ws r res objs) : xr (stCfg w hD (POrc.one (keep_red w) h)) 60 (bodyOf (stFd w)) [some true] (stV (.s a :: r) (sS wRun) objs) =
  some (.ret (.r res), objs, [Ln (.s a :: r), cW (tx wRun) "run" 0 (.s a :: r) = true, (-1 : Int) < 0, -(-1 : Int) ≤ lnI (.s a :: r), Ln (.s a :: r), SplOk a.cps.toList, (-1 : Int) < 0, Ln (.s a :: r), ([PV.v (.ref 794), .l (pvT (splT a.cps.toList)), .r r], objs) = ([PV.v (.ref 794), .l ws, .r r], objs)]) := by kernel_rfl
theorem st_dip (w : Wn) (D : Nat) (hD : 8 ≤ D) (a b : Str) (r ws res : List PV) (objs : List PO) (h : RdIs w D ws r res objs) : xr (stCfg w hD (POrc.one (keep_red w) h)) 60 (bodyOf (stFd w)) [some false, some true] (stV (.s a :: .s b :: r) (sS wDip) objs) =
  some (.ret (.r (.s b :: res)), objs, [Ln (.s a :: .s b :: r), false = false, Ln (.s a :: .s b :: r), cW (tx wDip) "dip" 1 (.s a :: .s b :: r) = true, (-1 : Int) < 0, -(-1 : Int) ≤ lnI (.s a :: .s b :: r), Ln (.s a :: .s b :: r), SplOk a.cps.toList, (-2 : Int) < 0, Ln (.s a :: .s b :: r), ([PV.v (.ref 794), .l (pvT (splT a.cps.toList)), .r r], objs) = ([PV.v (.ref 794), .l ws, .r r], objs), (-2 : Int) < 0, -(-2 : Int) ≤ lnI (.s a :: .s b :: r), Ln (.s a :: .s b :: r), Ln res, Ln [PV.s b]]) := by kernel_rfl
theorem st_cat (w : Wn) (D : Nat) (hD : 8 ≤ D) (a b : Str) (r : List PV) (objs : List PO) : xr (stCfg w hD (.none _ _)) 60 (bodyOf (stFd w)) [some false, some false, some true] (stV (.s a :: .s b :: r) (sS wCat) objs) =
  some (.ret (.r (.s (tx (joinL ((pvT (splT b.cps.toList) ++ pvT (splT a.cps.toList)).map textOf))) :: r)), objs, [Ln (.s a :: .s b :: r), false = false, Ln (.s a :: .s b :: r), false = false, Ln (.s a :: .s b :: r), cW (tx wCat) "cat" 1 (.s a :: .s b :: r) = true, (-2 : Int) < 0, Ln (.s a :: .s b :: r), (-2 : Int) < 0, -(-2 : Int) ≤ lnI (.s a :: .s b :: r), Ln (.s a :: .s b :: r), SplOk b.cps.toList, (-1 : Int) < 0, -(-1 : Int) ≤ lnI (.s a :: .s b :: r), Ln (.s a :: .s b :: r), SplOk a.cps.toList, Ln (pvT (splT b.cps.toList)), Ln (pvT (splT a.cps.toList)), JnOk (pvT (splT b.cps.toList) ++ pvT (splT a.cps.toList)), Ln r, Ln [PV.s (tx (joinL ((pvT (splT b.cps.toList) ++ pvT (splT a.cps.toList)).map textOf)))]]) := by kernel_rfl
theorem st_swap (w : Wn) (D : Nat) (hD : 8 ≤ D) (a b : Str) (r : List PV) (objs : List PO) : xr (stCfg w hD (.none _ _)) 60 (bodyOf (stFd w)) [some false, some false, some false, some true] (stV (.s a :: .s b :: r) (sS wSwap) objs) =
  some (.ret (.r (.s b :: .s a :: r)), objs, [Ln (.s a :: .s b :: r), false = false, Ln (.s a :: .s b :: r), false = false, Ln (.s a :: .s b :: r), false = false, Ln (.s a :: .s b :: r), cW (tx wSwap) "swap" 1 (.s a :: .s b :: r) = true, (-2 : Int) < 0, Ln (.s a :: .s b :: r), (-1 : Int) < 0, -(-1 : Int) ≤ lnI (.s a :: .s b :: r), Ln (.s a :: .s b :: r), (-2 : Int) < 0, -(-2 : Int) ≤ lnI (.s a :: .s b :: r), Ln (.s a :: .s b :: r), Ln r, Ln [PV.s a, .s b]]) := by kernel_rfl
theorem st_unit (w : Wn) (D : Nat) (hD : 8 ≤ D) (a : Str) (r : List PV) (objs : List PO) : xr (stCfg w hD (.none _ _)) 60 (bodyOf (stFd w)) [some false, some false, some false, some false, some true] (stV (.s a :: r) (sS wUnit) objs) =
  some (.ret (.r (.s (tx (joinL [a.cps.toList])) :: r)), objs, [Ln (.s a :: r), false = false, Ln (.s a :: r), false = false, Ln (.s a :: r), false = false, Ln (.s a :: r), false = false, Ln (.s a :: r), cW (tx wUnit) "unit" 0 (.s a :: r) = true, (-1 : Int) < 0, Ln (.s a :: r), (-1 : Int) < 0, -(-1 : Int) ≤ lnI (.s a :: r), Ln (.s a :: r), JnOk [.s a], Ln r, Ln [PV.s (tx (joinL [a.cps.toList]))]]) := by kernel_rfl
theorem st_push (w : Wn) (D : Nat) (hD : 8 ≤ D) (S : List PV) (x : Str) (objs : List PO) : xr (stCfg w hD (.none _ _)) 60 (bodyOf (stFd w)) [some false, some false, some false, some false, some false] (stV S (.s x) objs) =
  some (.ret (.r (.s x :: S)), objs, [Ln S, cW x "run" 0 S = false, Ln S, cW x "dip" 1 S = false, Ln S, cW x "cat" 1 S = false, Ln S, cW x "swap" 1 S = false, Ln S, cW x "unit" 0 S = false, Ln S, Ln [PV.s x]]) := by kernel_rfl
end S2
section S3
/-! ## _law_step is the machine's step -/
noncomputable abbrev lnP (t : Tr) : PV := .s (tx t.line)
noncomputable abbrev Mx : Nat := 1000000
theorem glue_low : ∀ ls : List (List Nat), ls.length ≤ (glueL ls).length + 1
  | [] => by decide
  | [a] => by show 1 ≤ a.length + 1; omega
  | a :: b :: r => by
    have := glue_low (b :: r)
    show (b :: r).length + 1 ≤ (a ++ 32 :: glueL (b :: r)).length + 1
    rw [List.length_append, List.length_cons (as := glueL _)]; omega
theorem toks_tree {t : Tr} (h : t.wf = true) : toksT [] (t.line.length + 2) t.line = some (t.words.map Tr.line) := by
  cases t with
  | w x => exact toks_more (vocab_toks x (List.contains_iff_mem.mp h)) (Nat.le_add_left _ _)
  | l ts =>
    show toksT [] _ (joinL (Tr.lines ts)) = some (ts.map Tr.line)
    rw [toks_join, lines_map]
    have := glue_low ((Tr.lines ts).map quoteL)
    rw [List.length_map] at this
    exact Nat.lt_of_le_of_lt this (Nat.lt_succ_self _)
theorem spl_tree {t : Tr} (h : t.wf = true) : splT t.line = t.words.map Tr.line := by unfold splT; rw [toks_tree h]; rfl
theorem splOk_tree {t : Tr} (h : t.wf = true) (hp : t.pot ≤ Mx) : SplOk t.line := by
  refine ⟨by rw [spl_tree h]; exact toks_tree h, by have := (line_len t h).1; have hp : t.pot ≤ 1000000 := hp; omega, ?_⟩
  rw [spl_tree h, List.length_map]
  exact Nat.le_trans (Nat.le_trans (pots_len _) (words_pot t)) hp
theorem pot_mem {t : Tr} : ∀ {S : List Tr}, t ∈ S → t.pot ≤ pots S
  | x :: r, h => by
    show _ ≤ x.pot + pots r
    rcases List.mem_cons.mp h with rfl | h
    · omega
    · have := pot_mem h; omega
theorem map_textOf (l : List (List Nat)) : (pvT l).map textOf = l := by
  unfold pvT
  rw [List.map_map]
  have : (textOf ∘ fun t : List Nat => PV.s (tx t)) = id := by funext t; rfl
  rw [this, List.map_id]
theorem jn_trees {ts : List Tr} (h : ∀ t ∈ ts, t.wf = true) (hq : Tr.qs ts ≤ Mx) : JnOk (pvT (ts.map Tr.line)) := by
  have h1 := lines_len ts ((wfs_iff ts).mpr h)
  rw [lines_map] at h1
  have key : ∀ l : List (List Nat), ((l.map quoteL).map List.length).sum + l.length = (l.map fun x => (quoteL x).length + 1).sum := by
    intro l
    induction l with
    | nil => rfl
    | cons a r ih => simp only [List.map_cons, List.sum_cons, List.length_cons] at ih ⊢; omega
  refine ⟨by rw [map_textOf], fun l hl => ?_, ?_⟩
  · rw [map_textOf] at hl
    obtain ⟨t, ht, rfl⟩ := List.mem_map.mp hl
    have := (line_len t (h t ht)).1
    have h2 := pot_mem ht
    have h3 := pots_qs ts
    have hq : Tr.qs ts ≤ 1000000 := hq
    omega
  · rw [map_textOf, key]
    exact Nat.le_trans h1 hq
theorem pv_lines (ts : List Tr) : pvT (ts.map Tr.line) = ts.map lnP := by unfold pvT; rw [List.map_map]; rfl
theorem lnP_lt (ts : List Tr) : PV.ltL 0 (ts.map lnP) = true := ltL_strs ts
theorem cW_push {x : Str} {c : String} {n : Int} {S : List PV} (h : x.cps.toList ≠ (Str.ofString c).cps.toList ∨ ¬ lnI S > n) : cW x c n S = false := by
  unfold cW
  rcases h with h | h
  · have : (x.cps.toList == (Str.ofString c).cps.toList) = false := by simpa using h
    rw [this]; rfl
  · rw [decide_eq_false h]
    cases (x.cps.toList == (Str.ofString c).cps.toList) <;> rfl
theorem cW_take {x : Str} {c : String} {n : Int} {S : List PV} (h : (x.cps.toList == (Str.ofString c).cps.toList) = true) (g : lnI S > n) : cW x c n S = true := by
  unfold cW; rw [h, decide_eq_true g]; rfl
theorem Kept.next {S S1 r : List Tr} {t : Tr} (k : Kept S [t] S1) {m : Nat} (h : Bd (pots S + pots (t :: r)) (Tr.nus S + Tr.nus (t :: r)) ≤ m) : Bd (pots S1 + pots r) (Tr.nus S1 + Tr.nus r) ≤ m := by
  refine Nat.le_trans ?_ h
  have e1 : pots [t] = t.pot := by show t.pot + 0 = _; omega
  have e2 : Tr.nus [t] = t.nu := by show t.nu + 0 = _; omega
  have hb := k.b
  have hu := k.u
  rw [e1, e2] at hb
  rw [e2] at hu
  show _ ≤ Bd (pots S + (t.pot + pots r)) (Tr.nus S + (t.nu + Tr.nus r))
  rw [← Nat.add_assoc, ← Nat.add_assoc, Bd.add, Bd.add (pots S + t.pot)]
  exact Nat.add_le_add (Bd.up hb _) (Bd.mono (Nat.le_refl _) (by omega))
noncomputable abbrev StepOk (w : Wn) (D : Nat) (S : List Tr) (t : Tr) (S' : List Tr) : Prop := SpecP (WW w) D (.ref 794) [.r (S.map lnP), lnP t] (.r (S'.map lnP))
theorem steps_fold {w : Wn} {D n : Nat} (ih : ∀ S t S', stepF n S t = some S' → (∀ x ∈ S, x.wf = true) → t.wf = true → Bd (pots S + t.pot) (Tr.nus S + t.nu) ≤ Mx → StepOk w D S t S') :
    ∀ (ts S S' : List Tr), ts.foldlM (stepF n) S = some S' → (∀ x ∈ S, x.wf = true) → (∀ x ∈ ts, x.wf = true) → Bd (pots S + pots ts) (Tr.nus S + Tr.nus ts) ≤ Mx → Steps (WW w) D (.ref 794) (S.map lnP) (ts.map lnP) (S'.map lnP)
  | [], S, S', h, _, _, _ => by cases h; exact .nil
  | t :: r, S, S', h, hS, ht, hb => by
    rw [List.foldlM_cons] at h
    cases e : stepF n S t with
    | none => rw [e] at h; cases h
    | some S1 =>
      rw [e] at h
      have k := step_kept n S t S1 e
      refine .cons (ih S t S1 e hS (ht t (.head _)) (Nat.le_trans (Bd.mono ?_ ?_) hb)) (steps_fold ih r S1 S' h (k.wf hS fun x hx => by rcases List.mem_singleton.mp hx with rfl; exact ht _ (.head _)) (fun x hx => ht x (.tail _ hx)) (k.next hb))
      · show _ ≤ pots S + (t.pot + pots r); omega
      · show _ ≤ Tr.nus S + (t.nu + Tr.nus r); omega
theorem st_bd (w : Wn) (S : List PV) (x : PV) : ∀ (T : List Addr) (ρ : List (Addr × Addr)) (s : Shared) (vs : List Value), Base (WW w).K (WW w).N s.heap → (∀ b ∈ T, (WW w).N ≤ b) → IsL T ρ s.heap [.r S, x] vs → ∃ binds, runPure (WW w).K 30 (bindArgs (fdOf (WW w).K 794) ⟨vs, []⟩) = some binds ∧ binds.map (·.1) = (["stack", "word"] : List Str) ∧ IsL T ρ s.heap (([("stack", .r S), ("word", x)] : List (Str × PV)).map (·.2)) (binds.map (·.2)) := fun T ρ s vs B hT ia => by
  cases ia with
  | cons i1 ia => cases ia with
    | cons i2 ia => cases ia; exact ⟨_, st_bind w _ _, rfl, .cons i1 (.cons i2 .nil)⟩
theorem lnI_len (ts : List Tr) : lnI (ts.map lnP) = ts.length := by unfold lnI; rw [List.length_map]
theorem push_ok {w : Wn} {D : Nat} (hD : 8 ≤ D) {S : List Tr} {t : Tr} (hl : S.length ≤ Mx) (h1 : t.line ≠ wRun ∨ S.length ≤ 0) (h2 : t.line ≠ wDip ∨ S.length ≤ 1) (h3 : t.line ≠ wCat ∨ S.length ≤ 1) (h4 : t.line ≠ wSwap ∨ S.length ≤ 1) (h5 : t.line ≠ wUnit ∨ S.length ≤ 0) : StepOk w (D + 1) S t (t :: S) := by
  intro objs
  have e : lnI (S.map lnP) = S.length := lnI_len S
  have L : Ln (S.map lnP) := by unfold Ln; rw [List.length_map]; exact hl
  have c : ∀ {x : List Nat} {c : String} {n : Nat}, (t.line ≠ x ∨ S.length ≤ n) → (Str.ofString c).cps.toList = x → cW (tx t.line) c n (S.map lnP) = false := fun {x c n} h hx => cW_push (h.imp (fun q => by rw [hx]; exact q) fun q => by rw [e]; omega)
  refine SpecC.spec (spec_run (st_def w) (tabs_ok w) rfl (st_bd w _ _) (st_push w D hD (S.map lnP) (tx t.line) objs) ⟨L, c h1 (by decide +kernel), L, c h2 (by decide +kernel), L, c h3 (by decide +kernel), L, c h4 (by decide +kernel), L, c h5 (by decide +kernel), L, by show 1 ≤ 1000000; decide, trivial⟩ (by omega))
theorem ln_le {S : List Tr} (h : S.length ≤ Mx) : Ln (S.map lnP) := by unfold Ln; rw [List.length_map]; exact h
theorem ln1 (p : PV) (S : List PV) : (1 : Int) ≤ lnI (p :: S) := by unfold lnI; rw [List.length_cons]; omega
theorem lg1 (p : PV) (S : List PV) : lnI (p :: S) > 0 := by unfold lnI; rw [List.length_cons]; omega
theorem ln2 (p q : PV) (S : List PV) : (2 : Int) ≤ lnI (p :: q :: S) := by unfold lnI; rw [List.length_cons, List.length_cons]; omega
theorem lg2 (p q : PV) (S : List PV) : lnI (p :: q :: S) > 1 := by unfold lnI; rw [List.length_cons, List.length_cons]; omega
/-- a list's text is no command -/
theorem list_line {ts : List Tr} (h : (Tr.l ts).wf = true) {c : List Nat} (hc : safeW c = true) : (Tr.l ts).line ≠ c := fun q => by
  obtain ⟨x, e, _⟩ := safe_line h (by rw [q]; exact hc)
  cases e
noncomputable abbrev StIh (w : Wn) (n : Nat) : Prop := ∀ S t S', stepF n S t = some S' → (∀ x ∈ S, x.wf = true) → t.wf = true → Bd (pots S + t.pot) (Tr.nus S + t.nu) ≤ Mx → StepOk w (9 + 2 * n) S t S'
section
variable {w : Wn} {n : Nat} {a b : Tr} {r S' S1 : List Tr}
theorem bd_run (hb : Bd (pots (a :: r) + 5) (Tr.nus (a :: r) + (Tr.w wRun).nu) ≤ Mx) : Bd (pots r + pots a.words) (Tr.nus r + Tr.nus a.words) ≤ Mx := by
  refine Nat.le_trans (Bd.mono ?_ ?_) hb
  · have := words_pot a; show _ ≤ (a.pot + pots r) + _; omega
  · have := words_nu a; show _ ≤ (a.nu + Tr.nus r) + _; omega
theorem bd_dip (hb : Bd (pots (a :: b :: r) + 5) (Tr.nus (a :: b :: r) + (Tr.w wDip).nu) ≤ Mx) : Bd (pots r + pots a.words) (Tr.nus r + Tr.nus a.words) ≤ Mx := by
  refine Nat.le_trans (Bd.mono ?_ ?_) hb
  · have := words_pot a; show _ ≤ (a.pot + (b.pot + pots r)) + _; omega
  · have := words_nu a; show _ ≤ (a.nu + (b.nu + Tr.nus r)) + _; omega
theorem eg_tree (ha : a.wf = true) : pvT (splT (tx a.line).cps.toList) = a.words.map lnP := by show pvT (splT a.line) = _; rw [spl_tree ha, pv_lines]
theorem le_n (n : Nat) : 8 ≤ 9 + 2 * n + 1 := by omega
theorem le_n1 (n : Nat) : 1 ≤ 9 + 2 * n := by omega
theorem le_n2 (n : Nat) : 1 ≤ 9 + 2 * n + 1 := Nat.le_add_left _ _
theorem ss_run (ih : StIh w n) (h : a.words.foldlM (stepF n) r = some S') (hS : ∀ x ∈ a :: r, x.wf = true) (hb : Bd (pots (a :: r) + 5) (Tr.nus (a :: r) + (Tr.w wRun).nu) ≤ Mx) (L : Ln ((a :: r).map lnP)) (hp : a.pot ≤ Mx) : StepOk w (9 + 2 * n + 1 + 1) (a :: r) (.w wRun) S' := by
  have ha := hS a (.head _)
  have st := steps_fold (D := 9 + 2 * n) ih a.words r S' h (fun z hz => hS z (.tail _ hz)) (words_wf ha) (bd_run hb)
  have rd := spec_reduce w (le_n1 n) st (lnP_lt _) (lnP_lt _) (lnP_lt _)
  intro objs
  exact SpecC.spec (spec_run (st_def w) (tabs_ok w) rfl (st_bd w _ _) (st_run w _ (le_n n) (tx a.line) (r.map lnP) _ _ objs (rd objs)) ⟨L, cW_take (by decide +kernel) (lg1 _ _), by decide, by show (1 : Int) ≤ _; exact ln1 _ _, L, splOk_tree ha hp, by decide, L, by rw [eg_tree ha], trivial⟩ (le_n2 n))
theorem ss_dip (ih : StIh w n) (h : a.words.foldlM (stepF n) r = some S1) (hS : ∀ x ∈ a :: b :: r, x.wf = true) (hb : Bd (pots (a :: b :: r) + 5) (Tr.nus (a :: b :: r) + (Tr.w wDip).nu) ≤ Mx) (L : Ln ((a :: b :: r).map lnP)) (hp : a.pot ≤ Mx) : StepOk w (9 + 2 * n + 1 + 1) (a :: b :: r) (.w wDip) (b :: S1) := by
  have ha := hS a (.head _)
  have hb2 := bd_dip hb
  have st := steps_fold (D := 9 + 2 * n) ih a.words r S1 h (fun z hz => hS z (.tail _ (.tail _ hz))) (words_wf ha) hb2
  have rd := spec_reduce w (le_n1 n) st (lnP_lt _) (lnP_lt _) (lnP_lt _)
  intro objs
  have L1 : Ln (S1.map lnP) := ln_le (Nat.le_trans (pots_len S1) (Nat.le_trans (Bd.self _ _) (Nat.le_trans (fold_kept h).b hb2)))
  exact SpecC.spec (spec_run (st_def w) (tabs_ok w) rfl (st_bd w _ _) (st_dip w _ (le_n n) (tx a.line) (tx b.line) (r.map lnP) _ _ objs (rd objs)) ⟨L, rfl, L, cW_take (by decide +kernel) (lg2 _ _ _), by decide, by show (1 : Int) ≤ _; exact ln1 _ _, L, splOk_tree ha hp, by decide, L, by rw [eg_tree ha], by decide, by show (2 : Int) ≤ _; exact ln2 _ _ _, L, L1, by show 1 ≤ 1000000; decide, trivial⟩ (le_n2 n))
theorem lw_tree {t : Tr} (h : t.pot ≤ Mx) : Ln (pvT (t.words.map Tr.line)) := by unfold Ln; rw [List.length_map, List.length_map]; exact Nat.le_trans (Nat.le_trans (pots_len _) (words_pot t)) h
theorem ss_cat (hS : ∀ x ∈ a :: b :: r, x.wf = true) (hps : a.pot + (b.pot + pots r) + 5 ≤ 1000000) (L : Ln ((a :: b :: r).map lnP)) : StepOk w (9 + 2 * n + 1 + 1) (a :: b :: r) (.w wCat) (madeT (b.words ++ a.words) :: r) := by
  have ha := hS a (.head _)
  have hB := hS b (.tail _ (.head _))
  have hp : a.pot ≤ Mx := by show a.pot ≤ 1000000; omega
  have hp2 : b.pot ≤ Mx := by show b.pot ≤ 1000000; omega
  intro objs
  have Lr : Ln (r.map lnP) := ln_le (by have := pots_len r; show r.length ≤ 1000000; omega)
  have ea : splT (tx a.line).cps.toList = a.words.map Tr.line := spl_tree ha
  have eb : splT (tx b.line).cps.toList = b.words.map Tr.line := spl_tree hB
  have wfw : ∀ z ∈ b.words ++ a.words, z.wf = true := fun z hz => by
    rcases List.mem_append.mp hz with hz | hz
    · exact words_wf hB z hz
    · exact words_wf ha z hz
  have ej : pvT (splT (tx b.line).cps.toList) ++ pvT (splT (tx a.line).cps.toList) = pvT ((b.words ++ a.words).map Tr.line) := by rw [ea, eb, List.map_append]; exact (List.map_append ..).symm
  have er : joinL ((pvT (splT (tx b.line).cps.toList) ++ pvT (splT (tx a.line).cps.toList)).map textOf) = (madeT (b.words ++ a.words)).line := by rw [ej, map_textOf, made_line _ wfw]
  have run := st_cat w _ (le_n n) (tx a.line) (tx b.line) (r.map lnP) objs
  rw [er] at run
  have jn := jn_trees wfw (by rw [qs_app]; have := words_qs a; have := words_qs b; show _ ≤ 1000000; omega)
  rw [← ej] at jn
  exact SpecC.spec (spec_run (st_def w) (tabs_ok w) rfl (st_bd w _ _) run ⟨L, rfl, L, rfl, L, cW_take (by decide +kernel) (lg2 _ _ _), by decide, L, by decide, by show (2 : Int) ≤ _; exact ln2 _ _ _, L, splOk_tree hB hp2, by decide, by show (1 : Int) ≤ _; exact ln1 _ _, L, splOk_tree ha hp, by rw [eb]; exact lw_tree hp2, by rw [ea]; exact lw_tree hp, jn, Lr, by show 1 ≤ 1000000; decide, trivial⟩ (le_n2 n))
theorem ss_swap (hps : a.pot + (b.pot + pots r) + 5 ≤ 1000000) (L : Ln ((a :: b :: r).map lnP)) : StepOk w (9 + 2 * n + 1 + 1) (a :: b :: r) (.w wSwap) (b :: a :: r) := by
  intro objs
  have Lr : Ln (r.map lnP) := ln_le (by have := pots_len r; show r.length ≤ 1000000; omega)
  exact SpecC.spec (spec_run (st_def w) (tabs_ok w) rfl (st_bd w _ _) (st_swap w _ (le_n n) (tx a.line) (tx b.line) (r.map lnP) objs) ⟨L, rfl, L, rfl, L, rfl, L, cW_take (by decide +kernel) (lg2 _ _ _), by decide, L, by decide, by show (1 : Int) ≤ _; exact ln1 _ _, L, by decide, by show (2 : Int) ≤ _; exact ln2 _ _ _, L, Lr, by show 2 ≤ 1000000; decide, trivial⟩ (le_n2 n))
theorem ss_unit (ha : a.wf = true) (hb : Bd (pots (a :: r) + 5) (Tr.nus (a :: r) + (Tr.w wUnit).nu) ≤ Mx) (L : Ln ((a :: r).map lnP)) : StepOk w (9 + 2 * n + 1 + 1) (a :: r) (.w wUnit) (madeT [a] :: r) := by
  have hb3 : Bd (5 * ((a.pot + pots r) + 5)) (a.nu + Tr.nus r) ≤ Mx := by rw [Bd.five]; exact hb
  have h5 : 5 * ((a.pot + pots r) + 5) ≤ 1000000 := Nat.le_trans (Bd.self _ _) hb3
  intro objs
  have Lr : Ln (r.map lnP) := ln_le (by have := pots_len r; show r.length ≤ 1000000; omega)
  have wfa : ∀ z ∈ [a], z.wf = true := fun z hz => by rcases List.mem_singleton.mp hz with rfl; exact ha
  have aq : a.q ≤ 5 * a.pot := by
    cases a with
    | w y => show 5 ≤ 5 * 5; decide
    | l ts => exact Nat.le_refl _
  have run := st_unit w _ (le_n n) (tx a.line) (r.map lnP) objs
  have er : joinL [(tx a.line).cps.toList] = (madeT [a]).line := by rw [made_line _ wfa]; rfl
  rw [er] at run
  exact SpecC.spec (spec_run (st_def w) (tabs_ok w) rfl (st_bd w _ _) run ⟨L, rfl, L, rfl, L, rfl, L, rfl, L, cW_take (by decide +kernel) (lg1 _ _), by decide, L, by decide, by show (1 : Int) ≤ _; exact ln1 _ _, L, jn_trees wfa (by show a.q + 0 ≤ 1000000; omega), Lr, by show 1 ≤ 1000000; decide, trivial⟩ (le_n2 n))
end
theorem spec_step (w : Wn) (n : Nat) : StIh w n := by
  induction n with
  | zero => intro S t S' h; cases h
  | succ n ih =>
    intro S t S' h hS ht hb
    have hps : pots S + t.pot ≤ Mx := Nat.le_trans (Bd.self _ _) hb
    have hlen : S.length ≤ Mx := Nat.le_trans (pots_len S) (Nat.le_trans (Nat.le_add_right _ _) hps)
    have L := ln_le hlen
    rw [show 9 + 2 * (n + 1) = (9 + 2 * n + 1) + 1 by omega]
    cases stepF_is h with
    | list ts => exact push_ok (le_n n) hlen (.inl (list_line ht (by decide +kernel))) (.inl (list_line ht (by decide +kernel))) (.inl (list_line ht (by decide +kernel))) (.inl (list_line ht (by decide +kernel))) (.inl (list_line ht (by decide +kernel)))
    | push x _ hl => exact push_ok (le_n n) hlen hl.run hl.dip hl.cat hl.swap hl.unit
    | run a r _ h2 => exact ss_run ih h2 hS hb L (Nat.le_trans (Nat.le_trans (pot_mem (List.Mem.head r)) (Nat.le_add_right _ _)) hps)
    | dip a b r S1 h2 => exact ss_dip ih h2 hS hb L (Nat.le_trans (Nat.le_trans (pot_mem (List.Mem.head (b :: r))) (Nat.le_add_right _ _)) hps)
    | cat a b r => exact ss_cat hS hps L
    | swap a b r => exact ss_swap hps L
    | unit a r => exact ss_unit (hS a (.head _)) hb L
end S3
section W1
noncomputable abbrev cfg0 (w : Wn) (fd : FuncData) : Cfg := mkCfg (W := WW w) (D := 1) fd.scope tabs (blt _ _) (.none _ _)
/-! ## _law_words, _law_made -/
noncomputable abbrev wdFd (w : Wn) : FuncData := fdOf (WW w).K 801
theorem wd_def (w : Wn) : defOk (WW w).K 801 ["tree"] = true := by kernel_rfl
theorem wd_bind (w : Wn) (v : Value) : runPure (WW w).K 30 (bindArgs (wdFd w) ⟨[v], []⟩) = some ([("tree", v)] : List (Str × Value)) := by kernel_rfl
theorem wd_w (w : Wn) (x : Str) (objs : List PO) : xr (cfg0 w (wdFd w)) 60 (bodyOf (wdFd w)) [] ⟨[("tree", .s x)], objs⟩ = some (.ret (.l [.s x]), objs, []) := by kernel_rfl
theorem wd_l (w : Wn) (ts : List PV) (objs : List PO) : xr (cfg0 w (wdFd w)) 60 (bodyOf (wdFd w)) [] ⟨[("tree", .l ts)], objs⟩ = some (.ret (.l ts), objs, []) := by kernel_rfl
theorem bd1 {W : Wd} {f : Addr} {x : Str} {p : PV} (hb : ∀ v, runPure W.K 30 (bindArgs (fdOf W.K f) ⟨[v], []⟩) = some ([(x, v)] : List (Str × Value))) : ∀ (T : List Addr) (ρ : List (Addr × Addr)) (s : Shared) (vs : List Value), Base W.K W.N s.heap → (∀ b ∈ T, W.N ≤ b) → IsL T ρ s.heap [p] vs → ∃ binds, runPure W.K 30 (bindArgs (fdOf W.K f) ⟨vs, []⟩) = some binds ∧ binds.map (·.1) = [x] ∧ IsL T ρ s.heap (([(x, p)] : List (Str × PV)).map (·.2)) (binds.map (·.2)) := fun T ρ s vs B hT ia => by
  obtain ⟨v, rfl, i⟩ := isL1 ia
  exact ⟨_, hb v, rfl, .cons i .nil⟩
theorem spec_words (w : Wn) (t : Tr) : SpecP (WW w) 2 (.ref 801) [t.pv] (.l (Tr.pvs t.words)) := by
  intro objs
  cases t with
  | w x => exact SpecC.spec (spec_run (wd_def w) (tabs_ok w) rfl (bd1 (wd_bind w)) (wd_w w (tx x) objs) trivial)
  | l ts => exact SpecC.spec (spec_run (wd_def w) (tabs_ok w) rfl (bd1 (wd_bind w)) (wd_l w (Tr.pvs ts) objs) trivial)
noncomputable abbrev mdFd (w : Wn) : FuncData := fdOf (WW w).K 775
theorem md_def (w : Wn) : defOk (WW w).K 775 ["words"] = true := by kernel_rfl
theorem md_bind (w : Wn) (v : Value) : runPure (WW w).K 30 (bindArgs (mdFd w) ⟨[v], []⟩) = some ([("words", v)] : List (Str × Value)) := by kernel_rfl
noncomputable abbrev hard (x : Str) : Bool := (["#", "~&"] : List Str).any fun y => y == x
theorem md_0 (w : Wn) (objs : List PO) : xr (cfg0 w (mdFd w)) 60 (bodyOf (mdFd w)) [some false] ⟨[("words", .l [])], objs⟩ = some (.ret (.l []), objs, [Ln [], false = false, false = false]) := by kernel_rfl
theorem md_1 (w : Wn) (x : Str) (objs : List PO) : xr (cfg0 w (mdFd w)) 60 (bodyOf (mdFd w)) [some true] ⟨[("words", .l [.s x])], objs⟩ = some (.ret (.s x), objs, [Ln [.s x], (0 : Int) ≤ 0, (0 : Int) < lnI [.s x], Ln [.s x], (0 : Int) ≤ 0, (0 : Int) < lnI [.s x], Ln [.s x], ((lnI [.s x] == 1) && (true && ((!hard x) && true))) = true, (0 : Int) ≤ 0, (0 : Int) < lnI [.s x], Ln [.s x]]) := by kernel_rfl
theorem md_n (w : Wn) (x : Str) (r : List PV) (objs : List PO) : xr (cfg0 w (mdFd w)) 60 (bodyOf (mdFd w)) [some false] ⟨[("words", .l (.s x :: r))], objs⟩ = some (.ret (.l (.s x :: r)), objs, [Ln (.s x :: r), (0 : Int) ≤ 0, (0 : Int) < lnI (.s x :: r), Ln (.s x :: r), (0 : Int) ≤ 0, (0 : Int) < lnI (.s x :: r), Ln (.s x :: r), ((lnI (.s x :: r) == 1) && (true && ((!hard x) && true))) = false]) := by kernel_rfl
theorem md_l (w : Wn) (ts r : List PV) (objs : List PO) : xr (cfg0 w (mdFd w)) 60 (bodyOf (mdFd w)) [some false] ⟨[("words", .l (.l ts :: r))], objs⟩ = some (.ret (.l (.l ts :: r)), objs, [Ln (.l ts :: r), (0 : Int) ≤ 0, (0 : Int) < lnI (.l ts :: r), Ln (.l ts :: r), false = false, ((lnI (.l ts :: r) == 1) && false) = false]) := by kernel_rfl
theorem hard_iff (x : List Nat) : hard (tx x) = true ↔ (x = [35] ∨ x = [126, 38]) := by
  have e1 : (Str.ofString "#") = tx [35] := by decide +kernel
  have e2 : (Str.ofString "~&") = tx [126, 38] := by decide +kernel
  unfold hard
  rw [List.any_cons, List.any_cons, List.any_nil, Bool.or_false, Bool.or_eq_true, beq_iff_eq, beq_iff_eq, e1, e2]
  have inj : ∀ a b : List Nat, tx a = tx b ↔ b = a := fun a b => ⟨fun h => (congrArg (fun s : Str => s.cps.toList) h).symm, fun h => by rw [h]⟩
  rw [inj, inj]
theorem spec_made (w : Wn) (ts : List Tr) (hl : ts.length ≤ Mx) : SpecP (WW w) 2 (.ref 775) [.l (Tr.pvs ts)] (madeT ts).pv := by
  intro objs
  have L : ∀ S : List PV, S.length = ts.length → Ln S := fun S e => by unfold Ln; rw [e]; exact hl
  match ts, hl, L with
  | [], _, L => exact SpecC.spec (spec_run (md_def w) (tabs_ok w) rfl (bd1 (md_bind w)) (md_0 w objs) ⟨L _ rfl, rfl, rfl, trivial⟩)
  | [.w x], hl, L =>
    by_cases h : x = [35] ∨ x = [126, 38]
    · have e : madeT [.w x] = .l [.w x] := if_pos h
      rw [e]
      have hh := (hard_iff x).mpr h
      exact SpecC.spec (spec_run (md_def w) (tabs_ok w) rfl (bd1 (md_bind w)) (md_n w (tx x) [] objs) ⟨L _ rfl, by decide, by have := ln1 (.s (tx x)) []; omega, L _ rfl, by decide, by have := ln1 (.s (tx x)) []; omega, L _ rfl, by rw [hh]; simp, trivial⟩)
    · have e : madeT [.w x] = .w x := if_neg h
      rw [e]
      have hh : hard (tx x) = false := by
        cases q : hard (tx x) with
        | false => rfl
        | true => exact absurd ((hard_iff x).mp q) h
      exact SpecC.spec (spec_run (md_def w) (tabs_ok w) rfl (bd1 (md_bind w)) (md_1 w (tx x) objs) ⟨L _ rfl, by decide, by have := ln1 (.s (tx x)) []; omega, L _ rfl, by decide, by have := ln1 (.s (tx x)) []; omega, L _ rfl, by rw [hh]; rfl, by decide, by have := ln1 (.s (tx x)) []; omega, L _ rfl, trivial⟩)
  | .w x :: b :: r, hl, L =>
    have hn : (lnI (.s (tx x) :: b.pv :: Tr.pvs r) == 1) = false := by
      have := ln2 (.s (tx x)) b.pv (Tr.pvs r)
      exact beq_eq_false_iff_ne.mpr (by omega)
    have e9 : (Tr.pvs r).length = r.length := by rw [pvs_map, List.length_map]
    have Ls : Ln (.s (tx x) :: b.pv :: Tr.pvs r) := L _ (by simp [e9])
    have := ln1 (.s (tx x)) (b.pv :: Tr.pvs r)
    exact SpecC.spec (spec_run (md_def w) (tabs_ok w) rfl (bd1 (md_bind w)) (md_n w (tx x) (b.pv :: Tr.pvs r) objs) ⟨Ls, by decide, by omega, Ls, by decide, by omega, Ls, by rw [hn]; rfl, trivial⟩)
  | .l us :: r, hl, L =>
    have e9 : (Tr.pvs r).length = r.length := by rw [pvs_map, List.length_map]
    have Ls : Ln (.l (Tr.pvs us) :: Tr.pvs r) := L _ (by simp [e9])
    have := ln1 (.l (Tr.pvs us)) (Tr.pvs r)
    exact SpecC.spec (spec_run (md_def w) (tabs_ok w) rfl (bd1 (md_bind w)) (md_l w (Tr.pvs us) (Tr.pvs r) objs) ⟨Ls, by decide, by omega, Ls, rfl, by simp, trivial⟩)
end W1
section C1
/-! ## list comprehensions -/
section
variable {T : List Addr} {ρ : List (Addr × Addr)} {h h' : Heap} {C : Addr}
theorem to_drop1 (sb : ∀ b, b ≠ C → h'.get? b = h.get? b) : IsTo (C :: T) T ρ ρ h h' := ⟨fun a ob n e _ _ => ⟨fun z => n (.tail _ z), (sb _ fun q => n (q ▸ .head _)).trans e⟩, fun _ _ _ e => e⟩
/-- one owned object less, whatever became of it -/
theorem Is.drop1 (sb : ∀ b, b ≠ C → h'.get? b = h.get? b) {p : PV} {v : Value} (i : Is (C :: T) ρ h p v) : Is T ρ h' p v := i.to (to_drop1 sb)
theorem IsL.drop1 (sb : ∀ b, b ≠ C → h'.get? b = h.get? b) {p : List PV} {v : List Value} (i : IsL (C :: T) ρ h p v) : IsL T ρ h' p v := i.to (to_drop1 sb)
theorem Match.drop1 (sb : ∀ b, b ≠ C → h'.get? b = h.get? b) : ∀ {r : List (Str × PV)} {es : List DictEntry}, Match (C :: T) ρ h r es → Match T ρ h' r es
  | _, _, .nil => .nil
  | _, _, .cons a b c => .cons a (b.drop1 sb) (c.drop1 sb)
theorem ObjAt.drop1 {k : Nat} {po : PO} (sb : ∀ b, b ≠ C → h'.get? b = h.get? b) (hm : C ∉ ρ.map (·.2)) (x : ObjAt (C :: T) ρ h k po) : ObjAt T ρ h' k po := by
  have ne : ∀ {a d}, ρ[k]? = some (a, d) → d ≠ C := fun {a d} e q => hm (List.mem_map.mpr ⟨(a, d), List.mem_of_getElem? e, q⟩)
  cases po with
  | inst K att => obtain ⟨a, dx, es, n, e, na, ea, ed, m⟩ := x; exact ⟨a, dx, es, n, e, fun z => na (.tail _ z), (sb _ fun q => na (q ▸ .head _)).trans ea, (sb _ (ne e)).trans ed, m.drop1 sb⟩
  | list xs => obtain ⟨a, vs, n, e, ea, m⟩ := x; exact ⟨a, vs, n, e, (sb _ (ne e)).trans ea, m.drop1 sb⟩
  | dq xs => obtain ⟨a, st, vs, e, ea, m⟩ := x; exact ⟨a, st, vs, e, (sb _ (ne e)).trans ea, m.drop1 sb⟩
  | opaq ob => obtain ⟨a, e, ea, h1⟩ := x; exact ⟨a, e, (sb _ (ne e)).trans ea, h1⟩
end
theorem Inv.drop1 {c : Fc} {V : View} {s : Shared} {T : List Addr} {h' : Heap} {C : Addr} (ok : (c.at T c.ρ).Ok) (I : Inv (c.at (C :: T) c.ρ) V s) (hm : C ∉ c.muts) (hC : c.N ≤ C) (hT : C ∉ T) (hf : NoFr c.A C) (sb : Heap.SameBut C s.heap h') : Inv (c.at T c.ρ) V { s with heap := h' } := by
  have eq : ∀ b, b ≠ C → h'.get? b = s.heap.get? b := fun b hb => sb.2 b hb
  obtain ⟨m, fr, lo⟩ := I.rep.ns
  have hL : c.L ≠ C := fun q => hm (q ▸ .head _)
  obtain ⟨o, ho, hc⟩ := fr.cls
  refine ⟨⟨⟨m, ⟨fr.ns.at' fun o e => (eq _ hL).trans e, o, (eq _ hL).trans ho, hc⟩, fun x p e => let ⟨v, e1, e2⟩ := lo x p e; ⟨v, e1, e2.drop1 eq⟩⟩, fun j po e => (I.rep.objs j po e).drop1 eq fun z => hm (.tail _ z)⟩, I.base.off ok.lowK ok.lo hC sb.extBut, fun b hb => ?_, I.frs.off sb.extBut hf⟩
  obtain ⟨o, e⟩ := I.live b (.tail _ hb)
  exact ⟨o, (eq b fun q => hT (q ▸ hb)).trans e⟩
/-- an owned object, under no name, is turned -/
theorem Inv.touchF {c : Fc} {V : View} {s : Shared} {h' : Heap} {It : Addr} (ok : c.Ok) (I : Inv c V s) (hT : It ∈ c.T) (hm : It ∉ c.muts) (hf : NoFr c.A It) (k : Keep c.N [It] s.heap h') (xb : Heap.ExtBut It s.heap h') : Inv c V { s with heap := h' } := by
  have kT : Keep c.N c.T s.heap h' := k.sub fun b hb => by rcases List.mem_singleton.mp hb with rfl; exact hT
  have nm : ∀ {b}, b ∈ c.muts → b ∉ [It] := fun hb z => hm (by rcases List.mem_singleton.mp z with rfl; exact hb)
  obtain ⟨m, fr, lo⟩ := I.rep.ns
  exact ⟨⟨⟨m, k.frame (nm (.head _)) fr, fun x p e => let ⟨v, e1, e2⟩ := lo x p e; ⟨v, e1, e2.keep kT⟩⟩, fun j po e => (I.rep.objs j po e).keep k (fun a d e => nm (.tail _ (List.mem_map.mpr ⟨(a, d), List.mem_of_getElem? e, rfl⟩))) (fun b hb => by rcases List.mem_singleton.mp hb with rfl; exact hT) kT⟩, I.base.keep (T := [It]) ok.lowK (fun b hb => by rcases List.mem_singleton.mp hb with rfl; exact ok.fx.low _ hT) ok.lo k, fun b hb => let ⟨o, e⟩ := I.live b hb; k.there b o e, I.frs.off xb hf⟩
structure OwnNew (c : Fc) (V : View) (s : Shared) (It : Addr) (o : Obj) (s' : Shared) : Prop where
  no : s.heap.get? It = none
  ok : (c.at (It :: c.T) c.ρ).Ok
  hm : It ∉ c.muts
  hT : It ∉ c.T
  low : c.N ≤ It
  inv : Inv (c.at (It :: c.T) c.ρ) V s'
  st : St c.N c.muts s s'
  at_ : s'.heap.get? It = some o
  keep : Keep c.N [] s.heap s'.heap
  nf : NoFr c.A It
theorem own_new {c : Fc} {V : View} {s : Shared} {ob : Obj} (ok : c.Ok) (I : Inv c V s) (at_ : (s.heap.push ob).get? s.heap.objs.size = some ob) : OwnNew c V s s.heap.objs.size ob { s with heap := s.heap.push ob } := by
  have no : s.heap.get? s.heap.objs.size = none := by
    cases q : s.heap.get? s.heap.objs.size with
    | none => rfl
    | some o => exact absurd (Heap.lt_size q) (Nat.lt_irrefl _)
  have NI : c.N ≤ s.heap.objs.size := by
    obtain ⟨o, e⟩ := I.live c.L (ok.fx.mem _ (.head _))
    exact Nat.le_of_lt (Nat.lt_of_le_of_lt (ok.fx.low _ (ok.fx.mem _ (.head _))) (Heap.lt_size e))
  have up : ∀ b o, s.heap.get? b = some o → (s.heap.push ob).get? b = some o := fun b o e => Heap.get?_push_of_some _ e
  generalize s.heap.objs.size = It at *
  generalize s.heap.push ob = h' at *
  have k : Keep c.N [] s.heap h' := .of_all up
  have nT : It ∉ c.T := fun z => by obtain ⟨o, e⟩ := I.live _ z; rw [no] at e; cases e
  have ok' : (c.at (It :: c.T) c.ρ).Ok := ⟨⟨fun b hb => .tail _ (ok.fx.mem b hb), ok.fx.nodup, fun b hb => by rcases List.mem_cons.mp hb with rfl | hb; exact NI; exact ok.fx.low b hb⟩, ok.kind, ok.loc, ok.glb, ok.blt, ok.lowK, ok.lo⟩
  obtain ⟨m, hn, lo⟩ := I.rep.ns
  have kT : Keep c.N (It :: c.T) s.heap h' := k.all
  refine ⟨no, ok', fun z => nT (ok.fx.mem _ z), nT, NI, ⟨⟨⟨m, k.frame (fun z => nomatch z) hn, fun x p e => let ⟨v, e1, e2⟩ := lo x p e; ⟨v, e1, (e2.more no).keep kT⟩⟩, fun j po e => ((I.rep.objs j po e).more no).keep k (fun _ _ _ z => nomatch z) (fun _ z => nomatch z) kT⟩, I.base.keep (T := []) ok.lowK (fun _ h => nomatch h) ok.lo k, fun b hb => ?_, I.frs.keep k⟩, ⟨k.all, .refl _, rfl⟩, at_, k, fun fs e env he q => ?_⟩
  · rcases List.mem_cons.mp hb with rfl | hb
    · exact ⟨_, at_⟩
    · obtain ⟨o, e⟩ := I.live b hb; exact ⟨o, up b o e⟩
  · obtain ⟨fs', e', hf⟩ := I.frs
    rw [e] at e'; cases e'
    obtain ⟨_, L, m, h2, _, h4⟩ := hf env he
    rw [q] at h2
    have := Option.some.inj h2
    subst this
    obtain ⟨o, ho, _⟩ := h4.cls
    rw [no] at ho; cases ho
end C1
section C2
/-- what the element gives, wherever the comprehension's own names lie -/
noncomputable def CElt (c : Fc) (elt : Expr) (scope : Scope) (x : Str) (V : View) (p r : PV) : Prop := ∀ (T : List Addr) (C : Addr) (s : Shared) (m : Str → Option Value) (v : Value) (Q E : Value → Shared → Prop), (c.at T c.ρ).Ok → Inv (c.at T c.ρ) V s → s.heap.Ns C m → m x = some v → Is T c.ρ s.heap p v →
  (∀ s' v', Inv (c.at T c.ρ) V s' → St c.N c.muts s s' → Is T c.ρ s'.heap r v' → Q v' s') → wpAny c.M c.A (eval elt (compEnv scope C c.env)) Q E s
structure CAt (c : Fc) (V : View) (s0 : Shared) (It D C l : Addr) (T : List Addr) (vs : List Value) (ps rs : List PV) (i : Nat) (s : Shared) : Prop where
  inv : Inv (c.at T c.ρ) V s
  st : St c.N c.muts s0 s
  it : s.heap.IsListIter It l i
  ls : s.heap.IsList l vs.toArray
  acc : ∃ ys : List Value, s.heap.IsList D ys.toArray ∧ IsL T c.ρ s.heap (rs.take i) ys
  ns : ∃ m, s.heap.Ns C m
  iv : IsL T c.ρ s.heap (ps.drop i) (vs.drop i)
theorem IsL.snoc {T : List Addr} {ρ : List (Addr × Addr)} {h : Heap} {ps : List PV} {vs : List Value} {p : PV} {v : Value} (a : IsL T ρ h ps vs) (b : Is T ρ h p v) : IsL T ρ h (ps ++ [p]) (vs ++ [v]) := a.append (.cons b .nil)
theorem comp_go {c : Fc} {V : View} {elt iter : Expr} {x : Str} {px pos : Pos} {scope : Scope} {ps rs : List PV} {s0 s : Shared} {It D C l : Addr} {T : List Addr} {vs : List Value} {R : Result → Shared → Prop}
    (hh : c.A.handled = none) (okT : (c.at T c.ρ).Ok) (hkind : scope.kind = .function) (hx : scope.names.lookup x = some .local) (hlen : rs.length = ps.length) (hz : ps.length ≤ 1000000)
    (he : ∀ (i : Nat) (p r : PV), ps[i]? = some p → rs[i]? = some r → CElt c elt scope x V p r)
    (nI : s0.heap.get? It = none) (nD : s0.heap.get? D = none) (nC : s0.heap.get? C = none) (hI : It ∈ T) (hD : D ∈ T) (hC : C ∈ T) (mI : It ∉ c.muts) (mD : D ∉ c.muts) (mC : C ∉ c.muts) (fI : NoFr c.A It) (fD : NoFr c.A D) (fC : NoFr c.A C)
    (ID : It ≠ D) (IC : It ≠ C) (DC : D ≠ C) (lT : l ∉ T) (a : CAt c V s0 It D C l T vs ps rs 0 s)
    (k : ∀ s' ys m, Inv (c.at (lessA T It) c.ρ) V s' → St c.N c.muts s0 s' → s'.heap.IsList D ys → IsL (lessA T It) c.ρ s'.heap rs ys.toList → s'.heap.Ns C m → R (.ok .next) s') :
    codeAny c.M c.A (.compLoop (.ListComp elt [⟨.Name x px, iter, [], 0⟩] scope pos) 0 (.ref It) (.ref D) (compEnv scope C c.env)) R s := by
  have vlen : vs.length = ps.length := by have h := a.iv.length; rw [List.drop_zero, List.drop_zero] at h; exact h.symm
  refine codeAny_compLoop_list (fun n s' => ∃ i, n = ps.length + 1 - i ∧ i ≤ ps.length ∧ CAt c V s0 It D C l T vs ps rs i s') ?_ (ps.length + 1) ⟨0, rfl, Nat.zero_le _, a⟩
  rintro n s' ⟨i, rfl, hi, a⟩
  have lI : l ≠ It := fun q => lT (q ▸ hI)
  have lD : l ≠ D := fun q => lT (q ▸ hD)
  have lC : l ≠ C := fun q => lT (q ▸ hC)
  have n1 : ∀ {a b : Addr}, a ≠ b → a ∉ [b] := fun h z => h (List.mem_singleton.mp z)
  have sub1 : ∀ {b : Addr}, b ∈ T → ∀ y ∈ [b], y ∈ T := fun h y hy => by rcases List.mem_singleton.mp hy with rfl; exact h
  have ml : l ∉ c.muts := fun z => lT (okT.fx.mem _ z)
  cases hv : vs[i]? with
  | none =>
    have hin : i = ps.length := Nat.le_antisymm hi (vlen ▸ List.getElem?_eq_none_iff.mp hv)
    refine wpAny_pyNext_list_end hh a.it a.ls (by simpa using hv) fun h' xb => ?_
    obtain ⟨ys, ha, hy⟩ := a.acc
    obtain ⟨m, hm⟩ := a.ns
    obtain ⟨oD, eD, cD, dD⟩ := ha
    refine k _ ys.toArray m (a.inv.off okT hI mI fI xb) (a.st.off nI xb) ⟨oD, xb D oD ID.symm eD, cD, dD⟩ ?_ (hm.at' fun o e => xb C o IC.symm e)
    rw [hin, ← hlen, List.take_length] at hy
    exact hy.to (to_off hI xb)
  | some v =>
    have hltv : i < vs.length := (List.getElem?_eq_some_iff.mp hv).1
    have hlt : i < ps.length := vlen ▸ hltv
    have hltr : i < rs.length := hlen ▸ hlt
    have ev : vs.drop i = v :: vs.drop (i + 1) := by
      rw [List.drop_eq_getElem_cons hltv]
      rw [List.getElem?_eq_getElem hltv] at hv
      rw [Option.some.inj hv]
    have ep : ps.drop i = ps[i] :: ps.drop (i + 1) := List.drop_eq_getElem_cons hlt
    refine wpAny_pyNext_list_item a.it a.ls (by simpa using hv) fun h1 it1 sb1 => ?_
    have kI : Keep c.N [It] s'.heap h1 := by obtain ⟨o1, e1, _⟩ := it1; exact .sameBut sb1 e1 (.head _)
    have I1 := a.inv.touchF (c := c.at T c.ρ) okT hI mI fI kI sb1.extBut
    have st1 := a.st.touch nI kI
    obtain ⟨ys, ha, hy⟩ := a.acc
    obtain ⟨m, hm⟩ := a.ns
    have hiv := a.iv
    rw [ev, ep] at hiv
    have ha1 := keep_list kI (n1 ID.symm) ha
    have hy1 := hy.keep (kI.sub (sub1 hI))
    have hm1 := kI.ns (n1 IC.symm) hm
    have iv1 := hiv.keep (kI.sub (sub1 hI))
    have ls1 := keep_list kI (n1 lI) a.ls
    refine wpAny_assign_Name (wpAny_storeName_local (env := compEnv scope C c.env) hx hm1 (fun h2 hm2 sb2 => ?_) (by show (scope.kind == .class || (scope.kind == .module && _)) = false; rw [hkind]; rfl))
    have kC : Keep c.N [C] h1 h2 := by obtain ⟨o2, _, _, e2, _⟩ := hm2; exact .sameBut sb2 e2 (.head _)
    have I2 := I1.touchF (c := c.at T c.ρ) (h' := h2) okT hC mC fC kC sb2.extBut
    have I2 := I2.toks (s'.toks + 1)
    have st2 := (st1.touch (h' := h2) nC kC).trans (.toks (s'.toks + 1))
    have it2 : h2.IsListIter It l (i + 1) := keep_iter kC (n1 IC) it1
    have ls2 := keep_list kC (n1 lC) ls1
    have ha2 := keep_list kC (n1 DC) ha1
    have hy2 := hy1.keep (kC.sub (sub1 hC))
    have iv2 := iv1.keep (kC.sub (sub1 hC))
    cases iv2 with
    | cons i1 ir =>
      refine he i ps[i] rs[i] (List.getElem?_eq_getElem hlt) (List.getElem?_eq_getElem hltr) T C { s' with heap := h2, toks := s'.toks + 1 } _ v _ _ okT I2 hm2 (by simp) i1 fun s3 v' I3 t3 i3 => ?_
      have kmT : Keep c.N T h2 s3.heap := t3.keep.sub okT.fx.mem
      have ha3 := keep_list t3.keep mD ha2
      have yl : ys.length ≤ 1000000 := by rw [← hy.length]; exact Nat.le_trans (List.length_take_le' _ _) (hlen ▸ hz)
      refine wpAny_list_append ha3 (fun h4 ha4 sb4 => ?_) (by rw [List.size_toArray]; exact Nat.le_trans yl sizeM)
      have kD : Keep c.N [D] s3.heap h4 := by obtain ⟨o4, e4, _⟩ := ha4; exact .sameBut sb4 e4 (.head _)
      refine ⟨_, ndec hlt, i + 1, rfl, hlt, I3.touchF (c := c.at T c.ρ) okT hD mD fD kD sb4.extBut, ((st2.trans t3).touch nD kD), keep_iter kD (n1 ID) (keep_iter t3.keep mI it2), keep_list kD (n1 lD) (keep_list t3.keep ml ls2), ⟨ys ++ [v'], by simpa using ha4, ?_⟩, ⟨_, kD.ns (n1 DC.symm) (t3.keep.ns mC hm2)⟩, (ir.keep kmT).keep (kD.sub (sub1 hD))⟩
      rw [List.take_succ_eq_append_getElem hltr]
      exact ((hy2.keep kmT).snoc i3).keep (kD.sub (sub1 hD))
theorem Inv.less {c : Fc} {V : View} {s : Shared} {T : List Addr} {C : Addr} (I : Inv (c.at (C :: T) c.ρ) V s) : Inv (c.at T c.ρ) V s := by
  obtain ⟨m, hn, lo⟩ := I.rep.ns
  exact ⟨⟨⟨m, hn, fun x p e => let ⟨v, e1, e2⟩ := lo x p e; ⟨v, e1, e2.less⟩⟩, fun j po e => (I.rep.objs j po e).less⟩, I.base, fun b hb => I.live b (.tail _ hb), I.frs⟩
theorem wp_compEnv {M : Model} {A : Around} {E : Value → Shared → Prop} {s : Shared} {scope : Scope} {env : Env} {Q : Env → Shared → Prop} (hcell : ∀ x ∈ scope.names, x.2 ≠ .cell) (h : Q (compEnv scope s.heap.objs.size env) { s with heap := s.heap.push { cls := .type "dict", data := .dict #[] } }) :
    wpAny M A (newFunctionEnv scope env.globals [] [] env.qual none .none (some env)) Q E s := by
  simp only [newFunctionEnv, Option.isSome_some, if_true]
  refine wpAny_bind (wpAny_alloc ?_)
  rw [forIn_yield_id [] (fun x hx c => by
    obtain ⟨name, kind⟩ := x
    have : (kind == NameKind.cell) = false := by simpa using hcell _ hx
    simp only [this, Bool.false_eq_true, if_false])]
  refine wpAny_bind (wpAny_pure ?_)
  simp only [List.forIn_nil]
  exact wpAny_bind (wpAny_pure (wpAny_pure h))
/-- [elt for x in iter] -/
theorem ev_listcomp {c : Fc} {V : View} {elt iter : Expr} {x : Str} {px pos : Pos} {scope : Scope} {ps rs : List PV} (ok : c.Ok) (hh : c.A.handled = none) (hfree : ∀ x ∈ scope.names, x.2 ≠ .free) (hcell : ∀ x ∈ scope.names, x.2 ≠ .cell) (hnames : ∀ x ∈ scope.names, x.2 = .local → scope.names.lookup x.1 = some .local) (hkind : scope.kind = .function) (hx : scope.names.lookup x = some .local)
    (hit : EvOk c iter V (.l ps) V) (hs : ∀ x, foldedSetIterable iter c.env x = pure x) (hlen : rs.length = ps.length) (hz : ps.length ≤ 1000000) (he : ∀ (i : Nat) (p r : PV), ps[i]? = some p → rs[i]? = some r → CElt c elt scope x V p r) :
    EvOk c (.ListComp elt [⟨.Name x px, iter, [], 0⟩] scope pos) V (.l rs) V := by
  intro s Q E I k
  refine wpAny_ListComp hfree hkind hnames (hit s _ E I fun s1 v I1 t1 i1 => ?_) hs
  obtain ⟨l, ob, arr, n, si, il⟩ := i1.il
  have hv := si.v
  subst hv
  refine wpAny_pyIter_list si.isList ?_
  have NI := own_new (ob := itObj l) ok I1 (Heap.get?_push_size _ rfl)
  have back : ∀ {a : Addr} {h : Heap}, Keep c.N [] s1.heap h → h.get? a = none → s.heap.get? a = none := fun {a h} kk e => by
    cases q : s.heap.get? a with
    | none => rfl
    | some o => obtain ⟨o', e'⟩ := t1.keep.there _ o q; obtain ⟨o2, e2⟩ := kk.there _ o' e'; rw [e] at e2; cases e2
  have liI := keep_list NI.keep (fun z => nomatch z) si.isList
  have ilI := (il.more NI.no).keep (NI.keep.all (T := s1.heap.objs.size :: c.T))
  have noI := back (.refl _) NI.no
  have kI := NI.keep
  generalize s1.heap.objs.size = It at *
  generalize eh2 : s1.heap.push (itObj l) = h2 at *
  refine wpAny_newObj_type (hd := by size_fits) ?_
  have ND := own_new (c := c.at (It :: c.T) c.ρ) (s := { s1 with heap := h2 }) (ob := { cls := .type "list", data := .seq ([] : List Value).toArray }) NI.ok NI.inv (Heap.get?_push_size _ rfl)
  have liD := keep_list ND.keep (fun z => nomatch z) liI
  have ilD := (ilI.more ND.no).keep (ND.keep.all (T := h2.objs.size :: It :: c.T))
  have noD := back kI ND.no
  have kD : Keep c.N [] s1.heap _ := kI.trans ND.keep
  have itD := keep_iter (l := l) (i := 0) ND.keep (fun z => nomatch z) ⟨_, NI.at_, rfl, rfl⟩
  have hDI : h2.objs.size ≠ It := fun q => ND.hT (q ▸ .head _)
  have acD : IsL (h2.objs.size :: It :: c.T) c.ρ (h2.push { cls := .type "list", data := .seq ([] : List Value).toArray }) [] [] := .nil
  have atD := ND.at_
  generalize h2.objs.size = D at *
  generalize eh3 : h2.push { cls := .type "list", data := .seq ([] : List Value).toArray } = h3 at *
  refine wp_compEnv hcell ?_
  have NC := own_new (c := c.at (D :: It :: c.T) c.ρ) (s := { s1 with heap := h3 }) (ob := { cls := .type "dict", data := .dict #[] }) ND.ok ND.inv (Heap.get?_push_size _ rfl)
  have nsC : (h3.push { cls := .type "dict", data := .dict #[] }).Ns h3.objs.size (fun _ => none) := Heap.Ns.new ..
  have hCn := NC.hT
  have noC := back kD NC.no
  have lnT : l ∉ h3.objs.size :: D :: It :: c.T := fun z => by
    rcases List.mem_cons.mp z with z | z
    · obtain ⟨o, e, _⟩ := liD; rw [z] at e; exact absurd (Heap.lt_size e) (Nat.lt_irrefl _)
    · rcases List.mem_cons.mp z with z | z
      · obtain ⟨o, e, _⟩ := liI; rw [z, ND.no] at e; cases e
      · rcases List.mem_cons.mp z with z | z
        · obtain ⟨o, e, _⟩ := si.isList; rw [z, NI.no] at e; cases e
        · exact si.out z
  have liC := keep_list NC.keep (fun z => nomatch z) liD
  have ilC := (ilD.more NC.no).keep (NC.keep.all (T := h3.objs.size :: D :: It :: c.T))
  have itC := keep_iter NC.keep (fun z => nomatch z) itD
  have acC : (h3.push { cls := .type "dict", data := .dict #[] }).IsList D ([] : List Value).toArray := keep_list NC.keep (fun z => nomatch z) ⟨_, atD, rfl, 0, rfl⟩
  have stC : St c.N c.muts s _ := t1.trans (NI.st.trans (ND.st.trans NC.st))
  generalize h3.objs.size = C at *
  generalize h3.push { cls := .type "dict", data := .dict #[] } = h4 at *
  have hCD : D ≠ C := fun q => hCn (q ▸ .head _)
  have hCI : It ≠ C := fun q => hCn (q ▸ .tail _ (.head _))
  have loop : codeAny c.M c.A (.compLoop (.ListComp elt [⟨.Name x px, iter, [], 0⟩] scope pos) 0 (.ref It) (.ref D) (compEnv scope C c.env)) (fun r s' => ∃ m, s'.heap.Ns C m ∧ ∀ h', Heap.SameBut C s'.heap h' → match r with | .ok _ => Q (.ref D) { s' with heap := h' } | .error x => wpAny c.M c.A (passOn "comprehension.variables-let-go" x (compEnv scope C c.env)) Q E { s' with heap := h' }) { s1 with heap := h4 } := by
    refine comp_go (V := V) (ps := ps) (rs := rs) (s0 := s) (T := C :: D :: It :: c.T) (vs := arr.toList) hh NC.ok hkind hx hlen hz he noI noD noC (.tail _ (.tail _ (.head _))) (.tail _ (.head _)) (.head _) NI.hm ND.hm NC.hm NI.nf ND.nf NC.nf hDI.symm hCI hCD lnT ⟨NC.inv, stC, itC, liC, ⟨[], acC, by rw [List.take_zero]; exact .nil⟩, ⟨_, nsC⟩, by rw [List.drop_zero, List.drop_zero]; exact ilC⟩ fun s' ys m I' st' acc' hy' ns' => ⟨m, ns', fun h' sb => ?_⟩
    have sbe : ∀ b, b ≠ C → h'.get? b = s'.heap.get? b := fun b hb => sb.2 b hb
    have eT : lessA (C :: D :: It :: c.T) It = C :: D :: c.T := by
      have nIt : ∀ b ∈ c.T, (b != It) = true := fun b hb => bne_iff_ne.mpr fun q => NI.hT (q ▸ hb)
      have e1 : (C != It) = true := bne_iff_ne.mpr hCI.symm
      have e2 : (D != It) = true := bne_iff_ne.mpr hDI
      have e3 : (It != It) = false := bne_self_eq_false It
      unfold lessA
      rw [List.filter_cons, e1, List.filter_cons, e2, List.filter_cons, e3, List.filter_eq_self.mpr nIt]
      rfl
    rw [eT] at I' hy'
    have okD : (c.at (D :: c.T) c.ρ).Ok := ⟨⟨fun b hb => .tail _ (ok.fx.mem b hb), ok.fx.nodup, fun b hb => by rcases List.mem_cons.mp hb with rfl | hb; exact ND.low; exact ok.fx.low b hb⟩, ok.kind, ok.loc, ok.glb, ok.blt, ok.lowK, ok.lo⟩
    have J := (Inv.drop1 (c := c) (T := D :: c.T) okD I' NC.hm NC.low (fun z => hCn (by rcases List.mem_cons.mp z with rfl | z; exact .head _; exact .tail _ (.tail _ z))) NC.nf sb)
    have J2 : Inv c V { s' with heap := h' } := Inv.less J
    obtain ⟨oD, eD, cD, nD, dD⟩ := acc'
    exact k _ _ J2 (st'.off noC sb.extBut) (.l (fun z => ND.hT (.tail _ z)) ((sbe _ hCD).trans eD) cD dD ((hy'.drop1 sbe).less))
  exact codeAny_compStart_list loop (wpAny_pyIter_listiter itC loop)
end C2
section C3
/-- an element g(x), g a def of the text -/
theorem celt_call {c : Fc} {V : View} {D : Nat} {g x : Str} {pg px pc : Pos} {scope : Scope} {f : Value} {p r : PV} (hglb : c.env.globals = mainGlobals) (hkind : scope.kind = .function) (hg : scope.names.lookup g = some .globalImplicit) (hx : scope.names.lookup x = some .local) (hdg : (g == ("__debug__" : Str)) = false) (hdx : (x == ("__debug__" : Str)) = false) (hf : nsIn c.K mainGlobals g = some (some f)) (hk : keepOk c.K f = true) (room : Room c.A D) (h : SpecP c.toWd D f [p] r) :
    CElt c (.Call (.Name g pg) [.Name x px] [] pc) scope x V p r := by
  intro T C s m v Q E ok I hn hm i k
  refine wpAny_Call_NameR ?_
  refine Calls.Name_function_global hkind hg ?_ hdg
  unfold loadGlobal
  rw [show (compEnv scope C c.env).globals = mainGlobals from hglb]
  refine nsMain I.base.k hf rfl (wpAny_pure ?_)
  refine callWith_of (P := c.K.In) (by rw [starEach_any (by rfl)]; rfl) (keeps_ok hk) (evalArgs_any (starEach_any (by rfl)) ?_)
  rw [starEach_cons (by rfl)]
  refine Calls.spliced_cons (wpAny_Name (wpAny_loadName_local (env := compEnv scope C c.env) hkind hx hn hm ?_) hdx)
  refine Calls.spliced_nil ⟨I.base.k, ?_⟩
  refine h V.objs (c.at T c.ρ) ok rfl room s [v] Q E I.base I.live I.frs I.rep.objs (.cons i .nil) fun s3 v3 t3 B3 F3 O3 i3 => k s3 v3 (I.called ok t3 B3 F3 O3) (t3.sub mutsOf_sub) i3
end C3
section W2
/-! ## _law_line -/
noncomputable abbrev llFd (w : Wn) : FuncData := fdOf (WW w).K 787
theorem ll_def (w : Wn) : defOk (WW w).K 787 ["tree"] = true := by kernel_rfl
theorem ll_bind (w : Wn) (v : Value) : runPure (WW w).K 30 (bindArgs (llFd w) ⟨[v], []⟩) = some ([("tree", v)] : List (Str × Value)) := by kernel_rfl
theorem ll_w (w : Wn) (x : Str) (objs : List PO) : xr (cfg0 w (llFd w)) 60 (bodyOf (llFd w)) [] ⟨[("tree", .s x)], objs⟩ = some (.ret (.s x), objs, []) := by kernel_rfl
theorem ll_l (w : Wn) (ts : List PV) (objs : List PO) : xs (cfg0 w (llFd w)) 60 ((bodyOf (llFd w)).take 1) [] ⟨[("tree", .l ts)], objs⟩ = some (.next, [], ⟨[("tree", .l ts)], objs⟩, []) := by kernel_rfl
/-- return j([g(x) for x in y]) -/
structure LlX where
  j : Str
  pj : Pos
  g : Str
  pg : Pos
  x : Str
  px : Pos
  pc : Pos
  pt : Pos
  y : Str
  py : Pos
  scope : Scope
  pos : Pos
  p1 : Pos
  p2 : Pos
noncomputable def LlX.lc (r : LlX) : Expr := .ListComp (.Call (.Name r.g r.pg) [.Name r.x r.px] [] r.pc) [⟨.Name r.x r.pt, .Name r.y r.py, [], 0⟩] r.scope r.pos
noncomputable def LlX.st (r : LlX) : Stmt := .Return (some (.Call (.Name r.j r.pj) [r.lc] [] r.p1)) r.p2
noncomputable def llX : Stmt → Option LlX
  | .Return (some (.Call (.Name j pj) [.ListComp (.Call (.Name g pg) [.Name x px] _ pc) [⟨.Name _ pt, .Name y py, _, _⟩] scope pos] _ p1)) p2 => some ⟨j, pj, g, pg, x, px, pc, pt, y, py, scope, pos, p1, p2⟩
  | _ => none
theorem ll_some (w : Wn) : (((bodyOf (llFd w)).drop 1).head?.bind llX).isSome = true := by kernel_rfl
noncomputable def llG (w : Wn) : LlX := (((bodyOf (llFd w)).drop 1).head?.bind llX).get (ll_some w)
theorem ll_shape (w : Wn) : (bodyOf (llFd w)).drop 1 = [(llG w).st] := by kernel_rfl
noncomputable def LlX.good (r : LlX) : Bool := r.j == ("join_shlex" : Str) && r.g == ("_law_line" : Str) && r.x == ("part" : Str) && r.y == ("tree" : Str) && r.scope.names.all (fun z => z.2 != .cell && z.2 != .free && (z.2 != .local || r.scope.names.lookup z.1 == some .local)) && (r.scope.names.lookup ("part" : Str) == some .local) && (r.scope.names.lookup ("_law_line" : Str) == some .globalImplicit) && r.scope.kind == .function
theorem ll_good (w : Wn) : (llG w).good = true := by kernel_rfl
theorem ll_name (w : Wn) : (llFd w).scope.names.lookup ("tree" : Str) = some NameKind.local := by kernel_rfl
theorem ll_glob (w : Wn) : (llFd w).scope.names.lookup ("join_shlex" : Str) = some NameKind.globalImplicit := by kernel_rfl
theorem ll_jn (w : Wn) : globIs (WW w).K "join_shlex" (.ref 760) = true := by kernel_rfl
theorem ll_fn (w : Wn) : nsIn (WW w).K mainGlobals "_law_line" = some (some (.ref 787)) := by kernel_rfl
theorem keep_line (w : Wn) : keepOk (WW w).K (.ref 787) = true := by kernel_rfl
theorem ev_line {w : Wn} {c : Fc} {V : View} {D : Nat} {ts : List Tr} (r : LlX) (hr : r.good = true) (ok : c.Ok) (e : c.toWd = WW w) (room : Room c.A D) (hy : EvOk c (.Name r.y r.py) V (.l (Tr.pvs ts)) V) (hz : ts.length ≤ 1000000) (ih : ∀ t ∈ ts, SpecP (WW w) D (.ref 787) [t.pv] (.s (tx t.line))) : EvOk c r.lc V (.l (ts.map fun t => .s (tx t.line))) V := by
  unfold LlX.good at hr
  simp only [Bool.and_eq_true, beq_iff_eq] at hr
  obtain ⟨⟨⟨⟨⟨⟨⟨g1, g2⟩, g3⟩, g4⟩, g5⟩, g6⟩, g7⟩, g8⟩ := hr
  have hn : ∀ z ∈ r.scope.names, z.2 ≠ .free ∧ z.2 ≠ .cell ∧ (z.2 = .local → r.scope.names.lookup z.1 = some .local) := fun z hz => by
    have := List.all_eq_true.mp g5 z hz
    obtain ⟨h12, h3⟩ := Bool.and_eq_true_iff.mp this
    obtain ⟨h1, h2⟩ := Bool.and_eq_true_iff.mp h12
    refine ⟨fun q => (by rw [q] at h2; cases h2), fun q => (by rw [q] at h1; cases h1), fun q => ?_⟩
    rw [q] at h3
    rcases Bool.or_eq_true_iff.mp h3 with h3 | h3
    · cases h3
    · exact eq_of_beq h3
  unfold LlX.lc
  refine ev_listcomp ok room.handled (fun z hz => (hn z hz).1) (fun z hz => (hn z hz).2.1) (fun z hz => (hn z hz).2.2) g8 (by rw [g3]; exact g6) hy (fun _ => rfl) (by rw [pvs_map]; simp) (by rw [pvs_map, List.length_map]; exact hz) fun i p r' hp hr' => ?_
  rw [pvs_map] at hp
  rw [List.getElem?_map] at hp hr'
  cases et : ts[i]? with
  | none => rw [et] at hp; cases hp
  | some t =>
    rw [et] at hp hr'
    cases hp; cases hr'
    refine celt_call (D := D) (f := .ref 787) ok.glb g8 (by rw [g2]; exact g7) (by rw [g3]; exact g6) (by rw [g2]; decide) (by rw [g3]; decide) ?_ ?_ room ?_
    · rw [g2, show c.K = (WW w).K from congrArg Wd.K e]; exact ll_fn w
    · rw [show c.K = (WW w).K from congrArg Wd.K e]; exact keep_line w
    · rw [e]; exact ih t (List.mem_of_getElem? et)
mutual
noncomputable def Tr.dep : Tr → Nat
  | .w _ => 0
  | .l ts => 1 + Tr.deps ts
noncomputable def Tr.deps : List Tr → Nat
  | [] => 0
  | t :: r => max t.dep (Tr.deps r)
end
theorem dep_mem {t : Tr} : ∀ {ts : List Tr}, t ∈ ts → t.dep ≤ Tr.deps ts
  | x :: r, h => by
    show _ ≤ max x.dep (Tr.deps r)
    rcases List.mem_cons.mp h with rfl | h
    · exact Nat.le_max_left _ _
    · exact Nat.le_trans (dep_mem h) (Nat.le_max_right _ _)
theorem pot_mem_qs {t : Tr} {ts : List Tr} (h : t ∈ ts) : t.pot ≤ Tr.qs ts := Nat.le_trans (pot_mem h) (pots_qs ts)
theorem spec_line (w : Wn) : ∀ (n : Nat) (t : Tr), t.dep ≤ n → t.wf = true → t.pot ≤ Mx → SpecP (WW w) (8 + n) (.ref 787) [t.pv] (.s (tx t.line))
  | n, .w x, _, _, _ => fun objs => (SpecC.spec (spec_run (D := 1) (ll_def w) (tabs_ok w) rfl (bd1 (ll_bind w)) (ll_w w (tx x) objs) trivial)).le (by omega)
  | 0, .l ts, h, _, _ => absurd h (by show ¬ 1 + Tr.deps ts ≤ 0; omega)
  | n + 1, .l ts, h, hw, hp => by
    intro objs
    have h : 1 + Tr.deps ts ≤ n + 1 := h
    have hp : 1 + Tr.qs ts ≤ 1000000 := hp
    have hwf := (wfs_iff ts).mp (Bool.and_eq_true_iff.mp (show (Tr.wfs ts && _) = true from hw)).1
    have hlen : ts.length ≤ 1000000 := by have := pots_len ts; have := pots_qs ts; omega
    have ih : ∀ t ∈ ts, SpecP (WW w) (8 + n) (.ref 787) [t.pv] (.s (tx t.line)) := fun t ht => spec_line w n t (by have := dep_mem ht; omega) (hwf t ht) (by have := pot_mem_qs ht; show _ ≤ 1000000; omega)
    have g := ll_good w
    have g0 := g
    unfold LlX.good at g
    simp only [Bool.and_eq_true, beq_iff_eq] at g
    obtain ⟨⟨⟨⟨⟨⟨⟨g1, g2⟩, g3⟩, g4⟩, g5⟩, g6⟩, g7⟩, g8⟩ := g
    refine SpecC.spec (spec_body (D := 8 + n) (fl := .ret (.s (tx (Tr.l ts).line))) (loc := [("tree", .l (Tr.pvs ts))]) (ll_def w) rfl (bd1 (ll_bind w)) fun c ok e room hs => ⟨⟨[("tree", .l (Tr.pvs ts))], objs⟩, ?_, rfl⟩)
    have gk := mkCfg_ok (D := 1) (t := tabs) (po := blt _ _) (eo := .none _ _) ok e (room.le (by omega)) (by decide) hs (tabs_ok w)
    rw [← List.take_append_drop 1 (bodyOf (fdOf (WW w).K 787)), show (bodyOf (fdOf (WW w).K 787)).drop 1 = _ from ll_shape w]
    refine xs_app ok gk (ll_l w (Tr.pvs ts) objs) trivial (ex_stop (sx_return ?_) (fun q => nomatch q))
    have hy : EvOk c (.Name (llG w).y (llG w).py) ⟨[("tree", .l (Tr.pvs ts))], objs⟩ (.l (Tr.pvs ts)) ⟨[("tree", .l (Tr.pvs ts))], objs⟩ := by
      refine ev_local ok ?_ (by rw [g4]; decide) (by rw [g4]; rfl)
      unfold Env.kindOf; rw [hs, g4]; exact ll_name w
    have hj : EvOk c (.Name (llG w).j (llG w).pj) ⟨[("tree", .l (Tr.pvs ts))], objs⟩ (.v (.ref 760)) ⟨[("tree", .l (Tr.pvs ts))], objs⟩ := by
      refine ev_glob ok ?_ (by rw [g1]; decide) ?_
      · unfold Env.kindOf; rw [hs, g1]; exact ll_glob w
      · rw [g1, show c.K = (WW w).K from congrArg Wd.K e]; exact ll_jn w
    have hlc := ev_line (llG w) g0 ok e room.of_in1 hy hlen ih
    have jn := jn_trees hwf (by show _ ≤ 1000000; omega)
    have sj : SpecP (WW w) 6 (.ref 760) [.l (ts.map fun t => .s (tx t.line))] (.s (tx (Tr.l ts).line)) := by
      have e1 : (ts.map Tr.line).map (fun l : List Nat => PV.s (tx l)) = ts.map fun t => .s (tx t.line) := by rw [List.map_map]; rfl
      obtain ⟨_, j2, j3⟩ := jn
      rw [map_textOf] at j2 j3
      have := spec_join w (ts.map Tr.line) j2 j3
      rw [e1] at this
      rw [show (Tr.l ts).line = joinL (ts.map Tr.line) from by show joinL (Tr.lines ts) = _; rw [lines_map]]
      exact this
    exact ev_call ok hj (by rw [show c.K = (WW w).K from congrArg Wd.K e]; exact keep_join w) rfl (args_cons ok hlc args_nil rfl) (sj objs c ok e (room.of_in1.le (by omega)))
end W2
section N1
/-! ## lists that are made within a frame -/
section
variable {c : Fc} {V V1 V2 V' : View} {p : PV} {f : PF}
noncomputable def ArgsG (c : Fc) (es : List Expr) (V : View) (ps : List PV) (V' : View) : Prop :=
  ∀ (s : Shared) (pos : Pos) (Q : List Value → Shared → Prop) (E : Value → Shared → Prop), Inv c V s → V.objs.length = c.ρ.length → (∀ s' vs T ρ, Grow c s T ρ → V'.objs.length = ρ.length → Inv (c.at T ρ) V' s' → St c.N c.muts s s' → IsL T ρ s'.heap ps vs → Q vs s') → wpAny c.M c.A (spliced (backTo pos (starEach es c.env))) Q E s
theorem ArgsOk.g {es : List Expr} {ps : List PV} (ok : c.Ok) (h : ArgsOk c es V ps V') (hl : V'.objs.length = V.objs.length) : ArgsG c es V ps V' := fun s pos Q E I l k => h s pos Q E I fun s' v I' t i => k s' v _ _ (.refl ok) (hl.trans l) I' t i
theorem Is.grown {T T' : List Addr} {ρ ρ' : List (Addr × Addr)} {s s' : Shared} {v : Value} (ok : (c.at T ρ).Ok) (g : Grow (c.at T ρ) s T' ρ') (t : St c.N (muts c.L ρ) s s') (i : Is T ρ s.heap p v) : Is T' ρ' s'.heap p v := by
  obtain ⟨ν, rfl, _⟩ := g.ext
  exact (i.grow g.fresh).keep (t.keep.sub fun b hb => g.sub b (ok.fx.mem b hb))
theorem argsg_cons {e : Expr} {es : List Expr} {ps : List PV} (he : EvG c e V p V1) (hr : ∀ T ρ, (c.at T ρ).Ok → ArgsG (c.at T ρ) es V1 ps V2) (hs : noStar e = true) : ArgsG c (e :: es) V (p :: ps) V2 := by
  intro s pos Q E I l k
  rw [starEach_cons hs]
  refine Calls.spliced_cons (he s _ E I l fun s1 v T ρ g l1 I1 t1 i1 => ?_)
  exact hr T ρ g.ok s1 pos _ E I1 l1 fun s2 vs T' ρ' g' l2 I2 t2 i2 => k s2 _ T' ρ' (g.trans t1.keep g') l2 I2 (g.keep t1 t2) (.cons (i1.grown g.ok g' t2) i2)
theorem evg_list {es : List Expr} {ps : List PV} {pos : Pos} (ha : ArgsG c es V ps V1) (hz : ps.length ≤ 1000) : EvG c (.List es pos) V (.o V1.objs.length) ⟨V1.loc, V1.objs ++ [.list ps.reverse]⟩ := by
  intro s Q E I l h
  refine List_ (ha s pos _ E I l fun s1 vs T ρ g l1 I1 t1 i1 => ?_)
  have hl := i1.length
  refine wpAny_newObj_type ?_ (by show vs.toArray.size ≤ sizeLine; rw [List.size_toArray, sizeLine_eq]; omega)
  have fr : s1.heap.get? s1.heap.objs.size = none := fresh_get _
  have e := Heap.get?_push_size s1.heap (o := { cls := .type "list", data := .seq vs.toArray }) rfl
  have up : ∀ b o, s1.heap.get? b = some o → (s1.heap.push { cls := .type "list", data := .seq vs.toArray }).get? b = some o := fun b o e => Heap.get?_push_of_some _ e
  have NS := I1.size g.ok
  generalize s1.heap.objs.size = a at *
  generalize s1.heap.push { cls := .type "list", data := .seq vs.toArray } = h' at *
  have k : Keep c.N [] s1.heap h' := .of_all up
  have g2 := grow_one (c := c.at T ρ) (a := a) g.ok I1 fr NS
  refine h { s1 with heap := h' } _ _ _ (g.trans t1.keep g2) (by simp [l1]) (Inv.grow (c := c.at T ρ) (s' := { s1 with heap := h' }) g.ok g2 I1 k (fun b hb => ?_) l1 fun j po ej => ?_) (g.keep t1 ⟨k.all, .refl _, rfl⟩) ?_
  · rcases List.mem_cons.mp hb with rfl | hb
    · exact ⟨_, e⟩
    · obtain ⟨o, eb⟩ := I1.live b hb; exact k.there b o eb
  · cases j with
    | zero =>
      cases ej
      refine ⟨a, vs.toArray, 0, by simp, e, ?_⟩
      exact ((i1.grow g2.fresh).keep k.all).reverse
    | succ j => simp at ej
  · exact .o (m := a) (by rw [l1]; simp)
theorem evg_tuple {es : List Expr} {ps : List PV} {k : Nat} {pos : Pos} (ha : ArgsG c es V ps V1) (hz : ps.length ≤ 1000) : EvG c (.Tuple es k pos) V (.t ps) V1 := by
  intro s Q E I l h
  refine Tuple_ (ha s pos _ E I l fun s1 vs T ρ g l1 I1 t1 i1 => ?_)
  have hl := i1.length
  refine wpAny_newObj_type ?_ (by show vs.toArray.size ≤ sizeLine; rw [List.size_toArray, sizeLine_eq]; omega)
  exact h _ _ T ρ g l1 (I1.pushed g.ok _ _) (t1.trans (.pushed _ _)) (.t (fresh_notT I1) (Heap.get?_push_size _ rfl) rfl rfl (by simpa using i1.keep (.push (N := c.N) _ _)))
theorem sxg_unpackS {ts : List Expr} {k : Nat} {tp pos : Pos} {e : Expr} {xs : List Str} {ps : List PV} (hh : c.A.handled = none) (hl : xs.length = ps.length) (hk : ∀ x ∈ xs, c.env.kindOf x = some .local) (he : EvG c e V (.t ps) V1) (hc : notComp e = true)
    (hw : swappedStores [.Tuple ts k tp] e c.env = pure (some xs)) : SxG c (.Assign [.Tuple ts k tp] e pos) V .next { V1 with loc := putAll xs.reverse ps.reverse V1.loc } := by
  intro s Q E I l h
  refine Assign_Tuple_swapped (he s _ E I l fun s1 v T ρ g l1 I1 t1 i1 => ?_) (swaps_sole hc) hw
  obtain ⟨a, ob, vs, n, z, il⟩ := i1.it
  cases z.v
  have hz : xs.length = vs.size := by rw [hl, il.length]; simp
  rw [hz]
  refine unpackItems_tuple hh z.isTuple fun h' x => ?_
  have kp : Keep c.N [] s1.heap h' := ext_keep x (fresh_get _)
  rw [List.map_reverse]
  rw [← List.map_reverse]
  refine stores (c := c.at T ρ) g.ok (StoresAre.map (fun x v s Q h => bindName_ h) xs.reverse) (by simpa using hl) (fun x hx => hk x (List.mem_reverse.mp hx)) (I1.keep (s' := { s1 with heap := h' }) g.ok kp) (il.keep (kp.all (T := T))).reverse fun s2 I2 t2 => ?_
  exact h s2 _ T ρ g l1 I2 (g.keep (t1.trans (s'' := { s1 with heap := h' }) ⟨kp.all, .refl _, rfl⟩) t2) rfl
end
/-- a list of the frame's, from now on no more turned -/
theorem Is.froze {T : List Addr} {ρ : List (Addr × Addr)} {h : Heap} {T0 : List Addr} {k : Nat} {xs : List PV} {v : Value} (i : Is T ρ h (.o k) v) (o : ObjAt T ρ h k (.list xs)) (hs : ∀ b ∈ T0, b ∈ T) (hn : ∀ p ∈ ρ, p.2 ∉ T0) (hx : PV.ltL 0 xs = true) : Is T0 [] h (.l xs.reverse) v := by
  obtain ⟨a, vs, n, e, ea, m⟩ := o
  cases i with
  | o e' =>
    rw [e] at e'; cases e'
    refine .l (hn (a, a) (List.mem_of_getElem? e)) ea rfl rfl ?_
    have m2 := m.reverse
    rw [List.reverse_reverse] at m2
    have hx2 : PV.ltL 0 xs.reverse = true := by
      have : ∀ l : List PV, PV.ltL 0 l = true ↔ ∀ p ∈ l, p.lt 0 = true := by
        intro l
        induction l with
        | nil => simp [PV.ltL]
        | cons a r ih => show (a.lt 0 && PV.ltL 0 r) = true ↔ _; rw [Bool.and_eq_true, ih]; simp
      rw [this] at hx ⊢
      exact fun p hp => hx p (List.mem_reverse.mp hp)
    exact IsL.back (ρ := []) (ν := ρ) hs (by simpa using m2) hx2
end N1
section W3
/-! ## _law_words, _law_made as tables -/
noncomputable def wds : PV → List PV
  | .l xs => xs
  | p => [p]
noncomputable def WdOk (p : PV) : Prop := ∃ t : Tr, p = t.pv
noncomputable def wdF : List PV → VP
  | [p] => some (.l (wds p), [WdOk p])
  | _ => none
noncomputable def mdP : List PV → PV
  | [.s x] => if hard x then .l [.s x] else .s x
  | xs => .l xs
noncomputable def MdOk (xs : List PV) : Prop := ∃ ts : List Tr, xs = Tr.pvs ts ∧ ts.length ≤ Mx
noncomputable def mdF : List PV → VP
  | [.l xs] => some (mdP xs, [MdOk xs])
  | _ => none
theorem wds_pv (t : Tr) : wds t.pv = Tr.pvs t.words := by cases t <;> rfl
theorem mdP_pv (ts : List Tr) : mdP (Tr.pvs ts) = (madeT ts).pv := by
  match ts with
  | [] => rfl
  | [.w x] =>
    show (if hard (tx x) then PV.l [.s (tx x)] else .s (tx x)) = (if x = [35] ∨ x = [126, 38] then Tr.l [.w x] else .w x).pv
    by_cases h : x = [35] ∨ x = [126, 38]
    · rw [if_pos h, if_pos ((hard_iff x).mpr h)]; rfl
    · rw [if_neg h, if_neg (fun q => h ((hard_iff x).mp q))]; rfl
  | [.l us] => rfl
  | .w x :: b :: r => rfl
  | .l us :: b :: r => rfl
theorem keep_wd (w : Wn) : keepOk (WW w).K (.ref 801) = true := by kernel_rfl
theorem keep_md (w : Wn) : keepOk (WW w).K (.ref 775) = true := by kernel_rfl
noncomputable def orWd (w : Wn) : POrc (WW w) 2 := POrc.fn1 (keep_wd w) wdF fun ps r P h hP => by
  unfold wdF at h
  split at h
  · cases h
    obtain ⟨⟨t, rfl⟩, _⟩ := hP
    rw [wds_pv]
    exact spec_words w t
  · cases h
noncomputable def orMd (w : Wn) : POrc (WW w) 2 := POrc.fn1 (keep_md w) mdF fun ps r P h hP => by
  unfold mdF at h
  split at h
  · cases h
    obtain ⟨⟨ts, rfl, hl⟩, _⟩ := hP
    rw [mdP_pv]
    exact spec_made w ts hl
  · cases h
noncomputable abbrev lfFd (w : Wn) : FuncData := fdOf (WW w).K 808
noncomputable abbrev lfB (w : Wn) : List Stmt := bodyW (bodyOf (lfFd w))
noncomputable abbrev lfCfg (w : Wn) : Cfg := mkCfg (W := WW w) (D := 2) (lfFd w).scope tabs ((blt _ _).or ((orWd w).or (orMd w))) (.none _ _)
noncomputable abbrev lfL (P T : List PV) : List (Str × PV) := [("program", .l P), ("stack", .o 0), ("todo", .l T)]
end W3
section W4
/-! ## the turns of _law_left -/
noncomputable abbrev lfV (P T S : List PV) : View := ⟨lfL P T, [.list S]⟩
noncomputable abbrev lfW (P T S : List PV) (ex : List (Str × PV)) : View := ⟨lfL P T ++ ex, [.list S]⟩
noncomputable abbrev hdC (T : List PV) (r : List Prop) : List Prop := ((0 : Int) ≤ 0) :: ((0 : Int) < lnI T) :: Ln T :: ((0 : Int) ≤ 1) :: Ln T :: r
theorem lf_t0 (w : Wn) (P S : List PV) : pt (lfCfg w) 30 (testW (bodyOf (lfFd w))) (lfV P [] S) = some (false, [Shp (.l [])]) := by kernel_rfl
theorem lf_t1 (w : Wn) (P : List PV) (x : PV) (r S : List PV) : pt (lfCfg w) 30 (testW (bodyOf (lfFd w))) (lfV P (x :: r) S) = some (true, [Shp (.l (x :: r))]) := by kernel_rfl
theorem lf_p (w : Wn) (P : List PV) (a : PV) (r S : List PV) : xs (lfCfg w) 60 (lfB w) [] (lfV P (.t [a] :: r) S) = some (.next, [], lfW P r (a :: S) [("word", .t [a])], hdC (.t [a] :: r) [(0 : Int) ≤ 0, (0 : Int) < lnI [a], Ln [a], Ln S]) := by kernel_rfl
theorem lf_l (w : Wn) (P : List PV) (ts r S : List PV) : xs (lfCfg w) 60 (lfB w) [some false, some false, some false, some false, some false, some false] (lfV P (.l ts :: r) S) = some (.next, [], lfW P r (.l ts :: S) [("word", .l ts)], hdC (.l ts :: r) [false = false, Shp (.l ts), Shp (.s "run"), Ln S, false = false, Shp (.l ts), Shp (.s "dip"), Ln S, false = false, Shp (.l ts), Shp (.s "cat"), Ln S, false = false, Shp (.l ts), Shp (.s "swap"), Ln S, false = false, Shp (.l ts), Shp (.s "unit"), Ln S, false = false, Ln S]) := by kernel_rfl
theorem lf_push (w : Wn) (P : List PV) (x : Str) (r S : List PV) : xs (lfCfg w) 60 (lfB w) [some false, some false, some false, some false, some false, some false] (lfV P (.s x :: r) S) = some (.next, [], lfW P r (.s x :: S) [("word", .s x)], hdC (.s x :: r) [false = false, Ln S, cW x "run" 0 S = false, Ln S, cW x "dip" 1 S = false, Ln S, cW x "cat" 1 S = false, Ln S, cW x "swap" 1 S = false, Ln S, cW x "unit" 0 S = false, Ln S]) := by kernel_rfl
theorem lf_run (w : Wn) (P : List PV) (a : PV) (r S : List PV) : xs (lfCfg w) 60 (lfB w) [some false, some true] (lfV P (sS wRun :: r) (a :: S)) = some (.next, [], lfW P (wds a ++ r) S [("word", sS wRun)], hdC (sS wRun :: r) [false = false, Ln (a :: S), cW (tx wRun) "run" 0 (a :: S) = true, Ln (a :: S), WdOk a, Ln (wds a), Ln r]) := by kernel_rfl
theorem lf_dip (w : Wn) (P : List PV) (a b : PV) (r S : List PV) : xs (lfCfg w) 60 (lfB w) [some false, some false, some true] (lfV P (sS wDip :: r) (a :: b :: S)) = some (.next, [], lfW P ((wds a ++ [.t [b]]) ++ r) S [("word", sS wDip), ("words", .l (wds a))], hdC (sS wDip :: r) [false = false, Ln (a :: b :: S), false = false, Ln (a :: b :: S), cW (tx wDip) "dip" 1 (a :: b :: S) = true, Ln (a :: b :: S), WdOk a, Ln (b :: S), Ln (wds a), Ln [PV.t [b]], Ln (wds a ++ [PV.t [b]]), Ln r]) := by kernel_rfl
theorem lf_cat (w : Wn) (P : List PV) (a b : PV) (r S : List PV) : xs (lfCfg w) 60 (lfB w) [some false, some false, some false, some true] (lfV P (sS wCat :: r) (a :: b :: S)) = some (.next, [], lfW P r (mdP (wds b ++ wds a) :: S) [("word", sS wCat), ("words", .l (wds a))], hdC (sS wCat :: r) [false = false, Ln (a :: b :: S), false = false, Ln (a :: b :: S), false = false, Ln (a :: b :: S), cW (tx wCat) "cat" 1 (a :: b :: S) = true, Ln (a :: b :: S), WdOk a, Ln (b :: S), WdOk b, Ln (wds b), Ln (wds a), MdOk (wds b ++ wds a), Ln S]) := by kernel_rfl
theorem lf_swap (w : Wn) (P : List PV) (a b : PV) (r S : List PV) : xs (lfCfg w) 60 (lfB w) [some false, some false, some false, some false, some true] (lfV P (sS wSwap :: r) (a :: b :: S)) = some (.next, [], lfW P r (b :: a :: S) [("word", sS wSwap), ("tree", a)], hdC (sS wSwap :: r) [false = false, Ln (a :: b :: S), false = false, Ln (a :: b :: S), false = false, Ln (a :: b :: S), false = false, Ln (a :: b :: S), cW (tx wSwap) "swap" 1 (a :: b :: S) = true, Ln (a :: b :: S), Ln (b :: S), lnI (b :: S) - 1 = lnI S, Ln (b :: S)]) := by kernel_rfl
theorem lf_unit (w : Wn) (P : List PV) (a : PV) (r S : List PV) : xs (lfCfg w) 60 (lfB w) [some false, some false, some false, some false, some false, some true] (lfV P (sS wUnit :: r) (a :: S)) = some (.next, [], lfW P r (mdP [a] :: S) [("word", sS wUnit)], hdC (sS wUnit :: r) [false = false, Ln (a :: S), false = false, Ln (a :: S), false = false, Ln (a :: S), false = false, Ln (a :: S), false = false, Ln (a :: S), cW (tx wUnit) "unit" 0 (a :: S) = true, Ln (a :: S), MdOk [a], Ln S]) := by kernel_rfl
end W4
section W5
/-! ## trees as comparable data -/
mutual
noncomputable def Tr.dat : Tr → PyData
  | .w x => .str (tx x)
  | .l ts => .list (Tr.dats ts)
noncomputable def Tr.dats : List Tr → List PyData
  | [] => []
  | t :: r => t.dat :: Tr.dats r
end
mutual
theorem datP_tree : ∀ t : Tr, datP t.pv = some t.dat
  | .w x => rfl
  | .l ts => by show (datL (Tr.pvs ts)).map PyData.list = _; rw [datL_trees ts]; rfl
theorem datL_trees : ∀ ts : List Tr, datL (Tr.pvs ts) = some (Tr.dats ts)
  | [] => rfl
  | t :: r => by
    show ((datP t.pv).bind fun d => (datL (Tr.pvs r)).map (d :: ·)) = _
    rw [datP_tree t, datL_trees r]; rfl
end
theorem vocab_lay : ∀ x ∈ vocab, (PyData.str (tx x)).canLay0 = true := by decide +kernel
mutual
theorem lyT : ∀ t : Tr, t.wf = true → t.dat.canLay0 = true ∧ t.dat.depth = t.dep
  | .w x, h => ⟨vocab_lay x (List.contains_iff_mem.mp h), rfl⟩
  | .l ts, h => by
    obtain ⟨a, b⟩ := lyTs ts (Bool.and_eq_true_iff.mp (show (Tr.wfs ts && _) = true from h)).1
    refine ⟨by show PyData.canLayAll0 (Tr.dats ts) = true; exact a, ?_⟩
    show PyData.depthAll (Tr.dats ts) + 1 = 1 + Tr.deps ts
    omega
theorem lyTs : ∀ ts : List Tr, Tr.wfs ts = true → PyData.canLayAll0 (Tr.dats ts) = true ∧ PyData.depthAll (Tr.dats ts) = Tr.deps ts
  | [], _ => ⟨rfl, rfl⟩
  | t :: r, h => by
    obtain ⟨h1, h2⟩ := Bool.and_eq_true_iff.mp (show (t.wf && Tr.wfs r) = true from h)
    obtain ⟨a, b⟩ := lyT t h1
    obtain ⟨a', b'⟩ := lyTs r h2
    refine ⟨by show (t.dat.canLay0 && PyData.canLayAll0 (Tr.dats r)) = true; rw [a, a']; rfl, ?_⟩
    show max t.dat.depth (PyData.depthAll (Tr.dats r)) = max t.dep (Tr.deps r)
    rw [b, b']
end
mutual
theorem dep_pot : ∀ t : Tr, 5 ^ t.dep ≤ t.q
  | .w x => by show 1 ≤ 5; decide
  | .l ts => by
    have := deps_pot ts
    show 5 ^ (1 + Tr.deps ts) ≤ 5 * (1 + Tr.qs ts)
    rw [Nat.pow_add]; omega
theorem deps_pot : ∀ ts : List Tr, 5 ^ Tr.deps ts ≤ 1 + Tr.qs ts
  | [] => Nat.le_refl _
  | t :: r => by
    have h1 := dep_pot t
    have h2 := deps_pot r
    show 5 ^ (max t.dep (Tr.deps r)) ≤ 1 + (t.q + Tr.qs r)
    rcases Nat.le_total t.dep (Tr.deps r) with h | h
    · rw [Nat.max_eq_right h]; omega
    · rw [Nat.max_eq_left h]; omega
end
theorem dep_small {t : Tr} (h : t.pot ≤ Mx) : t.dep ≤ 9 := by
  have h1 := dep_pot t
  have h2 : t.q ≤ 5 * t.pot := by
    cases t with
    | w y => show 5 ≤ 5 * 5; decide
    | l ts => exact Nat.le_refl _
  have h : t.pot ≤ 1000000 := h
  rcases Nat.lt_or_ge 9 t.dep with g | g
  · have : 5 ^ 10 ≤ 5 ^ t.dep := Nat.pow_le_pow_right (by decide) g
    have e : (5 : Nat) ^ 10 = 9765625 := by decide
    omega
  · exact g
theorem shp_tree {t : Tr} (hw : t.wf = true) (h : t.pot ≤ Mx) : Shp t.pv := by
  obtain ⟨a, b⟩ := lyT t hw
  have := dep_small h
  exact ⟨_, datP_tree t, by unfold SeqAt.shaped; rw [a, b, decide_eq_true (by omega)]; rfl⟩
/-- what waits: a tree that is done, or one that is laid down -/
inductive TI where
  | t (x : Tr)
  | p (x : Tr)
noncomputable def TI.pv : TI → PV
  | .t x => x.pv
  | .p x => .t [x.pv]
noncomputable def TI.tr : TI → Tr
  | .t x => x
  | .p x => x
noncomputable def TI.ok (i : TI) : Prop := i.tr.wf = true ∧ i.tr.pot ≤ Mx
theorem dat_item {i : TI} (h : i.ok) : ∃ d, datP i.pv = some d ∧ d.canLay0 = true ∧ d.depth ≤ 10 := by
  cases i with
  | t x =>
    obtain ⟨a, b⟩ := lyT x h.1
    have := dep_small h.2
    exact ⟨_, datP_tree x, a, by rw [b]; exact Nat.le_trans this (by decide)⟩
  | p x =>
    obtain ⟨a, b⟩ := lyT x h.1
    have h9 : x.dep ≤ 9 := dep_small h.2
    refine ⟨.tuple [x.dat], ?_, by show (x.dat.canLay0 && true) = true; rw [a]; rfl, by show max x.dat.depth 0 + 1 ≤ 10; rw [b]; omega⟩
    show (datL [x.pv]).map PyData.tuple = _
    have : datL [x.pv] = some [x.dat] := by
      show ((datP x.pv).bind fun d => (datL []).map (d :: ·)) = _
      rw [datP_tree]; rfl
    rw [this]; rfl
theorem shp_items : ∀ {is : List TI}, (∀ i ∈ is, i.ok) → ∃ ds, datL (is.map TI.pv) = some ds ∧ PyData.canLayAll0 ds = true ∧ PyData.depthAll ds ≤ 10
  | [], _ => ⟨[], rfl, rfl, Nat.zero_le _⟩
  | i :: r, h => by
    obtain ⟨d, a, b, c⟩ := dat_item (h i (.head _))
    obtain ⟨ds, a', b', c'⟩ := shp_items fun j hj => h j (.tail _ hj)
    refine ⟨d :: ds, ?_, by show (d.canLay0 && _) = true; rw [b, b']; rfl, Nat.max_le.mpr ⟨c, c'⟩⟩
    show ((datP i.pv).bind fun d => (datL (r.map TI.pv)).map (d :: ·)) = _
    rw [a, a']; rfl
theorem shp_todo {is : List TI} (h : ∀ i ∈ is, i.ok) : Shp (.l (is.map TI.pv)) := by
  obtain ⟨ds, a, b, c⟩ := shp_items h
  refine ⟨.list ds, by show (datL _).map PyData.list = _; rw [a]; rfl, ?_⟩
  unfold SeqAt.shaped
  have : (PyData.list ds).depth ≤ 64 := by show PyData.depthAll ds + 1 ≤ 64; omega
  rw [decide_eq_true this, show (PyData.list ds).canLay0 = true from b]; rfl
theorem shp_cmd : Shp (.s "run") ∧ Shp (.s "dip") ∧ Shp (.s "cat") ∧ Shp (.s "swap") ∧ Shp (.s "unit") := by
  refine ⟨⟨_, rfl, ?_⟩, ⟨_, rfl, ?_⟩, ⟨_, rfl, ?_⟩, ⟨_, rfl, ?_⟩, ⟨_, rfl, ?_⟩⟩ <;> decide +kernel
/-! ## the loop -/
structure LfC (w : Wn) (c : Fc) : Prop where
  ok : c.Ok
  e : c.toWd = WW w
  room : Room c.A.in1 2
  hs : c.env.scope = (lfFd w).scope
noncomputable abbrev lfTs (w : Wn) : Expr := testW (bodyOf (lfFd w))
noncomputable def Lp (w : Wn) (c : Fc) (P : List PV) (is : List TI) (S : List Tr) (Vf : View) : Prop := ∃ m, LoopN c (lfTs w) (lfB w) m (lfV P (is.map TI.pv) (S.map Tr.pv)) .next Vf
theorem lf_gk {w : Wn} {c : Fc} (R : LfC w c) : CfgOk c (lfCfg w) := mkCfg_ok (t := tabs) R.ok R.e R.room (by decide) R.hs (tabs_ok w)
theorem lf_turn {w : Wn} {c : Fc} (R : LfC w c) {P : List PV} {x : TI} {is : List TI} {S : List Tr} {Vf : View} {r' S1 : List PV} {ex : List (Str × PV)} {ds : Ds} {Pc : List Prop} (hi : ∀ i ∈ x :: is, i.ok)
    (run : xs (lfCfg w) 60 (lfB w) ds (lfV P (x.pv :: is.map TI.pv) (S.map Tr.pv)) = some (.next, [], lfW P r' S1 ex, Pc)) (hP : AllP Pc) {is' : List TI} {S' : List Tr} (e1 : r' = is'.map TI.pv) (e2 : S1 = S'.map Tr.pv) (h : Lp w c P is' S' Vf) : Lp w c P (x :: is) S Vf := by
  obtain ⟨m, h⟩ := h
  subst e1 e2
  refine ⟨m + 1, .step (V1 := lfV P (x.pv :: is.map TI.pv) (S.map Tr.pv)) ((pe_ok R.ok (lf_gk R) 30).t _ _ _ (lf_t1 w P x.pv (is.map TI.pv) (S.map Tr.pv)) ⟨shp_todo hi, trivial⟩) (ExOk.drop (r := ex) ((sx_sound R.ok (lf_gk R) 60).2 _ _ _ _ _ _ _ run hP)) (.inl rfl) h⟩
theorem lf_end {w : Wn} {c : Fc} (R : LfC w c) {P : List PV} {S : List Tr} : Lp w c P [] S (lfV P [] (S.map Tr.pv)) :=
  ⟨0, .stop ((pe_ok R.ok (lf_gk R) 30).t _ _ _ (lf_t0 w P (S.map Tr.pv)) ⟨shp_todo (is := []) (fun _ h => nomatch h), trivial⟩)⟩
end W5
section W6
theorem Bd.succ (p u : Nat) : Bd p u + 1 ≤ Bd (p + 1) u := by rw [Bd.add]; exact Nat.add_le_add_left (Bd.self 1 u) _
theorem pvs_items (ts : List Tr) : Tr.pvs ts = (ts.map TI.t).map TI.pv := by rw [pvs_map, List.map_map]; rfl
theorem pvs_app (a b : List Tr) : Tr.pvs (a ++ b) = Tr.pvs a ++ Tr.pvs b := by rw [pvs_map, pvs_map, pvs_map, List.map_append]
theorem hd_ok {T : List PV} {r : List Prop} {n : Nat} (x : PV) (xs : List PV) (e : T = x :: xs) (hl : xs.length ≤ n) (hn : n + 1 ≤ Mx) (h : AllP r) : AllP (hdC T r) := by
  subst e
  have L : Ln (x :: xs) := by unfold Ln; rw [List.length_cons]; exact Nat.le_trans (Nat.succ_le_succ hl) hn
  exact ⟨by decide, by have := ln1 x xs; omega, L, by decide, L, h⟩
noncomputable def GoAt (w : Wn) (c : Fc) (P : List PV) (Vf : View) (n : Nat) : Prop := ∀ (ts S S' : List Tr) (rest : List TI), ts.foldlM (stepF n) S = some S' → (∀ x ∈ S, x.wf = true) → (∀ x ∈ ts, x.wf = true) → (∀ i ∈ rest, i.ok) → Bd (pots S + pots ts) (Tr.nus S + Tr.nus ts) + rest.length ≤ Mx → Lp w c P rest S' Vf → Lp w c P (ts.map .t ++ rest) S Vf
theorem lnS {S : List Tr} (h : S.length ≤ Mx) : Ln (S.map Tr.pv) := by unfold Ln; rw [List.length_map]; exact h
theorem lnW {t : Tr} (h : t.pot ≤ Mx) : Ln (wds t.pv) := by
  rw [wds_pv, pvs_map]; unfold Ln; rw [List.length_map]
  exact Nat.le_trans (Nat.le_trans (pots_len _) (words_pot t)) h
section
variable {w : Wn} {c : Fc} {P : List PV} {Vf : View} {n : Nat} {a b : Tr} {r S S1 S2 : List Tr} {is : List TI} {x : List Nat}
/-- what every turn knows of its row -/
structure LfT (w : Wn) (c : Fc) (is : List TI) (S : List Tr) (t : Tr) : Prop where
  R : LfC w c
  oks : ∀ i ∈ TI.t t :: is, i.ok
  hi : ∀ i ∈ is, i.ok
  his : is.length + 1 ≤ Mx
  hlen : S.length ≤ Mx
  hS : ∀ x ∈ S, x.wf = true
  hb : Bd (pots S + t.pot) (Tr.nus S + t.nu) + is.length ≤ Mx
  hps : pots S + t.pot ≤ 1000000
theorem LfT.hd (T : LfT w c is S (.w x)) {q : List Prop} (h : AllP q) : AllP (hdC ((TI.t (.w x)).pv :: is.map TI.pv) q) := hd_ok _ _ rfl (by rw [List.length_map]; exact Nat.le_refl _) T.his h
theorem LfT.li {t : Tr} (T : LfT w c is S t) : Ln (is.map TI.pv) := by unfold Ln; rw [List.length_map]; exact Nat.le_of_succ_le T.his
theorem LfT.ls {t : Tr} (T : LfT w c is S t) : Ln (S.map Tr.pv) := lnS T.hlen
theorem LfT.l1 {t : Tr} (T : LfT w c is (b :: r) t) : Ln (r.map Tr.pv) := lnS (Nat.le_of_succ_le T.hlen)
theorem wd_ok {a : Tr} : WdOk a.pv := ⟨a, rfl⟩
theorem lft_list {ts : List Tr} (T : LfT w c is S (.l ts)) (k : Lp w c P is (.l ts :: S) Vf) : Lp w c P (.t (.l ts) :: is) S Vf := by
  obtain ⟨s1, s2, s3, s4, s5⟩ := shp_cmd
  have LS := T.ls
  have o := T.oks _ (.head _)
  have sh : Shp (.l (Tr.pvs ts)) := shp_tree (t := .l ts) o.1 o.2
  exact lf_turn T.R T.oks (lf_l w P (Tr.pvs ts) (is.map TI.pv) (S.map Tr.pv)) (hd_ok _ _ rfl (by rw [List.length_map]; exact Nat.le_refl _) T.his ⟨rfl, sh, s1, LS, rfl, sh, s2, LS, rfl, sh, s3, LS, rfl, sh, s4, LS, rfl, sh, s5, LS, rfl, LS, trivial⟩) (S' := .l ts :: S) rfl rfl k
theorem cW_no {y : List Nat} {c : String} {n : Nat} (h : x ≠ y ∨ S.length ≤ n) (hx : (Str.ofString c).cps.toList = y) : cW (tx x) c n (S.map Tr.pv) = false := by
  have e : lnI (S.map Tr.pv) = S.length := by unfold lnI; rw [List.length_map]
  exact cW_push (h.imp (fun q => by rw [hx]; exact q) fun q => by rw [e]; omega)
theorem lft_push (T : LfT w c is S (.w x)) (l : Laid1 S x) (k : Lp w c P is (.w x :: S) Vf) : Lp w c P (.t (.w x) :: is) S Vf := by
  have LS := T.ls
  exact lf_turn T.R T.oks (lf_push w P (tx x) (is.map TI.pv) (S.map Tr.pv)) (T.hd ⟨rfl, LS, cW_no l.run (by decide +kernel), LS, cW_no l.dip (by decide +kernel), LS, cW_no l.cat (by decide +kernel), LS, cW_no l.swap (by decide +kernel), LS, cW_no l.unit (by decide +kernel), LS, trivial⟩) (S' := .w x :: S) rfl rfl k
theorem lft_run (go : GoAt w c P Vf n) (T : LfT w c is (a :: r) (.w wRun)) (h : a.words.foldlM (stepF n) r = some S1) (k : Lp w c P is S1 Vf) : Lp w c P (.t (.w wRun) :: is) (a :: r) Vf := by
  have LS := T.ls
  have ha := T.hS a (.head _)
  have hp : a.pot ≤ Mx := Nat.le_trans (Nat.le_trans (pot_mem (List.Mem.head r)) (Nat.le_add_right _ _)) T.hps
  have g := go a.words r S1 is h (fun z hz => T.hS z (.tail _ hz)) (words_wf ha) T.hi (Nat.le_trans (Nat.add_le_add_right (Bd.mono (by have := words_pot a; show _ ≤ (a.pot + pots r) + _; omega) (by have := words_nu a; show _ ≤ (a.nu + Tr.nus r) + _; omega)) _) T.hb) k
  exact lf_turn T.R T.oks (lf_run w P a.pv (is.map TI.pv) (r.map Tr.pv)) (T.hd ⟨rfl, LS, cW_take (by decide +kernel) (lg1 _ _), LS, wd_ok, lnW hp, T.li, trivial⟩) (by rw [wds_pv, pvs_items, ← List.map_append]) rfl g
theorem lft_dip (go : GoAt w c P Vf n) (T : LfT w c is (a :: b :: r) (.w wDip)) (e : a.words.foldlM (stepF n) r = some S2) (k : Lp w c P is (b :: S2) Vf) : Lp w c P (.t (.w wDip) :: is) (a :: b :: r) Vf := by
  have LS := T.ls
  have ha := T.hS a (.head _)
  have hB := T.hS b (.tail _ (.head _))
  have e2 : a.pot + (b.pot + pots r) + 5 ≤ 1000000 := T.hps
  have hp : a.pot ≤ Mx := by show _ ≤ 1000000; omega
  have hp2 : b.pot ≤ Mx := by show _ ≤ 1000000; omega
  have m1 : Bd (pots r + pots a.words) (Tr.nus r + Tr.nus a.words) + 1 ≤ Bd (pots (a :: b :: r) + (Tr.w wDip).pot) (Tr.nus (a :: b :: r) + (Tr.w wDip).nu) := by
    refine Nat.le_trans (Bd.succ _ _) (Bd.mono ?_ ?_)
    · have := words_pot a; show _ ≤ (a.pot + (b.pot + pots r)) + 5; omega
    · have := words_nu a; show _ ≤ (a.nu + (b.nu + Tr.nus r)) + _; omega
  have kf := fold_kept e
  have L2 : S2.length ≤ Mx := Nat.le_trans (pots_len S2) (Nat.le_trans (Bd.self _ _) (Nat.le_trans kf.b (Nat.le_trans (Nat.le_of_succ_le m1) (Nat.le_trans (Nat.le_add_right _ _) T.hb))))
  have okb : ∀ i ∈ TI.p b :: is, i.ok := fun i h => by rcases List.mem_cons.mp h with rfl | h; exact ⟨hB, hp2⟩; exact T.hi i h
  have kp : Lp w c P (.p b :: is) S2 Vf := lf_turn T.R okb (lf_p w P b.pv (is.map TI.pv) (S2.map Tr.pv)) (hd_ok _ _ rfl (by rw [List.length_map]; exact Nat.le_refl _) T.his ⟨by decide, by have := ln1 b.pv []; omega, by show 1 ≤ 1000000; decide, lnS L2, trivial⟩) (S' := b :: S2) rfl rfl k
  have g := go a.words r S2 (.p b :: is) e (fun z hz => T.hS z (.tail _ (.tail _ hz))) (words_wf ha) okb (Nat.le_trans (Nat.le_of_eq (show _ + (is.length + 1) = _ from by rw [Nat.add_comm is.length, ← Nat.add_assoc])) (Nat.le_trans (Nat.add_le_add_right m1 is.length) T.hb)) kp
  have Lwb : Ln (wds a.pv ++ [PV.t [b.pv]]) := by
    unfold Ln
    rw [List.length_append, wds_pv, pvs_map, List.length_map]
    have e1 : a.words.length ≤ a.pot := Nat.le_trans (pots_len _) (words_pot a)
    show a.words.length + 1 ≤ _
    omega
  exact lf_turn T.R T.oks (lf_dip w P a.pv b.pv (is.map TI.pv) (r.map Tr.pv)) (T.hd ⟨rfl, LS, rfl, LS, cW_take (by decide +kernel) (lg2 _ _ _), LS, wd_ok, T.l1, lnW hp, by show 1 ≤ 1000000; decide, Lwb, T.li, trivial⟩) (by rw [wds_pv, pvs_items, List.append_assoc, List.map_append]; rfl) rfl g
theorem lft_cat (T : LfT w c is (a :: b :: r) (.w wCat)) (k : Lp w c P is (madeT (b.words ++ a.words) :: r) Vf) : Lp w c P (.t (.w wCat) :: is) (a :: b :: r) Vf := by
  have LS := T.ls
  have e2 : a.pot + (b.pot + pots r) + 5 ≤ 1000000 := T.hps
  have hp : a.pot ≤ Mx := by show a.pot ≤ 1000000; omega
  have hp2 : b.pot ≤ Mx := by show b.pot ≤ 1000000; omega
  have Lr : Ln (r.map Tr.pv) := lnS (Nat.le_of_succ_le (Nat.le_of_succ_le T.hlen))
  have em : wds b.pv ++ wds a.pv = Tr.pvs (b.words ++ a.words) := by rw [wds_pv, wds_pv, pvs_app]
  exact lf_turn T.R T.oks (lf_cat w P a.pv b.pv (is.map TI.pv) (r.map Tr.pv)) (T.hd ⟨rfl, LS, rfl, LS, rfl, LS, cW_take (by decide +kernel) (lg2 _ _ _), LS, wd_ok, T.l1, wd_ok, lnW hp2, lnW hp, ⟨b.words ++ a.words, em, by
    rw [List.length_append]
    have i1 : a.words.length ≤ a.pot := Nat.le_trans (pots_len _) (words_pot a)
    have i2 : b.words.length ≤ b.pot := Nat.le_trans (pots_len _) (words_pot b)
    show _ ≤ 1000000; omega⟩, Lr, trivial⟩) (S' := madeT (b.words ++ a.words) :: r) rfl (by rw [em, mdP_pv]; rfl) k
theorem lft_swap (T : LfT w c is (a :: b :: r) (.w wSwap)) (k : Lp w c P is (b :: a :: r) Vf) : Lp w c P (.t (.w wSwap) :: is) (a :: b :: r) Vf := by
  have LS := T.ls
  exact lf_turn T.R T.oks (lf_swap w P a.pv b.pv (is.map TI.pv) (r.map Tr.pv)) (T.hd ⟨rfl, LS, rfl, LS, rfl, LS, rfl, LS, cW_take (by decide +kernel) (lg2 _ _ _), LS, T.l1, by unfold lnI; rw [List.length_cons]; omega, T.l1, trivial⟩) (S' := b :: a :: r) rfl rfl k
theorem lft_unit (T : LfT w c is (a :: r) (.w wUnit)) (k : Lp w c P is (madeT [a] :: r) Vf) : Lp w c P (.t (.w wUnit) :: is) (a :: r) Vf := by
  have LS := T.ls
  exact lf_turn T.R T.oks (lf_unit w P a.pv (is.map TI.pv) (r.map Tr.pv)) (T.hd ⟨rfl, LS, rfl, LS, rfl, LS, rfl, LS, rfl, LS, cW_take (by decide +kernel) (lg1 _ _), LS, ⟨[a], rfl, by show 1 ≤ 1000000; decide⟩, T.l1, trivial⟩) (S' := madeT [a] :: r) rfl (by rw [show [a.pv] = Tr.pvs [a] from rfl, mdP_pv]; rfl) k
end
theorem lf_one {w : Wn} {c : Fc} (R : LfC w c) {P : List PV} {Vf : View} {n : Nat} (go : GoAt w c P Vf n) {t : Tr} {S S1 : List Tr} {is : List TI} (h : stepF (n + 1) S t = some S1) (hS : ∀ x ∈ S, x.wf = true) (ht : t.wf = true) (hi : ∀ i ∈ is, i.ok) (hb : Bd (pots S + t.pot) (Tr.nus S + t.nu) + is.length ≤ Mx) (k : Lp w c P is S1 Vf) : Lp w c P (.t t :: is) S Vf := by
  have hps : pots S + t.pot ≤ 1000000 := Nat.le_trans (Bd.self _ _) (Nat.le_trans (Nat.le_add_right _ _) hb)
  have his : is.length + 1 ≤ Mx := by
    have h1 := pot_pos t
    have := Bd.self (pots S + t.pot) (Tr.nus S + t.nu)
    have hb : Bd (pots S + t.pot) (Tr.nus S + t.nu) + is.length ≤ 1000000 := hb
    show _ ≤ 1000000
    omega
  have T : LfT w c is S t := ⟨R, fun i h => by rcases List.mem_cons.mp h with rfl | h; exact ⟨ht, Nat.le_trans (Nat.le_add_left _ _) hps⟩; exact hi i h, hi, his, Nat.le_trans (pots_len S) (Nat.le_trans (Nat.le_add_right _ _) hps), hS, hb, hps⟩
  cases stepF_is h with
  | list ts => exact lft_list T k
  | push x _ l => exact lft_push T l k
  | run a r _ h2 => exact lft_run go T h2 k
  | dip a b r S2 h2 => exact lft_dip go T h2 k
  | cat a b r => exact lft_cat T k
  | swap a b r => exact lft_swap T k
  | unit a r => exact lft_unit T k
theorem lf_go {w : Wn} {c : Fc} (R : LfC w c) {P : List PV} {Vf : View} : ∀ n, GoAt w c P Vf n
  | 0 => fun ts S S' rest h _ _ _ _ k => by
    cases ts with
    | nil => cases h; exact k
    | cons t r => rw [List.foldlM_cons] at h; cases h
  | n + 1 => fun ts => by
    induction ts with
    | nil => intro S S' rest h _ _ _ _ k; cases h; exact k
    | cons t r ih =>
      intro S S' rest h hS ht hr hb k
      rw [List.foldlM_cons] at h
      cases e : stepF (n + 1) S t with
      | none => rw [e] at h; cases h
      | some S1 =>
        rw [e] at h
        have kk := step_kept (n + 1) S t S1 e
        have hb1 : Bd (pots S + pots (t :: r)) (Tr.nus S + Tr.nus (t :: r)) ≤ Mx - rest.length := by
          have hb : Bd (pots S + pots (t :: r)) (Tr.nus S + Tr.nus (t :: r)) + rest.length ≤ 1000000 := hb
          show _ ≤ 1000000 - rest.length; omega
        have hb2 := kk.next hb1
        have hwt : t.wf = true := ht t (.head _)
        have hlr : rest.length ≤ Mx := Nat.le_trans (Nat.le_add_left _ _) hb
        have k1 := ih S1 S' rest h (kk.wf hS fun x hx => by rcases List.mem_singleton.mp hx with rfl; exact hwt) (fun x hx => ht x (.tail _ hx)) hr (by omega) k
        have bsum : Bd (pots S + t.pot) (Tr.nus S + t.nu) + r.length ≤ Bd (pots S + pots (t :: r)) (Tr.nus S + Tr.nus (t :: r)) := by
          refine Nat.le_trans (Nat.add_le_add_left (Nat.le_trans (pots_len r) (Bd.self (pots r) (Tr.nus S + t.nu))) _) ?_
          rw [← Bd.add]
          exact Bd.mono (by show _ ≤ pots S + (t.pot + pots r); omega) (by show _ ≤ Tr.nus S + (t.nu + Tr.nus r); omega)
        have pr : pots r ≤ Mx := by
          have := Bd.self (pots S + pots (t :: r)) (Tr.nus S + Tr.nus (t :: r))
          have e9 : pots (t :: r) = t.pot + pots r := rfl
          have hb1 : _ ≤ 1000000 - rest.length := hb1
          show _ ≤ 1000000; omega
        refine lf_one R (lf_go R n) e hS hwt (fun i hi => ?_) ?_ k1
        · rcases List.mem_append.mp hi with hi | hi
          · obtain ⟨x, hx, rfl⟩ := List.mem_map.mp hi
            exact ⟨ht x (.tail _ hx), Nat.le_trans (pot_mem hx) pr⟩
          · exact hr i hi
        · have el : ((r.map TI.t).append rest).length = r.length + rest.length := by
            show (r.map TI.t ++ rest).length = _; rw [List.length_append, List.length_map]
          rw [el]
          have hb : Bd (pots S + pots (t :: r)) (Tr.nus S + Tr.nus (t :: r)) + rest.length ≤ 1000000 := hb
          show _ ≤ 1000000
          omega
end W6
section W7
/-! ## _law_left -/
/-- a, b = (e1, e2) -/
structure LfX where
  a : Str
  pa : Pos
  b : Str
  pb : Pos
  k : Nat
  pt : Pos
  y : Str
  py : Pos
  pl : Pos
  k2 : Nat
  p2 : Pos
  p3 : Pos
noncomputable def LfX.tg (r : LfX) : Expr := .Tuple [.Name r.a r.pa, .Name r.b r.pb] r.k r.pt
noncomputable def LfX.vl (r : LfX) : Expr := .Tuple [.Name r.y r.py, .List [] r.pl] r.k2 r.p2
noncomputable def LfX.st (r : LfX) : Stmt := .Assign [r.tg] r.vl r.p3
noncomputable def lfX : Stmt → Option LfX
  | .Assign [.Tuple [.Name a pa, .Name b pb] k pt] (.Tuple [.Name y py, .List _ pl] k2 p2) p3 => some ⟨a, pa, b, pb, k, pt, y, py, pl, k2, p2, p3⟩
  | _ => none
theorem lf_some (w : Wn) : ((preW (bodyOf (lfFd w))).head?.bind lfX).isSome = true := by kernel_rfl
noncomputable def lfG (w : Wn) : LfX := ((preW (bodyOf (lfFd w))).head?.bind lfX).get (lf_some w)
theorem lf_shape (w : Wn) : preW (bodyOf (lfFd w)) = [(lfG w).st] := by kernel_rfl
theorem lf_good (w : Wn) : ((lfG w).a == ("todo" : Str) && (lfG w).b == ("stack" : Str) && (lfG w).y == ("program" : Str)) = true := by kernel_rfl
theorem lf_split (w : Wn) : (splitW (bodyOf (lfFd w))).isSome = true := by kernel_rfl
theorem lf_sw (w : Wn) : swOf (lfCfg w) (lfG w).tg (lfG w).vl = some (some (["todo", "stack"] : List Str)) := by kernel_rfl
theorem lf_names (w : Wn) : (["program", "todo", "stack"] : List Str).all (fun x => (lfFd w).scope.names.lookup x == some .local) = true := by kernel_rfl
noncomputable def retX : List Stmt → Option (Str × Pos × Pos)
  | [.Return (some (.Name x p)) q] => some (x, p, q)
  | _ => none
theorem lf_ret0 (w : Wn) : (retX (postW (bodyOf (lfFd w)))).isSome = true := by kernel_rfl
noncomputable def lfR (w : Wn) : Str × Pos × Pos := (retX (postW (bodyOf (lfFd w)))).get (lf_ret0 w)
theorem lf_post (w : Wn) : postW (bodyOf (lfFd w)) = [.Return (some (.Name (lfR w).1 (lfR w).2.1)) (lfR w).2.2] := by kernel_rfl
theorem lf_rn (w : Wn) : ((lfR w).1 == ("stack" : Str)) = true := by kernel_rfl
theorem lf_def (w : Wn) : (isDef (WW w).K 808 (lfFd w) && hasBody (lfFd w)) = true := by kernel_rfl
theorem lf_bind (w : Wn) (a : Value) (S : Setting) (sz tk : Nat) : (runAl (WW w).K S 200 sz tk (bindArgs (lfFd w) ⟨[a], []⟩)).map (·.1) = some ([("program", a)] : List (Str × Value)) := by kernel_rfl
theorem lf_nms (w : Wn) : (["program"] : List Str).all (fun x => (lfFd w).scope.names.lookup x == some .local) = true := by kernel_rfl
theorem ltL_pvs : ∀ ts : List Tr, PV.ltL 0 (Tr.pvs ts) = true ∧ True := fun ts => by
  refine ⟨?_, trivial⟩
  have key : ∀ n : Nat, ∀ ts : List Tr, Tr.deps ts ≤ n → PV.ltL 0 (Tr.pvs ts) = true := by
    intro n
    induction n with
    | zero =>
      intro ts
      induction ts with
      | nil => intro _; rfl
      | cons t r ih =>
        intro h
        have h : max t.dep (Tr.deps r) ≤ 0 := h
        have h1 : t.dep ≤ 0 := Nat.le_trans (Nat.le_max_left _ _) h
        show (t.pv.lt 0 && PV.ltL 0 (Tr.pvs r)) = true
        rw [ih (Nat.le_trans (Nat.le_max_right _ _) h)]
        cases t with
        | w x => rfl
        | l us => exact absurd h1 (by show ¬ 1 + Tr.deps us ≤ 0; omega)
    | succ n ihn =>
      intro ts
      induction ts with
      | nil => intro _; rfl
      | cons t r ih =>
        intro h
        have h : max t.dep (Tr.deps r) ≤ n + 1 := h
        have h1 : t.dep ≤ n + 1 := Nat.le_trans (Nat.le_max_left _ _) h
        show (t.pv.lt 0 && PV.ltL 0 (Tr.pvs r)) = true
        rw [ih (Nat.le_trans (Nat.le_max_right _ _) h)]
        cases t with
        | w x => rfl
        | l us =>
          have h1 : 1 + Tr.deps us ≤ n + 1 := h1
          show (PV.ltL 0 (Tr.pvs us) && true) = true
          rw [ihn us (by omega)]; rfl
  exact key _ ts (Nat.le_refl _)
/-- a list that a def made, handed out: from now on no more turned -/
theorem spec_freeze {W : Wd} {D : Nat} {f : Value} {ps : List PV} {k : Nat} {xs : List PV} {objs' : List PO} (h : SpecK W D f ps [] [] (.o k) objs') (hp : PV.ltL 0 ps = true) (ho : objs'[k]? = some (.list xs)) (hx : PV.ltL 0 xs = true) : SpecP W D f ps (.l xs.reverse) := by
  rintro objs c ok rfl room s vs Q E B live frs O ia hq
  let c0 : Fc := { c with ρ := [] }
  have ok0 : c0.Ok := ⟨⟨fun b hb => ok.fx.mem b (by rcases List.mem_cons.mp hb with rfl | hb; exact .head _; cases hb), by show [c.L].Nodup; simp, ok.fx.low⟩, ok.kind, ok.loc, ok.glb, ok.blt, ok.lowK, ok.lo⟩
  have ia0 : IsL c.T [] s.heap ps vs := IsL.back (T := c.T) (T' := c.T) (ρ := []) (ν := c.ρ) (fun _ h => h) (by simpa using ia) hp
  refine wpAny_call (h c0 ok0 rfl room s vs [] _ B live frs (fun k po e => by simp at e) rfl ia0 rfl .nil fun s' v T ρ g l st B' F' live' O' i' => ?_)
  have st0 : St c.N [] s s' := ⟨st.keep, st.gens, st.os⟩
  refine hq s' v st0.all B' F' (fun k po e => (O k po e).keep st0.keep (fun _ _ _ z => nomatch z) (fun _ z => nomatch z) st0.keep.all) ?_
  obtain ⟨ν, eρ, hν⟩ := g.ext
  have eρ : ρ = ν := eρ
  have i0 : Is c.T [] s'.heap (.l xs.reverse) v := Is.froze i' (O' k _ ho) g.sub (fun p hp z => by
    obtain ⟨o, e⟩ := live _ z
    rw [hν p (eρ ▸ hp)] at e; cases e) hx
  have := Is.grow (T := c.T) (T' := c.T) (ρ := []) (ν := c.ρ) (fun b hb => .inl hb) i0
  simpa using this
theorem spec_left (w : Wn) {n : Nat} {ts S : List Tr} (h : ts.foldlM (stepF n) [] = some S) (hw : ∀ x ∈ ts, x.wf = true) (hb : Bd (pots ts) (Tr.nus ts) ≤ Mx) : SpecP (WW w) 3 (.ref 808) [.l (Tr.pvs ts)] (.l (S.map Tr.pv).reverse) := by
  have g := lf_good w
  simp only [Bool.and_eq_true, beq_iff_eq] at g
  obtain ⟨⟨g1, g2⟩, g3⟩ := g
  have gr := beq_iff_eq.mp (lf_rn w)
  have sk : SpecK (WW w) 3 (.ref 808) [.l (Tr.pvs ts)] [] [] (.o 0) [.list (S.map Tr.pv)] := by
    refine call_defB (fl := .ret (.o 0)) (loc := [("program", .l (Tr.pvs ts))]) (defIs_of (lf_def w)) (fun T ρ s vs kvs B hT ia ek ik => ?_) fun c ok e room hs => ⟨⟨[], [.list (S.map Tr.pv)]⟩, ?_, rfl⟩
    · cases kvs with
      | cons _ _ => cases ek
      | nil =>
        obtain ⟨v, rfl, i⟩ := isL1 ia
        exact bind_al B.k (lf_bind w _ _ _ _) (lf_nms w) (loc_binds rfl (.cons i .nil) (nodupB_ok (l := ["program"]) (by decide)))
    · have kn : ∀ x ∈ (["program", "todo", "stack"] : List Str), c.env.kindOf x = some .local := fun x hx => by
        unfold Env.kindOf; rw [hs]; exact beq_iff_eq.mp (List.all_eq_true.mp (lf_names w) x hx)
      have R0 : LfC w c := ⟨ok, e, room, hs⟩
      rw [show bodyOf (fdOf (WW w).K 808) = _ from splitW_is (lf_split w), lf_shape w]
      have hst : SxG c (lfG w).st ⟨[("program", .l (Tr.pvs ts))], []⟩ .next (lfV (Tr.pvs ts) (Tr.pvs ts) []) := by
        have hy : EvOk c (.Name (lfG w).y (lfG w).py) ⟨[("program", .l (Tr.pvs ts))], []⟩ (.l (Tr.pvs ts)) ⟨[("program", .l (Tr.pvs ts))], []⟩ := ev_local ok (by rw [g3]; exact kn _ (.head _)) (by rw [g3]; decide) (by rw [g3]; rfl)
        have ag : ArgsG c [.Name (lfG w).y (lfG w).py, .List [] (lfG w).pl] ⟨[("program", .l (Tr.pvs ts))], []⟩ [.l (Tr.pvs ts), .o 0] ⟨[("program", .l (Tr.pvs ts))], [.list []]⟩ := by
          refine argsg_cons (hy.g ok rfl) (fun T ρ okT => ?_) rfl
          refine argsg_cons (c := c.at T ρ) (V1 := ⟨[("program", .l (Tr.pvs ts))], [.list []]⟩) (evg_list (c := c.at T ρ) (V1 := ⟨[("program", .l (Tr.pvs ts))], []⟩) (ps := []) ((args_nil (c := c.at T ρ)).g okT rfl) (by decide)) (fun T' ρ' okT' => (args_nil (c := (c.at T ρ).at T' ρ')).g okT' rfl) rfl
        refine sxg_unpackS (xs := ["todo", "stack"]) room.handled rfl (fun x hx => ?_) (evg_tuple ag (by show 2 ≤ 1000; decide)) rfl (swOf_is (lf_gk R0) (lf_sw w))
        · rcases List.mem_cons.mp hx with rfl | hx
          · exact kn _ (.tail _ (.head _))
          · rcases List.mem_singleton.mp hx with rfl; exact kn _ (.tail _ (.tail _ (.head _)))
      refine exg_cons hst fun T ρ okT => ?_
      have R1 : LfC w (c.at T ρ) := ⟨okT, e, room, hs⟩
      have lp := lf_go R1 (P := Tr.pvs ts) (Vf := lfV (Tr.pvs ts) [] (S.map Tr.pv)) n ts [] S [] h (fun _ h => nomatch h) hw (fun _ h => nomatch h) (by
        show Bd (0 + pots ts) (0 + Tr.nus ts) + 0 ≤ Mx
        rw [Nat.zero_add, Nat.zero_add]; exact hb) (lf_end R1)
      obtain ⟨m, lp⟩ := lp
      rw [List.append_nil, ← pvs_items] at lp
      refine ExOk.g okT ?_ rfl
      refine ex_cons (sx_while lp) ?_
      rw [lf_post w]
      have er : EvOk (c.at T ρ) (.Name (lfR w).1 (lfR w).2.1) (lfV (Tr.pvs ts) [] (S.map Tr.pv)) (.o 0) (lfV (Tr.pvs ts) [] (S.map Tr.pv)) := ev_local okT (by rw [gr]; exact kn _ (.tail _ (.tail _ (.head _)))) (by rw [gr]; decide) (by rw [gr]; rfl)
      exact ExOk.drop (l := []) (ex_stop (sx_return er) (fun q => nomatch q))
  exact spec_freeze sk (by show (PV.ltL 0 (Tr.pvs ts) && true) = true; rw [(ltL_pvs ts).1]; rfl) rfl (by rw [← pvs_map]; exact (ltL_pvs S).1)
end W7
section H1
/-! ## a loop whose objects come and go -/
structure DAt (c : Fc) (s0 : Shared) (It l : Addr) (vs : List Value) (i : Nat) (V : View) (T : List Addr) (ρ : List (Addr × Addr)) (s : Shared) : Prop where
  g : Grow c s0 T ρ
  hT : It ∈ T
  hm : It ∉ muts c.L ρ
  inv : Inv (c.at T ρ) V s
  len : V.objs.length = ρ.length
  st : St c.N c.muts s0 s
  it : s.heap.IsListIter It l i
  ls : s.heap.IsList l vs.toArray
  lT : l ∉ T
section
variable {c : Fc} {s0 s s' : Shared} {It l : Addr} {vs : List Value} {i : Nat} {V V' : View} {T T' : List Addr} {ρ ρ' : List (Addr × Addr)}
theorem DAt.go (a : DAt c s0 It l vs i V T ρ s) (g' : Grow (c.at T ρ) s T' ρ') (l' : V'.objs.length = ρ'.length) (I' : Inv (c.at T' ρ') V' s') (t : St c.N (muts c.L ρ) s s') : DAt c s0 It l vs i V' T' ρ' s' := by
  obtain ⟨ν, eρ, hν⟩ := g'.ext
  have eρ : ρ' = ρ ++ ν := eρ
  have lm : l ∉ muts c.L ρ := fun z => a.lT (a.g.ok.fx.mem _ z)
  refine ⟨a.g.trans a.st.keep g', g'.sub _ a.hT, fun z => ?_, I', l', a.g.keep a.st t, keep_iter t.keep a.hm a.it, keep_list t.keep lm a.ls, fun z => ?_⟩
  · rw [eρ] at z
    rcases List.mem_cons.mp z with z | z
    · exact a.hm (z ▸ .head _)
    · rw [List.map_append] at z
      rcases List.mem_append.mp z with z | z
      · exact a.hm (.tail _ z)
      · obtain ⟨p, hp, q⟩ := List.mem_map.mp z
        obtain ⟨o, e, _⟩ := a.it
        have := hν p hp
        rw [q, e] at this; cases this
  · rcases g'.fresh l z with q | q
    · exact a.lT q
    · obtain ⟨o, e, _⟩ := a.ls; rw [q] at e; cases e
/-- statements of the frame as it is -/
theorem DAt.same (a : DAt c s0 It l vs i V T ρ s) (l' : V'.objs.length = V.objs.length) (I' : Inv (c.at T ρ) V' s') (t : St c.N (muts c.L ρ) s s') : DAt c s0 It l vs i V' T ρ s' :=
  a.go (.refl a.g.ok) (l'.trans a.len) I' t
theorem d_sx {st : Stmt} {r : List Stmt} {f : PF} {Q : Flow → Shared → Prop} {E : Value → Shared → Prop} (a : DAt c s0 It l vs i V T ρ s) (h : SxG (c.at T ρ) st V .next V') (k : ∀ T' ρ' s', DAt c s0 It l vs i V' T' ρ' s' → wpAny c.M c.A (execs r c.env) Q E s') : wpAny c.M c.A (execs (st :: r) c.env) Q E s :=
  wpAny_execs_cons (h s _ E a.inv a.len fun s1 fl T' ρ' g' l' I' t hf => by cases hf; exact k T' ρ' s1 (a.go g' l' I' t))
/-- .. with no loop about -/
structure BAt (c : Fc) (s0 : Shared) (V : View) (T : List Addr) (ρ : List (Addr × Addr)) (s : Shared) : Prop where
  g : Grow c s0 T ρ
  inv : Inv (c.at T ρ) V s
  len : V.objs.length = ρ.length
  st : St c.N c.muts s0 s
theorem BAt.go (a : BAt c s0 V T ρ s) (g' : Grow (c.at T ρ) s T' ρ') (l' : V'.objs.length = ρ'.length) (I' : Inv (c.at T' ρ') V' s') (t : St c.N (muts c.L ρ) s s') : BAt c s0 V' T' ρ' s' := ⟨a.g.trans a.st.keep g', I', l', a.g.keep a.st t⟩
theorem DAt.b (a : DAt c s0 It l vs i V T ρ s) : BAt c s0 V T ρ s := ⟨a.g, a.inv, a.len, a.st⟩
theorem b_sx {st : Stmt} {r : List Stmt} {Q : Flow → Shared → Prop} {E : Value → Shared → Prop} (a : BAt c s0 V T ρ s) (h : SxG (c.at T ρ) st V .next V') (k : ∀ T' ρ' s', BAt c s0 V' T' ρ' s' → wpAny c.M c.A (execs r c.env) Q E s') : wpAny c.M c.A (execs (st :: r) c.env) Q E s :=
  wpAny_execs_cons (h s _ E a.inv a.len fun s1 fl T' ρ' g' l' I' t hf => by cases hf; exact k T' ρ' s1 (a.go g' l' I' t))
/-- the last list of the frame's is from now on no more turned -/
theorem BAt.freeze {loc : List (Str × PV)} {os : List PO} {xs : List PV} {x : Str} (a0 : ∀ b ∈ c.T, ∃ o, s0.heap.get? b = some o) (a : BAt c s0 ⟨loc, os ++ [.list xs]⟩ T ρ s) (hc : c.ρ.length ≤ os.length) (hx : PV.ltL os.length xs = true) (hl : ∀ y p, y ≠ x → loc.lookup y = some p → p.lt os.length = true) (hw : loc.lookup x = some (.o os.length)) (ho : ∀ (k : Nat) (po : PO), os[k]? = some po → ∃ ys, po = PO.list ys ∧ PV.ltL os.length ys = true) :
    ∃ T' ρ', BAt c s0 ⟨put x (.l xs.reverse) loc, os⟩ T' ρ' s ∧ (∀ y ∈ T', y ∈ T) ∧ (∀ y ∈ T, y ∉ muts c.L ρ → y ∈ T') ∧ (∀ y ∈ muts c.L ρ', y ∈ muts c.L ρ) := by
  obtain ⟨ν, eν, hν⟩ := a.g.ext
  have hlen : ρ.length = os.length + 1 := by have := a.len; simp at this; omega
  obtain ⟨ρ0, p, rfl⟩ : ∃ ρ0 p, ρ = ρ0 ++ [p] := by
    refine ⟨ρ.dropLast, ρ.getLast (fun q => by rw [q] at hlen; simp at hlen), (List.dropLast_concat_getLast _).symm⟩
  have hl0 : ρ0.length = os.length := by simp at hlen; omega
  obtain ⟨m, fr, lo⟩ := a.inv.rep.ns
  have obj := a.inv.rep.objs os.length (.list xs) (by simp)
  obtain ⟨b, ws, n, eb, ea, im⟩ := obj
  have ep : p = (b, b) := by rw [← hl0] at eb; simpa using eb
  subst ep
  have nd := a.g.ok.fx.nodup
  have hb0 : b ∉ muts c.L ρ0 := fun z => by
    have nd : (c.L :: (ρ0 ++ [(b, b)]).map (·.2)).Nodup := nd
    rw [List.map_append, ← List.cons_append] at nd
    exact (List.nodup_append.mp nd).2.2 _ z _ (List.mem_singleton.mpr rfl) rfl
  have hbT : b ∈ T := a.g.ok.fx.mem _ (.tail _ (List.mem_map.mpr ⟨(b, b), by simp, rfl⟩))
  let T' := T.filter (fun y => y != b)
  have mT : ∀ y, y ∈ T' ↔ y ∈ T ∧ y ≠ b := fun y => by simp [T', List.mem_filter]
  have sub' : ∀ y ∈ T', y ∈ T := fun y h => ((mT y).mp h).1
  have νpre : ∃ ν0, ρ0 = c.ρ ++ ν0 ∧ ∀ p ∈ ν0, s0.heap.get? p.2 = none := by
    have e1 : ρ0 ++ [(b, b)] = c.ρ ++ ν := eν
    have hle : c.ρ.length ≤ ρ0.length := by omega
    refine ⟨ρ0.drop c.ρ.length, ?_, fun p hp => ?_⟩
    · have : c.ρ = ρ0.take c.ρ.length := by
        have := congrArg (List.take c.ρ.length) e1
        rw [List.take_append_of_le_length hle, List.take_left'] at this
        · exact this.symm
        · rfl
      conv => lhs; rw [← List.take_append_drop c.ρ.length ρ0, ← this]
    · have hm : p ∈ ν := by
        have := congrArg (List.drop c.ρ.length) e1
        rw [List.drop_append_of_le_length hle, List.drop_left'] at this
        · rw [← this]; exact List.mem_append.mpr (.inl hp)
        · rfl
      exact hν p hm
  have okL : b ≠ c.L := fun q => hb0 (q ▸ .head _)
  have bc : b ∉ c.T := fun z => by
    have : (b, b) ∈ ν := by
      obtain ⟨ν0, e0, _⟩ := νpre
      have e1 : ρ0 ++ [(b, b)] = c.ρ ++ ν := eν
      rw [e0, List.append_assoc] at e1
      have := List.append_cancel_left e1
      rw [← this]; simp
    obtain ⟨o, e⟩ := a0 b z
    rw [hν _ this] at e; cases e
  have msub : ∀ y ∈ muts c.L ρ0, y ∈ muts c.L (ρ0 ++ [(b, b)]) := fun y hy => by
    rcases List.mem_cons.mp hy with rfl | hy
    · exact .head _
    · exact .tail _ (by rw [List.map_append]; exact List.mem_append.mpr (.inl hy))
  have ok' : (c.at T' ρ0).Ok := ⟨⟨fun y hy => (mT y).mpr ⟨a.g.ok.fx.mem _ (msub y hy), fun q => hb0 (q ▸ hy)⟩, by
      have nd : (c.L :: (ρ0 ++ [(b, b)]).map (·.2)).Nodup := nd
      rw [List.map_append, ← List.cons_append] at nd
      exact (List.nodup_append.mp nd).1, fun y hy => a.g.ok.fx.low y (sub' y hy)⟩, a.g.ok.kind, a.g.ok.loc, a.g.ok.glb, a.g.ok.blt, a.g.ok.lowK, a.g.ok.lo⟩
  refine ⟨T', ρ0, ⟨⟨ok', fun y hy => (mT y).mpr ⟨a.g.sub y hy, fun q => bc (q ▸ hy)⟩, fun y hy => a.g.fresh y (sub' y hy), νpre⟩, ⟨⟨⟨m, fr, fun y p e => ?_⟩, fun k po e => ?_⟩, a.inv.base, fun y hy => a.inv.live y (sub' y hy), a.inv.frs⟩, hl0.symm, a.st⟩, sub', fun y hy hn => (mT y).mpr ⟨hy, fun q => hn (by rw [q]; exact .tail _ (List.mem_map.mpr ⟨(b, b), by simp, rfl⟩))⟩, msub⟩
  · rw [lookup_put] at e
    split at e
    · rename_i g
      subst g
      cases e
      obtain ⟨v, e1, i1⟩ := lo _ _ hw
      refine ⟨v, e1, ?_⟩
      cases i1 with
      | o e' =>
        have e2 : (ρ0 ++ [(b, b)])[os.length]? = some (b, b) := eb
        rw [show (ρ0 ++ [(b, b)])[os.length]? = some _ from e'] at e2
        cases e2
        refine .l (fun z => ((mT b).mp z).2 rfl) ea rfl rfl ?_
        have m2 := im.reverse
        rw [List.reverse_reverse] at m2
        have hx2 : PV.ltL ρ0.length xs.reverse = true := by
          have key : ∀ n : Nat, ∀ l : List PV, PV.ltL n l = true ↔ ∀ p ∈ l, p.lt n = true := by
            intro n l
            induction l with
            | nil => simp [PV.ltL]
            | cons a r ih => show (a.lt n && PV.ltL n r) = true ↔ _; rw [Bool.and_eq_true, ih]; simp
          rw [hl0, key]
          rw [key] at hx
          exact fun p hp => hx p (List.mem_reverse.mp hp)
        exact IsL.back (ρ := ρ0) (ν := [(b, b)]) sub' m2 hx2
    · rename_i g
      obtain ⟨v, e1, i1⟩ := lo y p e
      exact ⟨v, e1, Is.back (ρ := ρ0) (ν := [(b, b)]) sub' i1 (by rw [hl0]; exact hl y p g e)⟩
  · obtain ⟨ys, rfl, hy⟩ := ho k po e
    have hk : k < os.length := (List.getElem?_eq_some_iff.mp e).1
    obtain ⟨a', vs', n', e', ea', im'⟩ := a.inv.rep.objs k (.list ys) (by show (os ++ [PO.list xs])[k]? = _; rw [List.getElem?_append_left hk]; exact e)
    refine ⟨a', vs', n', ?_, ea', IsL.back (ρ := ρ0) (ν := [(b, b)]) sub' im' (by rw [hl0]; exact hy)⟩
    have e' : (ρ0 ++ [(b, b)])[k]? = some (a', a') := e'
    rwa [List.getElem?_append_left (by omega)] at e'
theorem DAt.freeze {loc : List (Str × PV)} {os : List PO} {xs : List PV} {x : Str} (a0 : ∀ b ∈ c.T, ∃ o, s0.heap.get? b = some o) (a : DAt c s0 It l vs i ⟨loc, os ++ [.list xs]⟩ T ρ s) (hc : c.ρ.length ≤ os.length) (hx : PV.ltL os.length xs = true) (hl : ∀ y p, y ≠ x → loc.lookup y = some p → p.lt os.length = true) (hw : loc.lookup x = some (.o os.length)) (ho : ∀ (k : Nat) (po : PO), os[k]? = some po → ∃ ys, po = PO.list ys ∧ PV.ltL os.length ys = true) :
    ∃ T' ρ', DAt c s0 It l vs i ⟨put x (.l xs.reverse) loc, os⟩ T' ρ' s := by
  obtain ⟨T', ρ', b, h1, h2, h3⟩ := a.b.freeze a0 hc hx hl hw ho
  exact ⟨T', ρ', b.g, h2 _ a.hT a.hm, fun z => a.hm (h3 _ z), b.inv, b.len, b.st, a.it, a.ls, fun z => a.lT (h1 _ z)⟩
end
theorem for_goD {c : Fc} {x : Str} {px : Pos} {body : List Stmt} {It l : Addr} {vs : List Value} {ns : List Int} {s0 s : Shared} {T : List Addr} {ρ : List (Addr × Addr)} {V : View} {Q : Flow → Shared → Prop} {E : Value → Shared → Prop} (J : Nat → View → Prop) (hh : c.A.handled = none) (hk : c.env.kindOf x = some .local) (nI : s0.heap.get? It = none) (nT : It ∉ c.T) (hlen : vs.length = ns.length) (hv : ∀ (i : Nat) (n : Int), ns[i]? = some n → ∃ t, vs[i]? = some (.int n t))
    (step : ∀ (i : Nat) (n : Int) (V : View) (T : List Addr) (ρ : List (Addr × Addr)) (s : Shared) (E : Value → Shared → Prop), ns[i]? = some n → J i V → DAt c s0 It l vs (i + 1) { V with loc := put x (.i n) V.loc } T ρ s → wpAny c.M c.A (execs body c.env) (fun fl s' => fl = .next ∧ ∃ V' T' ρ', J (i + 1) V' ∧ DAt c s0 It l vs (i + 1) V' T' ρ' s') E s)
    (a : DAt c s0 It l vs 0 V T ρ s) (j0 : J 0 V) (k : ∀ V' T' ρ' s', J ns.length V' → BAt c s0 V' T' ρ' s' → Q .next s') :
    codeAny c.M c.A (.forLoop (.Name x px) (.ref It) body [] c.env) (fun r s' => match r with | .ok f => Q f s' | .error e => cameBackBy c.M c.A c.env E e s') s := by
  refine codeAny_forLoop (fun n s' => ∃ i V T ρ, n = ns.length + 1 - i ∧ i ≤ ns.length ∧ J i V ∧ DAt c s0 It l vs i V T ρ s') ?_ (ns.length + 1) ⟨0, V, T, ρ, rfl, Nat.zero_le _, j0, a⟩
  rintro n s' ⟨i, V, T, ρ, rfl, hi, ji, a⟩
  have nL : l ≠ It := fun q => a.lT (q ▸ a.hT)
  have cI : ∃ o, s'.heap.get? It = some o ∧ o.cls ≠ .type "frame" := by obtain ⟨o, e, c, _⟩ := a.it; exact ⟨o, e, by rw [c]; decide⟩
  cases hn : ns[i]? with
  | none =>
    have hin : i = ns.length := Nat.le_antisymm hi (List.getElem?_eq_none_iff.mp hn)
    refine wpAny_pyNext_list_end hh a.it a.ls (by rw [List.getElem?_toArray, hin, ← hlen]; exact List.getElem?_eq_none_iff.mpr (Nat.le_refl _)) fun h' xb => wpAny_execs_nil ?_
    subst hin
    exact k V _ ρ _ ji ⟨a.g.off a.hm nT, a.inv.off a.g.ok a.hT a.hm (.of a.inv.frs cI) xb, a.len, a.st.off nI xb⟩
  | some n =>
    have hlt : i < ns.length := (List.getElem?_eq_some_iff.mp hn).1
    obtain ⟨t, ev⟩ := hv i n hn
    refine wpAny_pyNext_list_item a.it a.ls (x := .int n t) (by simpa using ev) fun h1 it1 sb1 => ?_
    have kI : Keep c.N [It] s'.heap h1 := by obtain ⟨o1, e1, _⟩ := it1; exact .sameBut sb1 e1 (.head _)
    have I1 := a.inv.touch (c := c.at T ρ) a.g.ok a.hT a.hm cI kI
    have st1 := a.st.touch nI kI
    have ls1 : h1.IsList l vs.toArray := keep_list kI (fun z => nL (List.mem_singleton.mp z)) a.ls
    have a1 : DAt c s0 It l vs (i + 1) V T ρ { s' with heap := h1 } := ⟨a.g, a.hT, a.hm, I1, a.len, st1, it1, ls1, a.lT⟩
    refine wpAny_assign_Name (store_name (c := c.at T ρ) (p := .i n) a.g.ok hk I1 (.i n t) fun s2 I2 t2 => ?_)
    have a2 : DAt c s0 It l vs (i + 1) { V with loc := put x (.i n) V.loc } T ρ s2 := a1.same rfl I2 t2
    refine wpAny_mono (step i n V T ρ s2 _ hn ji a2) (fun fl s3 h3 => ?_) fun _ _ e => e
    obtain ⟨rfl, V', T', ρ', j', a'⟩ := h3
    exact ⟨_, ndec hlt, i + 1, V', T', ρ', rfl, hlt, j', a'⟩
end H1
section X1
/-! ## _law_drawn: its parts -/
noncomputable abbrev drFd (w : Wn) : FuncData := fdOf (WW w).K 782
noncomputable abbrev drCfg (w : Wn) : Cfg := mkCfg (W := WW w) (D := 2) (drFd w).scope tabs ((blt _ _).or (orMd w)) (.none _ _)
structure DrX where
  s1 : Stmt
  x : Str
  px : Pos
  it : Expr
  k1 : Stmt
  t1 : Expr
  b1 : List Stmt
  i1 : Pos
  t2 : Expr
  pop : Stmt
  clo : Stmt
  i2 : Pos
  t3 : Expr
  b3 : List Stmt
  b4 : List Stmt
  i3 : Pos
  pf : Pos
  tw : Expr
  wpop : Stmt
  wclo : Stmt
  pw : Pos
  ret : Stmt
noncomputable def DrX.body (r : DrX) : List Stmt := [r.k1, .If r.t1 r.b1 [.If r.t2 [r.pop, r.clo] [.If r.t3 r.b3 r.b4 r.i3] r.i2] r.i1]
noncomputable def DrX.all (r : DrX) : List Stmt := [r.s1, .For (.Name r.x r.px) r.it r.body [] r.pf, .While r.tw [r.wpop, r.wclo] [] r.pw, r.ret]
noncomputable def drX : List Stmt → Option DrX
  | [s1, .For (.Name x px) it [k1, .If t1 b1 [.If t2 [pop, clo] [.If t3 b3 b4 i3] i2] i1] _ pf, .While tw [wpop, wclo] _ pw, ret] => some ⟨s1, x, px, it, k1, t1, b1, i1, t2, pop, clo, i2, t3, b3, b4, i3, pf, tw, wpop, wclo, pw, ret⟩
  | _ => none
theorem dr_some (w : Wn) : (drX (bodyOf (drFd w))).isSome = true := by kernel_rfl
noncomputable def drG (w : Wn) : DrX := (drX (bodyOf (drFd w))).get (dr_some w)
theorem dr_shape (w : Wn) : bodyOf (drFd w) = (drG w).all := by kernel_rfl
noncomputable abbrev drL (S : List PV) (u : Int) (ex : List (Str × PV)) : List (Str × PV) := ("script", .l S) :: ("units", .i u) :: ("piles", .o 1) :: ex
/-- the piles, last laid first in each -/
inductive Pl where
  | one (a : List PV)
  | two (a b : List PV)
  | three (a b c : List PV)
noncomputable def Pl.objs : Pl → List PO
  | .one a => [.list a, .list [.o 0]]
  | .two a b => [.list a, .list [.o 2, .o 0], .list b]
  | .three a b c => [.list a, .list [.o 3, .o 2, .o 0], .list b, .list c]
noncomputable def Pl.add (t : PV) : Pl → Pl
  | .one a => .one (t :: a)
  | .two a b => .two a (t :: b)
  | .three a b c => .three a b (t :: c)
end X1
section X2
noncomputable def Pl.refs : Pl → List PV
  | .one _ => [.o 0]
  | .two _ _ => [.o 2, .o 0]
  | .three _ _ _ => [.o 3, .o 2, .o 0]
noncomputable def Pl.top : Pl → List PV
  | .one a => a
  | .two _ b => b
  | .three _ _ c => c
noncomputable abbrev xk (x k : Int) : List (Str × PV) := [("x", .i x), ("k", .i k)]
noncomputable abbrev xkw (x k : Int) (n : Str) (p : PV) : List (Str × PV) := [("x", .i x), ("k", .i k), (n, p)]
noncomputable abbrev L4 : List PV := [.s "a", .s "b", .s "#", .s "~&"]
noncomputable abbrev j4 (x : Int) : Int := (x.fdiv 8).fmod 4
noncomputable abbrev W4 (x : Int) : PV := L4.getD (j4 x).toNat (.v .none)
noncomputable abbrev L8 (w : PV) : List PV := [.s "cat", .s "swap", .s "dip", .s "cat", .s "swap", .s "dip", .s "run", w]
noncomputable abbrev W8 (x k : Int) : PV := (L8 (W4 x)).getD k.toNat (.v .none)
theorem x_k1 (w : Wn) (S : List PV) (u x : Int) (os : List PO) : xs (drCfg w) 60 [(drG w).k1] [] ⟨drL S u [("x", .i x)], os⟩ = some (.next, [], ⟨drL S u (xk x (x.fmod 8)), os⟩, [(8 : Int) ≠ 0]) := by kernel_rfl
theorem x_t1 (w : Wn) (S : List PV) (u x k : Int) (p : Pl) : pt (drCfg w) 60 (drG w).t1 ⟨drL S u (xk x k), p.objs⟩ = some ((k == 0) && (decide (lnI p.refs < 3) && true), [Ln p.refs]) := by cases p <;> kernel_rfl
theorem x_t2 (w : Wn) (S : List PV) (u x k : Int) (p : Pl) : pt (drCfg w) 60 (drG w).t2 ⟨drL S u (xk x k), p.objs⟩ = some ((k == 1) && (decide (lnI p.refs > 1) && true), [Ln p.refs]) := by cases p <;> kernel_rfl
theorem x_t3 (w : Wn) (S : List PV) (u x k : Int) (os : List PO) : pt (drCfg w) 60 (drG w).t3 ⟨drL S u (xk x k), os⟩ = some ((k == 2) && (decide (u < 2) && true), []) := by kernel_rfl
theorem x_b3 (w : Wn) (S : List PV) (u x k : Int) (p : Pl) : xs (drCfg w) 60 (drG w).b3 [] ⟨drL S u (xk x k), p.objs⟩ = some (.next, [], ⟨drL S (u + 1) (xk x k), (p.add (.s "unit")).objs⟩, [(-1 : Int) < 0, -(-1 : Int) ≤ lnI p.refs, Ln p.refs, Ln p.top]) := by cases p <;> kernel_rfl
theorem x_b4 (w : Wn) (S : List PV) (u x k : Int) (p : Pl) : xs (drCfg w) 60 (drG w).b4 [] ⟨drL S u (xk x k), p.objs⟩ = some (.next, [], ⟨drL S u (xkw x k "word" (W4 x)), (p.add (W8 x k)).objs⟩, [(8 : Int) ≠ 0, Int.natAbs 8 < 1073741824, (4 : Int) ≠ 0, (0 : Int) ≤ j4 x, j4 x < lnI L4, Ln L4, (-1 : Int) < 0, -(-1 : Int) ≤ lnI p.refs, Ln p.refs, (0 : Int) ≤ k, k < lnI (L8 (W4 x)), Ln (L8 (W4 x)), Ln p.top]) := by cases p <;> kernel_rfl
theorem x_pop2 (w : Wn) (S : List PV) (u x k : Int) (a b : List PV) : xs (drCfg w) 60 [(drG w).pop] [] ⟨drL S u (xk x k), (Pl.two a b).objs⟩ = some (.next, [], ⟨drL S u (xkw x k "words" (.o 2)), [.list a, .list [.o 0]] ++ [.list b]⟩, [Ln (Pl.two a b).refs]) := by kernel_rfl
theorem x_pop3 (w : Wn) (S : List PV) (u x k : Int) (a b c : List PV) : xs (drCfg w) 60 [(drG w).pop] [] ⟨drL S u (xk x k), (Pl.three a b c).objs⟩ = some (.next, [], ⟨drL S u (xkw x k "words" (.o 3)), [.list a, .list [.o 2, .o 0], .list b] ++ [.list c]⟩, [Ln (Pl.three a b c).refs]) := by kernel_rfl
theorem x_clo (w : Wn) (S : List PV) (u x k : Int) (b : List PV) (p : Pl) : xs (drCfg w) 60 [(drG w).clo] [] ⟨drL S u (xkw x k "words" (.l b)), p.objs⟩ = some (.next, [], ⟨drL S u (xkw x k "words" (.l b)), (p.add (mdP b)).objs⟩, [(-1 : Int) < 0, -(-1 : Int) ≤ lnI p.refs, Ln p.refs, MdOk b, Ln p.top]) := by cases p <;> kernel_rfl
theorem x_tw (w : Wn) (S : List PV) (u : Int) (p : Pl) : pt (drCfg w) 60 (drG w).tw ⟨drL S u [], p.objs⟩ = some (decide (lnI p.refs > 1), [Ln p.refs]) := by cases p <;> kernel_rfl
theorem x_wpop2 (w : Wn) (S : List PV) (u : Int) (a b : List PV) : xs (drCfg w) 60 [(drG w).wpop] [] ⟨drL S u [], (Pl.two a b).objs⟩ = some (.next, [], ⟨drL S u [("words", .o 2)], [.list a, .list [.o 0]] ++ [.list b]⟩, [Ln (Pl.two a b).refs]) := by kernel_rfl
theorem x_wpop3 (w : Wn) (S : List PV) (u : Int) (a b c : List PV) : xs (drCfg w) 60 [(drG w).wpop] [] ⟨drL S u [], (Pl.three a b c).objs⟩ = some (.next, [], ⟨drL S u [("words", .o 3)], [.list a, .list [.o 2, .o 0], .list b] ++ [.list c]⟩, [Ln (Pl.three a b c).refs]) := by kernel_rfl
theorem x_wclo (w : Wn) (S : List PV) (u : Int) (b : List PV) (p : Pl) : xs (drCfg w) 60 [(drG w).wclo] [] ⟨drL S u [("words", .l b)], p.objs⟩ = some (.next, [], ⟨drL S u [("words", .l b)], (p.add (mdP b)).objs⟩, [(-1 : Int) < 0, -(-1 : Int) ≤ lnI p.refs, Ln p.refs, MdOk b, Ln p.top]) := by cases p <;> kernel_rfl
noncomputable abbrev hd9 : List PV := [.i 0, .i 7, .i 0, .i 15, .i 23, .i 1, .i 4, .i 1, .i 6]
noncomputable abbrev tl5 : List PV := [.i 0, .i 1, .i 6, .i 3, .i 2]
theorem x_it (w : Wn) (S : List PV) (u : Int) (os : List PO) : pf (drCfg w) 60 (drG w).it ⟨drL S u [], os⟩ = some (.l ((hd9 ++ S.take 10) ++ tl5), os, [(0 : Int) ≤ 10, Ln S, Ln hd9, Ln (S.take 10), Ln (hd9 ++ S.take 10), Ln tl5]) := by kernel_rfl
theorem x_ret (w : Wn) (S : List PV) (u : Int) (a : List PV) : xs (drCfg w) 60 [(drG w).ret] [] ⟨drL S u [], (Pl.one a).objs⟩ = some (.ret (.o 0), [], ⟨drL S u [], (Pl.one a).objs⟩, [(0 : Int) ≤ 0, (0 : Int) < lnI [.o 0], Ln [.o 0]]) := by kernel_rfl
end X2
section H2
section
variable {c : Fc} {V V1 V2 : View} {p r : PV} {P : List Prop}
/-- a list's method, its arguments laid anew -/
theorem evg_lmeth {b : Expr} {n : Str} {apos pos : Pos} {es : List Expr} {xs0 xs xs' ps : List PV} {k : Nat} (ok : c.Ok) (hb : attributeBase b n c.env (eval b c.env) = eval b c.env) (hy : EvOk c b V (.o k) V) (ho1 : V.objs[k]? = some (.list xs0)) (hl : (apos.endLine == pos.line) = true) (hs : es.all noStar = true) (h30 : es.length < 30)
    (ha : ArgsG c es V ps V2) (ho : V2.objs[k]? = some (.list xs)) (e : lmP n xs ps = some (r, xs', P)) (hP : AllP P) : EvG c (.Call (.Attribute b n apos) es [] pos) V r { V2 with objs := V2.objs.set k (.list xs') } := by
  intro s Q E I l h
  rw [mc_eq hb hl hs h30]
  refine wpAny_bind (hy s _ E I fun s1 v I1 t1 i1 => wpAny_bind (wpAny_standAt (wpAny_bind (wpAny_holding ?_))))
  obtain ⟨D, m, rfl, e1⟩ := i1.io
  obtain ⟨D', vs, n1, e2, ea, im⟩ := I1.rep.objs k _ ho1
  rw [e1] at e2; cases e2
  refine lm_get e ea ?_
  refine callWith_of (P := c.K.In) (by rw [starEach_any hs]; rfl) (keeps_ok (lm_keep c.K n)) (evalArgs_any (starEach_any hs) ?_)
  refine ha s1 pos _ E I1 l fun s2 us T ρ g l2 I2 t2 i2 => ⟨I2.base.k, ?_⟩
  have e1' : ρ[k]? = some (D, D) := by
    obtain ⟨ν, rfl, _⟩ := g.ext
    rw [List.getElem?_append_left (List.getElem?_eq_some_iff.mp e1).1]; exact e1
  obtain ⟨D', vs2, n2, e2, ea2, im2⟩ := I2.rep.objs k _ ho
  rw [show (c.at T ρ).ρ[k]? = some (D, D) from e1'] at e2; cases e2
  exact lm_call (c := c.at T ρ) g.ok I2 e1' e hP ea2 im2 i2 fun s3 x I3 t3 ix => h s3 x T ρ (g.from t1.keep) (by simpa using l2) I3 (t1.trans (g.keep t2 t3)) (ix.st (c := c.at T ρ) g.ok t3)
end
theorem sxg_expr {c : Fc} {V V1 : View} {p : PV} {e : Expr} {pos : Pos} (ok : c.Ok) (he : EvG c e V p V1) (hc : notComp e = true) : SxG c (.Expr e pos) V .next V1 := fun s Q E I l k => wpAny_Expr_any (he s _ E I l fun s1 v T ρ g l1 I1 t1 i1 => k s1 _ T ρ g l1 I1 t1 rfl) (by unfold interactive; rw [ok.kind]; rfl) (swaps_no hc)
section
variable {c : Fc} {s0 s s' : Shared} {It l : Addr} {vs : List Value} {i : Nat} {V V' : View} {T T' : List Addr} {ρ ρ' : List (Addr × Addr)}
theorem d_xs {g : Cfg} {n : Nat} {pre rest : List Stmt} {ds ds' : Ds} {P : List Prop} {Q : Flow → Shared → Prop} {E : Value → Shared → Prop} (a : DAt c s0 It l vs i V T ρ s) (gk : CfgOk (c.at T ρ) g) (run : xs g n pre ds V = some (.next, ds', V', P)) (hP : AllP P) (hl : V'.objs.length = V.objs.length) (k : ∀ s', DAt c s0 It l vs i V' T ρ s' → wpAny c.M c.A (execs rest c.env) Q E s') : wpAny c.M c.A (execs (pre ++ rest) c.env) Q E s :=
  xs_then (c := c.at T ρ) a.g.ok gk run hP s a.inv fun s1 I1 t1 => k s1 (a.same hl I1 t1)
theorem b_xs {g : Cfg} {n : Nat} {pre rest : List Stmt} {ds ds' : Ds} {P : List Prop} {Q : Flow → Shared → Prop} {E : Value → Shared → Prop} (a : BAt c s0 V T ρ s) (gk : CfgOk (c.at T ρ) g) (run : xs g n pre ds V = some (.next, ds', V', P)) (hP : AllP P) (hl : V'.objs.length = V.objs.length) (k : ∀ s', BAt c s0 V' T ρ s' → wpAny c.M c.A (execs rest c.env) Q E s') : wpAny c.M c.A (execs (pre ++ rest) c.env) Q E s :=
  xs_then (c := c.at T ρ) a.g.ok gk run hP s a.inv fun s1 I1 t1 => k s1 (a.go (.refl a.g.ok) (hl.trans a.len) I1 t1)
theorem d_if {t : Expr} {b : Bool} {bd el : List Stmt} {pos : Pos} {Q : Flow → Shared → Prop} {E : Value → Shared → Prop} (a : DAt c s0 It l vs i V T ρ s) (ht : TvOk (c.at T ρ) t V b V) (k : ∀ s', DAt c s0 It l vs i V T ρ s' → wpAny c.M c.A (execs (if b then bd else el) c.env) (fun fl s' => fl = .next ∧ Q fl s') E s') : wpAny c.M c.A (execs [.If t bd el pos] c.env) (fun fl s' => fl = .next ∧ Q fl s') E s := by
  refine wpAny_execs_cons (wpAny_If (ht s _ E a.inv fun s1 I1 t1 => ?_))
  have h := k s1 (a.same rfl I1 t1)
  cases b <;> exact wpAny_mono h (fun fl s2 h2 => by obtain ⟨rfl, h2⟩ := h2; exact wpAny_execs_nil ⟨rfl, h2⟩) fun _ _ e => e
theorem DAt.drop {L r : List (Str × PV)} {objs : List PO} (a : DAt c s0 It l vs i ⟨L ++ r, objs⟩ T ρ s) : DAt c s0 It l vs i ⟨L, objs⟩ T ρ s := ⟨a.g, a.hT, a.hm, a.inv.drop, a.len, a.st, a.it, a.ls, a.lT⟩
theorem BAt.drop {L r : List (Str × PV)} {objs : List PO} (a : BAt c s0 ⟨L ++ r, objs⟩ T ρ s) : BAt c s0 ⟨L, objs⟩ T ρ s := ⟨a.g, a.inv.drop, a.len, a.st⟩
end
end H2
section X3
/-! ## _law_drawn: the loop -/
inductive TP where
  | one (a : List Tr)
  | two (a b : List Tr)
  | three (a b c : List Tr)
noncomputable def TP.pl : TP → Pl
  | .one a => .one (Tr.pvs a)
  | .two a b => .two (Tr.pvs a) (Tr.pvs b)
  | .three a b c => .three (Tr.pvs a) (Tr.pvs b) (Tr.pvs c)
noncomputable def TP.n : TP → Int
  | .one _ => 1
  | .two _ _ => 2
  | .three _ _ _ => 3
noncomputable def TP.opn : TP → TP
  | .one a => .two a []
  | .two a b => .three a b []
  | p => p
noncomputable def TP.clo : TP → TP
  | .two a b => .one (madeT b.reverse :: a)
  | .three a b c => .two a (madeT c.reverse :: b)
  | p => p
noncomputable def TP.add (t : Tr) : TP → TP
  | .one a => .one (t :: a)
  | .two a b => .two a (t :: b)
  | .three a b c => .three a b (t :: c)
noncomputable def TP.sz (n : Nat) : TP → Prop
  | .one a => a.length ≤ n
  | .two a b => a.length ≤ n ∧ b.length ≤ n
  | .three a b c => a.length ≤ n ∧ b.length ≤ n ∧ c.length ≤ n
noncomputable def lett (x : Int) : List Nat := ([[97], [98], [35], [126, 38]] : List (List Nat)).getD (j4 x).toNat []
noncomputable def wordD (x k : Int) : List Nat := ([wCat, wSwap, wDip, wCat, wSwap, wDip, wRun, lett x] : List (List Nat)).getD k.toNat []
noncomputable def dstep (x : Int) (st : TP × Int) : TP × Int :=
  if (x.fmod 8 == 0 && (decide (st.1.n < 3) && true)) = true then (st.1.opn, st.2)
  else if (x.fmod 8 == 1 && (decide (st.1.n > 1) && true)) = true then (st.1.clo, st.2)
  else if (x.fmod 8 == 2 && (decide (st.2 < 2) && true)) = true then (st.1.add (.w wUnit), st.2 + 1)
  else (st.1.add (.w (wordD x (x.fmod 8))), st.2)
theorem fmod_b (x : Int) {m : Int} (h : 0 < m) : 0 ≤ x.fmod m ∧ x.fmod m < m := ⟨Int.fmod_nonneg_of_pos x h, Int.fmod_lt_of_pos x h⟩
theorem w4_is (x : Int) : W4 x = .s (tx (lett x)) := by
  obtain ⟨h1, h2⟩ := fmod_b (x.fdiv 8) (m := 4) (by decide)
  show L4.getD (j4 x).toNat (.v .none) = .s (tx (([[97], [98], [35], [126, 38]] : List (List Nat)).getD (j4 x).toNat []))
  have : (j4 x).toNat < 4 := by show ((x.fdiv 8).fmod 4).toNat < 4; omega
  generalize (j4 x).toNat = m at this
  match m, this with
  | 0, _ => kernel_rfl
  | 1, _ => kernel_rfl
  | 2, _ => kernel_rfl
  | 3, _ => kernel_rfl
theorem w8_is (x : Int) {k : Int} (h1 : 0 ≤ k) (h2 : k < 8) : W8 x k = .s (tx (wordD x k)) := by
  have hw := w4_is x
  unfold wordD
  show (L8 (W4 x)).getD k.toNat (.v .none) = _
  rw [hw]
  have : k.toNat < 8 := by omega
  generalize k.toNat = m at this
  match m, this with
  | 0, _ => rfl
  | 1, _ => rfl
  | 2, _ => rfl
  | 3, _ => rfl
  | 4, _ => rfl
  | 5, _ => rfl
  | 6, _ => rfl
  | 7, _ => rfl
theorem pl_refs (p : TP) : lnI p.pl.refs = p.n ∧ Ln p.pl.refs := by cases p; exact ⟨rfl, by show 1 ≤ 1000000; decide⟩; exact ⟨rfl, by show 2 ≤ 1000000; decide⟩; exact ⟨rfl, by show 3 ≤ 1000000; decide⟩
theorem pl_add (p : TP) (t : Tr) : (p.add t).pl = p.pl.add t.pv := by cases p <;> rfl
theorem pl_top {p : TP} {n : Nat} (h : p.sz n) (hn : n ≤ 1000) : Ln p.pl.top := by
  cases p with
  | one a => show (Tr.pvs a).length ≤ 1000000; rw [pvs_map, List.length_map]; exact Nat.le_trans h (by omega)
  | two a b => show (Tr.pvs b).length ≤ 1000000; rw [pvs_map, List.length_map]; exact Nat.le_trans h.2 (by omega)
  | three a b c => show (Tr.pvs c).length ≤ 1000000; rw [pvs_map, List.length_map]; exact Nat.le_trans h.2.2 (by omega)
theorem sz_up {p : TP} {n : Nat} (h : p.sz n) : p.sz (n + 1) := by
  cases p with
  | one a => exact Nat.le_succ_of_le h
  | two a b => exact ⟨Nat.le_succ_of_le h.1, Nat.le_succ_of_le h.2⟩
  | three a b c => exact ⟨Nat.le_succ_of_le h.1, Nat.le_succ_of_le h.2.1, Nat.le_succ_of_le h.2.2⟩
theorem sz_add {p : TP} {n : Nat} {t : Tr} (h : p.sz n) : (p.add t).sz (n + 1) := by
  cases p with
  | one a => exact Nat.succ_le_succ h
  | two a b => exact ⟨Nat.le_succ_of_le h.1, Nat.succ_le_succ h.2⟩
  | three a b c => exact ⟨Nat.le_succ_of_le h.1, Nat.le_succ_of_le h.2.1, Nat.succ_le_succ h.2.2⟩
theorem sz_opn {p : TP} {n : Nat} (h : p.sz n) : p.opn.sz n := by
  cases p with
  | one a => exact ⟨h, Nat.zero_le _⟩
  | two a b => exact ⟨h.1, h.2, Nat.zero_le _⟩
  | three a b c => exact h
theorem sz_clo {p : TP} {n : Nat} (h : p.sz n) : p.clo.sz (n + 1) := by
  cases p with
  | one a => exact Nat.le_succ_of_le h
  | two a b => exact Nat.succ_le_succ h.1
  | three a b c => exact ⟨Nat.le_succ_of_le h.1, Nat.succ_le_succ h.2.1⟩
structure DrC (w : Wn) (c : Fc) : Prop where
  ok : c.Ok
  e : c.toWd = WW w
  room : Room c.A.in1 2
  hs : c.env.scope = (drFd w).scope
  nr : c.ρ = []
theorem dr_gk {w : Wn} {c : Fc} (R : DrC w c) {T : List Addr} {ρ : List (Addr × Addr)} (ok : (c.at T ρ).Ok) : CfgOk (c.at T ρ) (drCfg w) := mkCfg_ok (c := c.at T ρ) (t := tabs) ok R.e R.room (by decide) R.hs (tabs_ok w)
theorem lt_pvs (n : Nat) (ts : List Tr) : PV.ltL n (Tr.pvs ts) = true := by
  have key : ∀ (d : Nat) (ts : List Tr), Tr.deps ts ≤ d → PV.ltL n (Tr.pvs ts) = true := by
    intro d
    induction d with
    | zero =>
      intro ts
      induction ts with
      | nil => intro _; rfl
      | cons t r ih =>
        intro h
        have h : max t.dep (Tr.deps r) ≤ 0 := h
        show (t.pv.lt n && PV.ltL n (Tr.pvs r)) = true
        rw [ih (Nat.le_trans (Nat.le_max_right _ _) h)]
        have h1 : t.dep ≤ 0 := Nat.le_trans (Nat.le_max_left _ _) h
        cases t with
        | w x => rfl
        | l us => exact absurd h1 (by show ¬ 1 + Tr.deps us ≤ 0; omega)
    | succ d ihd =>
      intro ts
      induction ts with
      | nil => intro _; rfl
      | cons t r ih =>
        intro h
        have h : max t.dep (Tr.deps r) ≤ d + 1 := h
        show (t.pv.lt n && PV.ltL n (Tr.pvs r)) = true
        rw [ih (Nat.le_trans (Nat.le_max_right _ _) h)]
        have h1 : t.dep ≤ d + 1 := Nat.le_trans (Nat.le_max_left _ _) h
        cases t with
        | w x => rfl
        | l us =>
          have h1 : 1 + Tr.deps us ≤ d + 1 := h1
          show (PV.ltL n (Tr.pvs us) && true) = true
          rw [ihd us (by omega)]; rfl
  exact key _ ts (Nat.le_refl _)
/-- piles.append([]) -/
structure ApX where
  y : Str
  py : Pos
  ap : Pos
  pl : Pos
  pc : Pos
  pe : Pos
noncomputable def ApX.st (r : ApX) : Stmt := .Expr (.Call (.Attribute (.Name r.y r.py) "append" r.ap) [.List [] r.pl] [] r.pc) r.pe
noncomputable def apX : List Stmt → Option ApX
  | [.Expr (.Call (.Attribute (.Name y py) _ ap) [.List _ pl] _ pc) pe] => some ⟨y, py, ap, pl, pc, pe⟩
  | _ => none
theorem ap_some (w : Wn) : (apX (drG w).b1).isSome = true := by kernel_rfl
noncomputable def apG (w : Wn) : ApX := (apX (drG w).b1).get (ap_some w)
theorem ap_shape (w : Wn) : (drG w).b1 = [(apG w).st] := by kernel_rfl
theorem ap_good (w : Wn) : ((apG w).y == ("piles" : Str) && ((apG w).ap.endLine == (apG w).pc.line)) = true := by kernel_rfl
theorem dr_names (w : Wn) : (["script", "piles", "units", "x", "k", "words", "word"] : List Str).all (fun x => (drFd w).scope.names.lookup x == some .local) = true := by kernel_rfl
theorem dr_x (w : Wn) : ((drG w).x == ("x" : Str)) = true := by kernel_rfl
theorem sx_open {w : Wn} {c : Fc} (R : DrC w c) {T : List Addr} {ρ : List (Addr × Addr)} (ok : (c.at T ρ).Ok) {S : List PV} {u x k : Int} {p : TP} (hn : p.n < 3) : SxG (c.at T ρ) (apG w).st ⟨drL S u (xk x k), p.pl.objs⟩ .next ⟨drL S u (xk x k), p.opn.pl.objs⟩ := by
  obtain ⟨g1, g2⟩ := Bool.and_eq_true_iff.mp (ap_good w)
  have kn : c.env.kindOf ("piles" : Str) = some .local := by
    unfold Env.kindOf; rw [R.hs]; exact beq_iff_eq.mp (List.all_eq_true.mp (dr_names w) "piles" (.tail _ (.head _)))
  have hy : EvOk (c.at T ρ) (.Name (apG w).y (apG w).py) ⟨drL S u (xk x k), p.pl.objs⟩ (.o 1) ⟨drL S u (xk x k), p.pl.objs⟩ := ev_local ok (by rw [beq_iff_eq.mp g1]; exact kn) (by rw [beq_iff_eq.mp g1]; decide) (by rw [beq_iff_eq.mp g1]; rfl)
  have nl : ∀ os : List PO, ArgsG (c.at T ρ) [.List [] (apG w).pl] ⟨drL S u (xk x k), os⟩ [.o os.length] ⟨drL S u (xk x k), os ++ [.list []]⟩ := fun os =>
    argsg_cons (c := c.at T ρ) (evg_list (c := c.at T ρ) (V1 := ⟨drL S u (xk x k), os⟩) (ps := []) ((args_nil (c := c.at T ρ)).g ok rfl) (by decide)) (fun T' ρ' ok' => (args_nil (c := (c.at T ρ).at T' ρ')).g ok' rfl) rfl
  unfold ApX.st
  cases p with
  | three a b c => exact absurd hn (by show ¬ (3 : Int) < 3; omega)
  | one a => exact sxg_expr ok (evg_lmeth (xs0 := [.o 0]) (xs := [.o 0]) ok base_name hy rfl g2 rfl (by show 1 < 30; decide) (nl _) rfl (show lmP "append" [.o 0] [.o 2] = some (.v .none, [.o 2, .o 0], [Ln [PV.o 0]]) from by kernel_rfl) ⟨by show 1 ≤ 1000000; decide, trivial⟩) rfl
  | two a b => exact sxg_expr ok (evg_lmeth (xs0 := [.o 2, .o 0]) (xs := [.o 2, .o 0]) ok base_name hy rfl g2 rfl (by show 1 < 30; decide) (nl _) rfl (show lmP "append" [.o 2, .o 0] [.o 3] = some (.v .none, [.o 3, .o 2, .o 0], [Ln [PV.o 2, .o 0]]) from by kernel_rfl) ⟨by show 2 ≤ 1000000; decide, trivial⟩) rfl
end X3
section X4
theorem tp_n (p : TP) : -(-1 : Int) ≤ p.n := by
  cases p with
  | one a => show (1 : Int) ≤ 1; decide
  | two a b => show (1 : Int) ≤ 2; decide
  | three a b c => show (1 : Int) ≤ 3; decide
theorem pvs_rev (ts : List Tr) : (Tr.pvs ts).reverse = Tr.pvs ts.reverse := by rw [pvs_map, pvs_map, List.map_reverse]
theorem lookup_lt {L : List (Str × PV)} {w : Str} {n : Nat} (h : ∀ q ∈ L, q.1 ≠ w → q.2.lt n = true) : ∀ (y : Str) (p : PV), y ≠ w → L.lookup y = some p → p.lt n = true := fun y p hy e => h (y, p) (mem_lookup e) hy
noncomputable abbrev iS (ns : List Int) : List PV := ns.map PV.i
theorem lt_ints (n : Nat) : ∀ ns : List Int, PV.ltL n (iS ns) = true
  | [] => rfl
  | a :: r => by show (true && PV.ltL n (iS r)) = true; rw [lt_ints n r]; rfl
section
variable {w : Wn} {c : Fc} {s0 s : Shared} {It l : Addr} {vs : List Value} {i m : Nat} {T : List Addr} {ρ : List (Addr × Addr)} {S : List Int} {u x : Int} {E : Value → Shared → Prop}
noncomputable abbrev Done (w : Wn) (c : Fc) (s0 : Shared) (It l : Addr) (vs : List Value) (i : Nat) (S : List Int) (st : TP × Int) (fl : Flow) (s' : Shared) : Prop := fl = .next ∧ ∃ T' ρ', DAt c s0 It l vs i ⟨drL (iS S) st.2 [], st.1.pl.objs⟩ T' ρ' s'
theorem dr_close {k : Int} (R : DrC w c) (a0 : ∀ b ∈ c.T, ∃ o, s0.heap.get? b = some o) {p : TP} (a : DAt c s0 It l vs i ⟨drL (iS S) u (xk x k), p.pl.objs⟩ T ρ s) (hz : p.sz m) (hm : m ≤ 1000) (hn : p.n > 1) :
    wpAny c.M c.A (execs [(drG w).pop, (drG w).clo] c.env) (Done w c s0 It l vs i S (p.clo, u)) E s := by
  have fin : ∀ {p' : TP} {T ρ s} {b : List Tr}, DAt c s0 It l vs i ⟨drL (iS S) u (xkw x k "words" (.l (Tr.pvs b))), p'.pl.objs⟩ T ρ s → p'.sz m → b.length ≤ 1000 → wpAny c.M c.A (execs [(drG w).clo] c.env) (Done w c s0 It l vs i S (p'.add (madeT b), u)) E s := fun {p' T ρ s b} a hz hb => by
    have hl : (p'.pl.add (mdP (Tr.pvs b))).objs.length = p'.pl.objs.length := by cases p' <;> rfl
    obtain ⟨r1, r2⟩ := pl_refs p'
    refine d_xs (rest := []) a (dr_gk R a.g.ok) (x_clo w (iS S) u x k (Tr.pvs b) p'.pl) ⟨by decide, ?_, r2, ⟨b, rfl, by show _ ≤ 1000000; omega⟩, pl_top hz hm, trivial⟩ hl fun s' a' => wpAny_execs_nil ⟨rfl, T, ρ, ?_⟩
    · rw [r1]; exact tp_n p'
    · rw [mdP_pv, ← pl_add] at a'
      exact DAt.drop (L := drL (iS S) u []) (r := xkw x k "words" (.l (Tr.pvs b))) a'
  have loclt : ∀ (n : Nat), 2 ≤ n → ∀ (q : PV), ∀ z ∈ drL (iS S) u (xkw x k "words" q), z.1 ≠ ("words" : Str) → z.2.lt n = true := fun n hn q z hz hw => by
    rcases List.mem_cons.mp hz with rfl | hz
    · exact lt_ints n S
    rcases List.mem_cons.mp hz with rfl | hz
    · rfl
    rcases List.mem_cons.mp hz with rfl | hz
    · exact decide_eq_true (by omega)
    rcases List.mem_cons.mp hz with rfl | hz
    · rfl
    rcases List.mem_cons.mp hz with rfl | hz
    · rfl
    rcases List.mem_singleton.mp hz with rfl
    exact absurd rfl hw
  cases p with
  | one a => exact absurd hn (by show ¬ (1 : Int) > 1; omega)
  | two p0 p1 =>
    refine d_xs (pre := [(drG w).pop]) (rest := [(drG w).clo]) a (dr_gk R a.g.ok) (x_pop2 w (iS S) u x k (Tr.pvs p0) (Tr.pvs p1)) ⟨by show 2 ≤ 1000000; decide, trivial⟩ rfl fun s1 a1 => ?_
    obtain ⟨T', ρ', a2⟩ := a1.freeze (os := [.list (Tr.pvs p0), .list [.o 0]]) (xs := Tr.pvs p1) (x := "words") a0 (by rw [R.nr]; exact Nat.zero_le _) (lt_pvs _ _) (lookup_lt (loclt 2 (Nat.le_refl _) _)) rfl (fun k po e => by
      match k, e with
      | 0, e => cases e; exact ⟨_, rfl, lt_pvs _ _⟩
      | 1, e => cases e; exact ⟨_, rfl, rfl⟩)
    rw [pvs_rev] at a2
    exact fin (p' := .one p0) (b := p1.reverse) a2 hz.1 (by rw [List.length_reverse]; exact Nat.le_trans hz.2 hm)
  | three p0 p1 p2 =>
    refine d_xs (pre := [(drG w).pop]) (rest := [(drG w).clo]) a (dr_gk R a.g.ok) (x_pop3 w (iS S) u x k (Tr.pvs p0) (Tr.pvs p1) (Tr.pvs p2)) ⟨by show 3 ≤ 1000000; decide, trivial⟩ rfl fun s1 a1 => ?_
    obtain ⟨T', ρ', a2⟩ := a1.freeze (os := [.list (Tr.pvs p0), .list [.o 2, .o 0], .list (Tr.pvs p1)]) (xs := Tr.pvs p2) (x := "words") a0 (by rw [R.nr]; exact Nat.zero_le _) (lt_pvs _ _) (lookup_lt (loclt 3 (by decide) _)) rfl (fun k po e => by
      match k, e with
      | 0, e => cases e; exact ⟨_, rfl, lt_pvs _ _⟩
      | 1, e => cases e; exact ⟨_, rfl, rfl⟩
      | 2, e => cases e; exact ⟨_, rfl, lt_pvs _ _⟩)
    rw [pvs_rev] at a2
    exact fin (p' := .two p0 p1) (b := p2.reverse) a2 ⟨hz.1, hz.2.1⟩ (by rw [List.length_reverse]; exact Nat.le_trans hz.2.2 hm)
theorem dr_turn (R : DrC w c) (a0 : ∀ b ∈ c.T, ∃ o, s0.heap.get? b = some o) {p : TP} (a : DAt c s0 It l vs i ⟨drL (iS S) u [("x", .i x)], p.pl.objs⟩ T ρ s) (hz : p.sz m) (hm : m ≤ 1000) :
    wpAny c.M c.A (execs (drG w).body c.env) (Done w c s0 It l vs i S (dstep x (p, u))) E s := by
  obtain ⟨k0, k8⟩ := fmod_b x (m := 8) (by decide)
  obtain ⟨r1, r2⟩ := pl_refs p
  unfold DrX.body
  refine d_xs (pre := [(drG w).k1]) (rest := [_]) a (dr_gk R a.g.ok) (x_k1 w (iS S) u x p.pl.objs) ⟨by decide, trivial⟩ rfl fun s1 a1 => ?_
  have e1 := x_t1 w (iS S) u x (x.fmod 8) p.pl
  have e2 := x_t2 w (iS S) u x (x.fmod 8) p.pl
  have e3 := x_t3 w (iS S) u x (x.fmod 8) p.pl.objs
  rw [r1] at e1 e2
  have top := pl_top hz hm
  have neg1 : -(-1 : Int) ≤ lnI p.pl.refs := by rw [r1]; exact tp_n p
  have ladd : ∀ t, (p.pl.add t).objs.length = p.pl.objs.length := fun t => by cases p <;> rfl
  refine d_if a1 ((pe_ok a1.g.ok (dr_gk R a1.g.ok) 60).t _ _ _ e1 ⟨r2, trivial⟩) fun s2 a2 => ?_
  cases b1 : (x.fmod 8 == 0 && (decide (p.n < 3) && true)) with
  | true =>
    have hd : dstep x (p, u) = (p.opn, u) := if_pos b1
    rw [hd, if_pos rfl, ap_shape w]
    have hn : p.n < 3 := by
      obtain ⟨_, h⟩ := Bool.and_eq_true_iff.mp b1
      obtain ⟨h, _⟩ := Bool.and_eq_true_iff.mp h
      exact of_decide_eq_true h
    exact d_sx (f := .next) a2 (sx_open R a2.g.ok hn) fun T' ρ' s3 a3 => wpAny_execs_nil ⟨rfl, T', ρ', DAt.drop (L := drL (iS S) u []) (r := xk x (x.fmod 8)) a3⟩
  | false =>
    rw [if_neg (by simp)]
    refine d_if a2 ((pe_ok a2.g.ok (dr_gk R a2.g.ok) 60).t _ _ _ e2 ⟨r2, trivial⟩) fun s3 a3 => ?_
    cases b2 : (x.fmod 8 == 1 && (decide (p.n > 1) && true)) with
    | true =>
      have hd : dstep x (p, u) = (p.clo, u) := by unfold dstep; dsimp only; rw [b1, if_neg (by simp), if_pos b2]
      rw [hd, if_pos rfl]
      have hn : p.n > 1 := by
        obtain ⟨_, h⟩ := Bool.and_eq_true_iff.mp b2
        obtain ⟨h, _⟩ := Bool.and_eq_true_iff.mp h
        exact of_decide_eq_true h
      exact dr_close R a0 a3 hz hm hn
    | false =>
      rw [if_neg (by simp)]
      refine d_if a3 ((pe_ok a3.g.ok (dr_gk R a3.g.ok) 60).t _ _ _ e3 trivial) fun s4 a4 => ?_
      cases b3 : (x.fmod 8 == 2 && (decide (u < 2) && true)) with
      | true =>
        have hd : dstep x (p, u) = (p.add (.w wUnit), u + 1) := by unfold dstep; dsimp only; rw [b1, if_neg (by simp), b2, if_neg (by simp), if_pos b3]
        rw [hd, if_pos rfl, ← List.append_nil (drG w).b3]
        refine d_xs (rest := []) a4 (dr_gk R a4.g.ok) (x_b3 w (iS S) u x (x.fmod 8) p.pl) ⟨by decide, neg1, r2, top, trivial⟩ (ladd _) fun s5 a5 => wpAny_execs_nil ⟨rfl, T, ρ, ?_⟩
        rw [show (PV.s "unit") = (Tr.w wUnit).pv from by kernel_rfl, ← pl_add] at a5
        exact DAt.drop (L := drL (iS S) (u + 1) []) (r := xk x (x.fmod 8)) a5
      | false =>
        have hd : dstep x (p, u) = (p.add (.w (wordD x (x.fmod 8))), u) := by unfold dstep; dsimp only; rw [b1, if_neg (by simp), b2, if_neg (by simp), b3, if_neg (by simp)]
        rw [hd, if_neg (by simp), ← List.append_nil (drG w).b4]
        obtain ⟨j0, j4'⟩ := fmod_b (x.fdiv 8) (m := 4) (by decide)
        refine d_xs (rest := []) a4 (dr_gk R a4.g.ok) (x_b4 w (iS S) u x (x.fmod 8) p.pl) ⟨by decide, by decide, by decide, j0, j4', by show 4 ≤ 1000000; decide, by decide, neg1, r2, k0, k8, by show 8 ≤ 1000000; decide, top, trivial⟩ (ladd _) fun s5 a5 => wpAny_execs_nil ⟨rfl, T, ρ, ?_⟩
        rw [w8_is x k0 k8, show (PV.s (tx (wordD x (x.fmod 8)))) = (Tr.w (wordD x (x.fmod 8))).pv from rfl, ← pl_add] at a5
        exact DAt.drop (L := drL (iS S) u []) (r := xkw x (x.fmod 8) "word" (W4 x)) a5
end
end X4
section X5
/-! ## _law_drawn -/
noncomputable def drawNs (S : List Int) : List Int := ([0, 7, 0, 15, 23, 1, 4, 1, 6] ++ S.take 10) ++ [0, 1, 6, 3, 2]
noncomputable def drawSt (ns : List Int) : TP × Int := ns.foldl (fun st x => dstep x st) (.one [], 0)
noncomputable def shut : TP → List Tr
  | .one a => a
  | .two a b => madeT b.reverse :: a
  | .three a b c => madeT (madeT c.reverse :: b).reverse :: a
noncomputable def drawn (S : List Int) : List Tr := (shut (drawSt (drawNs S)).1).reverse
theorem sz_step {p : TP} {u x : Int} {n : Nat} (h : p.sz n) : (dstep x (p, u)).1.sz (n + 1) := by
  unfold dstep
  dsimp only
  split
  · exact sz_up (sz_opn h)
  · split
    · exact sz_clo h
    · split
      · exact sz_add h
      · exact sz_add h
theorem drawSt_sz : ∀ ns : List Int, (drawSt ns).1.sz ns.length := by
  have key : ∀ (ns : List Int) (st : TP × Int) (n : Nat), st.1.sz n → (ns.foldl (fun st x => dstep x st) st).1.sz (n + ns.length) := by
    intro ns
    induction ns with
    | nil => intro st n h; exact h
    | cons x r ih =>
      intro st n h
      have := ih (dstep x st) (n + 1) (sz_step (p := st.1) (u := st.2) h)
      rw [List.length_cons, ← Nat.add_assoc, Nat.add_right_comm]; exact this
  intro ns
  have := key ns (.one [], 0) 0 (Nat.le_refl _)
  rwa [Nat.zero_add] at this
theorem drawSt_take {ns : List Int} {i : Nat} {n : Int} (h : ns[i]? = some n) : drawSt (ns.take (i + 1)) = dstep n (drawSt (ns.take i)) := by
  obtain ⟨hl, e⟩ := List.getElem?_eq_some_iff.mp h
  unfold drawSt
  rw [List.take_succ_eq_append_getElem hl, List.foldl_append, e]; rfl
theorem ints_get {T : List Addr} {ρ : List (Addr × Addr)} {h : Heap} : ∀ {ns : List Int} {vs : List Value}, IsL T ρ h (iS ns) vs → ∀ (i : Nat) (n : Int), ns[i]? = some n → ∃ t, vs[i]? = some (.int n t)
  | [], _, _, i, n, e => by simp at e
  | a :: r, _, .cons x y, 0, n, e => by
    have : a = n := by simpa using e
    subst this
    obtain ⟨u, rfl⟩ := Is.ii x
    exact ⟨u, rfl⟩
  | a :: r, _, .cons x y, i + 1, n, e => ints_get y i n (by simpa using e)
/-- piles, units = ([[]], 0) -/
structure SeX where
  a : Str
  pa : Pos
  b : Str
  pb : Pos
  k : Nat
  pt : Pos
  p1 : Pos
  p2 : Pos
  z : Int
  kz : Nat
  pz : Pos
  k2 : Nat
  p3 : Pos
  p4 : Pos
noncomputable def SeX.tg (r : SeX) : Expr := .Tuple [.Name r.a r.pa, .Name r.b r.pb] r.k r.pt
noncomputable def SeX.vl (r : SeX) : Expr := .Tuple [.List [.List [] r.p1] r.p2, .Constant (.int r.z) r.kz r.pz] r.k2 r.p3
noncomputable def SeX.st (r : SeX) : Stmt := .Assign [r.tg] r.vl r.p4
noncomputable def seX : Stmt → Option SeX
  | .Assign [.Tuple [.Name a pa, .Name b pb] k pt] (.Tuple [.List [.List _ p1] p2, .Constant (.int z) kz pz] k2 p3) p4 => some ⟨a, pa, b, pb, k, pt, p1, p2, z, kz, pz, k2, p3, p4⟩
  | _ => none
theorem se_some (w : Wn) : (seX (drG w).s1).isSome = true := by kernel_rfl
noncomputable def seG (w : Wn) : SeX := (seX (drG w).s1).get (se_some w)
theorem se_shape (w : Wn) : (drG w).s1 = (seG w).st := by kernel_rfl
theorem se_good (w : Wn) : ((seG w).z == 0) = true := by kernel_rfl
theorem se_sw (w : Wn) : swOf (drCfg w) (seG w).tg (seG w).vl = some (some (["piles", "units"] : List Str)) := by kernel_rfl
theorem dr_fold (w : Wn) (env : Env) (x : Value) : foldedSetIterable (drG w).it env x = pure x := by kernel_rfl
theorem dr_def (w : Wn) : (isDef (WW w).K 782 (drFd w) && hasBody (drFd w)) = true := by kernel_rfl
theorem dr_bind (w : Wn) (a : Value) (S : Setting) (sz tk : Nat) : (runAl (WW w).K S 200 sz tk (bindArgs (drFd w) ⟨[a], []⟩)).map (·.1) = some ([("script", a)] : List (Str × Value)) := by kernel_rfl
theorem dr_nms (w : Wn) : (["script"] : List Str).all (fun x => (drFd w).scope.names.lookup x == some .local) = true := by kernel_rfl
theorem se_ok {w : Wn} {c : Fc} (R : DrC w c) {S : List PV} : SxG c (drG w).s1 ⟨[("script", .l S)], []⟩ .next ⟨drL S 0 [], (Pl.one []).objs⟩ := by
  rw [se_shape w]
  have kn : ∀ x ∈ (["piles", "units"] : List Str), c.env.kindOf x = some .local := fun x hx => by
    unfold Env.kindOf; rw [R.hs]
    have h := List.all_eq_true.mp (dr_names w)
    rcases List.mem_cons.mp hx with rfl | hx
    · exact beq_iff_eq.mp (h _ (.tail _ (.head _)))
    · rcases List.mem_singleton.mp hx with rfl; exact beq_iff_eq.mp (h _ (.tail _ (.tail _ (.head _))))
  have inner : ArgsG c [.List [] (seG w).p1] ⟨[("script", .l S)], []⟩ [.o 0] ⟨[("script", .l S)], [.list []]⟩ :=
    argsg_cons (evg_list (V1 := ⟨[("script", .l S)], []⟩) (ps := []) (args_nil.g R.ok rfl) (by decide)) (fun T ρ ok => (args_nil (c := c.at T ρ)).g ok rfl) rfl
  have ag : ArgsG c [.List [.List [] (seG w).p1] (seG w).p2, .Constant (.int (seG w).z) (seG w).kz (seG w).pz] ⟨[("script", .l S)], []⟩ [.o 1, .i 0] ⟨[("script", .l S)], [.list [], .list [.o 0]]⟩ := by
    refine argsg_cons (V1 := ⟨[("script", .l S)], [.list [], .list [.o 0]]⟩) (evg_list inner (by show 1 ≤ 1000; decide)) (fun T ρ ok => ?_) rfl
    rw [beq_iff_eq.mp (se_good w)]
    exact argsg_cons (c := c.at T ρ) (ev_int.g ok rfl) (fun T' ρ' ok' => (args_nil (c := (c.at T ρ).at T' ρ')).g ok' rfl) rfl
  exact sxg_unpackS (xs := ["piles", "units"]) R.room.handled rfl kn (evg_tuple ag (by show 2 ≤ 1000; decide)) rfl (swOf_is (mkCfg_ok (t := tabs) R.ok R.e R.room (by decide) R.hs (tabs_ok w)) (se_sw w))
theorem tp_n3 (p : TP) : p.n.toNat ≤ 3 := by
  cases p with
  | one a => show (1 : Int).toNat ≤ 3; decide
  | two a b => show (2 : Int).toNat ≤ 3; decide
  | three a b c => show (3 : Int).toNat ≤ 3; decide
section
variable {w : Wn} {c : Fc} {s0 s : Shared} {T : List Addr} {ρ : List (Addr × Addr)} {S : List Int} {u : Int} {E : Value → Shared → Prop} {Q : Flow → Shared → Prop} {p0 p1 p2 b : List Tr} {p : TP}
theorem sh_fin (R : DrC w c) (a : BAt c s0 ⟨drL (iS S) u [("words", .l (Tr.pvs b))], p.pl.objs⟩ T ρ s) (hz : p.sz 103) (hb : b.length ≤ 1000) (k : ∀ s', BAt c s0 ⟨drL (iS S) u [], (p.add (madeT b)).pl.objs⟩ T ρ s' → Q .next s') : wpAny c.M c.A (execs [(drG w).wclo] c.env) Q E s := by
  have hl : (p.pl.add (mdP (Tr.pvs b))).objs.length = p.pl.objs.length := by cases p <;> rfl
  obtain ⟨r1, r2⟩ := pl_refs p
  refine b_xs (rest := []) a (dr_gk R a.g.ok) (x_wclo w (iS S) u (Tr.pvs b) p.pl) ⟨by decide, by rw [r1]; exact tp_n p, r2, ⟨b, rfl, Nat.le_trans hb (by decide)⟩, pl_top hz (by decide), trivial⟩ hl fun s' a' => wpAny_execs_nil (k s' ?_)
  rw [mdP_pv, ← pl_add] at a'
  exact BAt.drop (L := drL (iS S) u []) (r := [("words", .l (Tr.pvs b))]) a'
theorem sh_loc {n : Nat} (hn : 2 ≤ n) (q : PV) : ∀ z ∈ drL (iS S) u [("words", q)], z.1 ≠ ("words" : Str) → z.2.lt n = true := fun z hz hw => by
  rcases List.mem_cons.mp hz with rfl | hz
  · exact lt_ints n S
  rcases List.mem_cons.mp hz with rfl | hz
  · rfl
  rcases List.mem_cons.mp hz with rfl | hz
  · exact decide_eq_true (Nat.lt_of_lt_of_le (by decide) hn)
  rcases List.mem_singleton.mp hz with rfl
  exact absurd rfl hw
theorem sh_two (R : DrC w c) (a0 : ∀ b ∈ c.T, ∃ o, s0.heap.get? b = some o) (a : BAt c s0 ⟨drL (iS S) u [], (TP.two p0 p1).pl.objs⟩ T ρ s) (h0 : p0.length ≤ 103) (h1 : p1.length ≤ 103) (k : ∀ T ρ s', BAt c s0 ⟨drL (iS S) u [], (TP.one (madeT p1.reverse :: p0)).pl.objs⟩ T ρ s' → Q .next s') : wpAny c.M c.A (execs [(drG w).wpop, (drG w).wclo] c.env) Q E s := by
  refine b_xs (pre := [(drG w).wpop]) (rest := [(drG w).wclo]) a (dr_gk R a.g.ok) (x_wpop2 w (iS S) u (Tr.pvs p0) (Tr.pvs p1)) ⟨by show 2 ≤ 1000000; decide, trivial⟩ rfl fun s3 a3 => ?_
  obtain ⟨T', ρ', a4, _⟩ := a3.freeze (os := [.list (Tr.pvs p0), .list [.o 0]]) (xs := Tr.pvs p1) (x := "words") a0 (by rw [R.nr]; exact Nat.zero_le _) (lt_pvs _ _) (lookup_lt (sh_loc (Nat.le_refl _) _)) rfl (fun k po e => by
    match k, e with
    | 0, e => cases e; exact ⟨_, rfl, lt_pvs _ _⟩
    | 1, e => cases e; exact ⟨_, rfl, rfl⟩)
  rw [pvs_rev] at a4
  exact sh_fin (p := .one p0) (b := p1.reverse) R a4 h0 (by rw [List.length_reverse]; exact Nat.le_trans h1 (by decide)) (k T' ρ')
theorem sh_three (R : DrC w c) (a0 : ∀ b ∈ c.T, ∃ o, s0.heap.get? b = some o) (a : BAt c s0 ⟨drL (iS S) u [], (TP.three p0 p1 p2).pl.objs⟩ T ρ s) (h0 : p0.length ≤ 103) (h1 : p1.length ≤ 103) (h2 : p2.length ≤ 103) (k : ∀ T ρ s', BAt c s0 ⟨drL (iS S) u [], (TP.two p0 (madeT p2.reverse :: p1)).pl.objs⟩ T ρ s' → Q .next s') : wpAny c.M c.A (execs [(drG w).wpop, (drG w).wclo] c.env) Q E s := by
  refine b_xs (pre := [(drG w).wpop]) (rest := [(drG w).wclo]) a (dr_gk R a.g.ok) (x_wpop3 w (iS S) u (Tr.pvs p0) (Tr.pvs p1) (Tr.pvs p2)) ⟨by show 3 ≤ 1000000; decide, trivial⟩ rfl fun s3 a3 => ?_
  obtain ⟨T', ρ', a4, _⟩ := a3.freeze (os := [.list (Tr.pvs p0), .list [.o 2, .o 0], .list (Tr.pvs p1)]) (xs := Tr.pvs p2) (x := "words") a0 (by rw [R.nr]; exact Nat.zero_le _) (lt_pvs _ _) (lookup_lt (sh_loc (show 2 ≤ 3 by decide) _)) rfl (fun k po e => by
    match k, e with
    | 0, e => cases e; exact ⟨_, rfl, lt_pvs _ _⟩
    | 1, e => cases e; exact ⟨_, rfl, rfl⟩
    | 2, e => cases e; exact ⟨_, rfl, lt_pvs _ _⟩)
  rw [pvs_rev] at a4
  exact sh_fin (p := .two p0 p1) (b := p2.reverse) R a4 ⟨h0, h1⟩ (by rw [List.length_reverse]; exact Nat.le_trans h2 (by decide)) (k T' ρ')
noncomputable def ShJ (c : Fc) (s0 : Shared) (S : List Int) (u : Int) (t : List Tr) (m : Nat) (s : Shared) : Prop := ∃ (q : TP) (T : List Addr) (ρ : List (Addr × Addr)), m = q.n.toNat ∧ shut q = t ∧ (∃ j, q.sz j ∧ j + m ≤ 103) ∧ BAt c s0 ⟨drL (iS S) u [], q.pl.objs⟩ T ρ s
/-- what is left open is closed -/
theorem dr_shut (R : DrC w c) (a0 : ∀ b ∈ c.T, ∃ o, s0.heap.get? b = some o) (a : BAt c s0 ⟨drL (iS S) u [], p.pl.objs⟩ T ρ s) (hz : p.sz 100)
    (k : ∀ T ρ s', BAt c s0 ⟨drL (iS S) u [], (TP.one (shut p)).pl.objs⟩ T ρ s' → Q .next s') : wpAny c.M c.A (exec (.While (drG w).tw [(drG w).wpop, (drG w).wclo] [] (drG w).pw) c.env) Q E s := by
  refine wpAny_While (codeAny_whileLoop (ShJ c s0 S u (shut p)) ?_ p.n.toNat ⟨p, T, ρ, rfl, rfl, ⟨100, hz, Nat.add_le_add_left (tp_n3 p) _⟩, a⟩)
  rintro m s1 ⟨q, T, ρ, em, hs, ⟨j, hz, hj⟩, a⟩
  obtain ⟨r1, r2⟩ := pl_refs q
  have e := x_tw w (iS S) u q.pl
  rw [r1] at e
  refine (pe_ok a.g.ok (dr_gk R a.g.ok) 60).t _ _ _ e ⟨r2, trivial⟩ s1 _ _ a.inv fun s2 I2 t2 => ?_
  have a2 : BAt c s0 ⟨drL (iS S) u [], q.pl.objs⟩ T ρ s2 := a.go (.refl a.g.ok) a.len I2 t2
  subst em
  cases q with
  | one b =>
    rw [show decide ((TP.one b).n > 1) = false from rfl, if_neg (by simp)]
    refine wpAny_execs_nil (k T ρ s2 ?_)
    rw [← hs]; exact a2
  | two p0 p1 =>
    rw [show decide ((TP.two p0 p1).n > 1) = true from rfl, if_pos rfl]
    have hj : j + 2 ≤ 103 := hj
    exact sh_two R a0 a2 (Nat.le_trans hz.1 (by omega)) (Nat.le_trans hz.2 (by omega)) fun T ρ s' b => ⟨1, by show 1 < 2; decide, .one (madeT p1.reverse :: p0), T, ρ, rfl, hs, ⟨j + 1, Nat.succ_le_succ hz.1, hj⟩, b⟩
  | three p0 p1 p2 =>
    rw [show decide ((TP.three p0 p1 p2).n > 1) = true from rfl, if_pos rfl]
    have hj : j + 3 ≤ 103 := hj
    exact sh_three R a0 a2 (Nat.le_trans hz.1 (by omega)) (Nat.le_trans hz.2.1 (by omega)) (Nat.le_trans hz.2.2 (by omega)) fun T ρ s' b => ⟨2, by show 2 < 3; decide, .two p0 (madeT p2.reverse :: p1), T, ρ, rfl, hs, ⟨j + 1, ⟨Nat.le_succ_of_le hz.1, Nat.succ_le_succ hz.2.1⟩, hj⟩, b⟩
end
theorem for_listD {c : Fc} {s0 s1 : Shared} {T1 : List Addr} {ρ1 : List (Addr × Addr)} {V : View} {x : Str} {px pf : Pos} {it : Expr} {body : List Stmt} {ns : List Int} {Q : Flow → Shared → Prop} {E : Value → Shared → Prop} (J : Nat → View → Prop) (hh : c.A.handled = none) (hk : c.env.kindOf x = some .local) (b1 : BAt c s0 V T1 ρ1 s1) (hit : EvOk (c.at T1 ρ1) it V (.l (iS ns)) V) (hf : ∀ x, foldedSetIterable it c.env x = pure x)
    (step : ∀ (It l : Addr) (vs : List Value) (i : Nat) (n : Int) (V : View) (T : List Addr) (ρ : List (Addr × Addr)) (s : Shared) (E : Value → Shared → Prop), ns[i]? = some n → J i V → DAt c s0 It l vs (i + 1) { V with loc := put x (.i n) V.loc } T ρ s → wpAny c.M c.A (execs body c.env) (fun fl s' => fl = .next ∧ ∃ V' T' ρ', J (i + 1) V' ∧ DAt c s0 It l vs (i + 1) V' T' ρ' s') E s)
    (j0 : J 0 V) (k : ∀ V' T' ρ' s', J ns.length V' → BAt c s0 V' T' ρ' s' → Q .next s') : wpAny c.M c.A (exec (.For (.Name x px) it body [] pf) c.env) Q E s1 := by
  refine wpAny_For (hit s1 _ E b1.inv fun s2 v I2 t2 i2 => ?_) hf
  obtain ⟨l, ob, arr, n, si, il⟩ := i2.il
  have hv := si.v
  subst hv
  refine wpAny_pyIter_list si.isList ?_
  have b2 : BAt c s0 V T1 ρ1 s2 := b1.go (.refl b1.g.ok) b1.len I2 t2
  have N := it_new (c := c.at T1 ρ1) (l := l) b2.g.ok I2
  have no0 : s0.heap.get? s2.heap.objs.size = none := by
    cases q : s0.heap.get? s2.heap.objs.size with
    | none => rfl
    | some o => obtain ⟨o', e'⟩ := b2.st.keep.there _ o q; rw [N.no] at e'; cases e'
  have lno : l ∉ s2.heap.objs.size :: T1 := fun z => by
    rcases List.mem_cons.mp z with z | z
    · obtain ⟨o, e, _⟩ := si.isList; rw [z, N.no] at e; cases e
    · exact si.out z
  have ls3 := keep_list N.keep (fun z => nomatch z) si.isList
  have hlen : arr.toList.length = ns.length := by have := il.length; rw [List.length_map] at this; omega
  have nIt : s2.heap.objs.size ∉ c.T := fun z => by obtain ⟨o, e⟩ := b2.inv.live _ (b2.g.sub _ z); rw [N.no] at e; exact no e
  exact for_goD (c := c) (x := x) (ns := ns) (vs := arr.toList) J hh hk no0 nIt hlen (fun i n h => ints_get il i n h) (fun i n V T ρ s E hn hV a => step _ _ _ i n V T ρ s E hn hV a) ⟨b2.g.trans b2.st.keep N.g, .head _, N.hm, N.inv, b2.len, b2.g.keep b2.st N.st, N.it, ls3, lno⟩ j0 k
theorem dr_en (S : List Int) : (hd9 ++ (iS S).take 10) ++ tl5 = iS (drawNs S) := by
  unfold drawNs iS
  rw [List.map_append, List.map_append, List.map_take]; rfl
theorem pf_ev {c : Fc} {g : Cfg} {n : Nat} {e : Expr} {V : View} {p : PV} {objs : List PO} {P : List Prop} (ok : c.Ok) (gk : CfgOk c g) (h : pf g n e V = some (p, objs, P)) (hP : AllP P) : EvOk c e V p ⟨V.loc, objs⟩ := (pf_ok ok gk n).e _ _ _ _ _ h hP
theorem hit_gen {c : Fc} {g : Cfg} {it : Expr} (ok : c.Ok) (gk : CfgOk c g) {S : List Int} (hS : S.length ≤ 1000000) {os : List PO} (run : pf g 60 it ⟨drL (iS S) 0 [], os⟩ = some (.l ((hd9 ++ (iS S).take 10) ++ tl5), os, [(0 : Int) ≤ 10, Ln (iS S), Ln hd9, Ln ((iS S).take 10), Ln (hd9 ++ (iS S).take 10), Ln tl5])) : EvOk c it ⟨drL (iS S) 0 [], os⟩ (.l (iS (drawNs S))) ⟨drL (iS S) 0 [], os⟩ := by
  have Ls : Ln (iS S) := by unfold Ln; rw [List.length_map]; exact hS
  have Lt : ((iS S).take 10).length ≤ 10 := by rw [List.length_take]; exact Nat.min_le_left _ _
  have h9 : Ln hd9 := by show 9 ≤ 1000000; decide
  have ht : Ln ((iS S).take 10) := by show _ ≤ 1000000; omega
  have h19 : Ln (hd9 ++ (iS S).take 10) := by
    show (hd9 ++ (iS S).take 10).length ≤ 1000000
    rw [List.length_append]
    have : hd9.length = 9 := rfl
    omega
  have h5 : Ln tl5 := by show 5 ≤ 1000000; decide
  rw [dr_en] at run
  exact pf_ev ok gk run (And.intro (by decide) (And.intro Ls (And.intro h9 (And.intro ht (And.intro h19 (And.intro h5 trivial))))))
theorem dr_for {w : Wn} {c : Fc} {s0 s1 : Shared} {T1 : List Addr} {ρ1 : List (Addr × Addr)} {S : List Int} {px pf : Pos} {it : Expr} {body : List Stmt} {Q : Flow → Shared → Prop} {E : Value → Shared → Prop} (R : DrC w c) (a0 : ∀ b ∈ c.T, ∃ o, s0.heap.get? b = some o) (kn : c.env.kindOf ("x" : Str) = some .local) (b1 : BAt c s0 ⟨drL (iS S) 0 [], (Pl.one []).objs⟩ T1 ρ1 s1)
    (hit : EvOk (c.at T1 ρ1) it ⟨drL (iS S) 0 [], (Pl.one []).objs⟩ (.l (iS (drawNs S))) ⟨drL (iS S) 0 [], (Pl.one []).objs⟩) (hf : ∀ x, foldedSetIterable it c.env x = pure x) (hb : body = (drG w).body) (hns : (drawNs S).length ≤ 24)
    (k : ∀ T ρ s', BAt c s0 ⟨drL (iS S) (drawSt (drawNs S)).2 [], (drawSt (drawNs S)).1.pl.objs⟩ T ρ s' → Q .next s') : wpAny c.M c.A (exec (.For (.Name "x" px) it body [] pf) c.env) Q E s1 := by
  refine for_listD (fun i V => V = ⟨drL (iS S) (drawSt ((drawNs S).take i)).2 [], (drawSt ((drawNs S).take i)).1.pl.objs⟩) R.room.handled kn b1 hit hf (fun It l vs i n V T ρ s E hn hV a => ?_) ?_ fun V T ρ s4 hV b4 => ?_
  · subst hV
    subst hb
    have hsz := drawSt_sz ((drawNs S).take i)
    refine wpAny_mono (dr_turn (m := ((drawNs S).take i).length) (u := (drawSt ((drawNs S).take i)).2) (x := n) R a0 a hsz (by rw [List.length_take]; omega)) (fun fl s' h => ?_) fun _ _ e => e
    obtain ⟨rfl, T', ρ', a'⟩ := h
    exact ⟨rfl, _, T', ρ', by rw [drawSt_take hn], a'⟩
  · rw [List.take_zero]; rfl
  · subst hV
    rw [List.take_length] at b4
    exact k T ρ s4 b4
theorem sz_le : ∀ (p : TP) (n m : Nat), n ≤ m → p.sz n → p.sz m := fun p n m h hz => by
  cases p with
  | one a => exact Nat.le_trans hz h
  | two a b => exact ⟨Nat.le_trans hz.1 h, Nat.le_trans hz.2 h⟩
  | three a b c => exact ⟨Nat.le_trans hz.1 h, Nat.le_trans hz.2.1 h, Nat.le_trans hz.2.2 h⟩
theorem drawNs_len (S : List Int) : (drawNs S).length ≤ 24 := by unfold drawNs; simp; omega
/-- the def, its parts known -/
theorem dr_all {c : Fc} {g : Cfg} {s0 : Shared} {Q : Flow → Shared → Prop} {E : Value → Shared → Prop} {S : List Int} (r : DrX) (ok : c.Ok) (gk : ∀ T ρ, (c.at T ρ).Ok → CfgOk (c.at T ρ) g) (b0 : BAt c s0 ⟨[("script", .l (iS S))], []⟩ c.T c.ρ s0) (hx : r.x = ("x" : Str))
    (h1 : SxG c r.s1 ⟨[("script", .l (iS S))], []⟩ .next ⟨drL (iS S) 0 [], (Pl.one []).objs⟩)
    (h2 : ∀ (T1 : List Addr) (ρ1 : List (Addr × Addr)) (s1 : Shared) (Q : Flow → Shared → Prop) (E : Value → Shared → Prop), BAt c s0 ⟨drL (iS S) 0 [], (Pl.one []).objs⟩ T1 ρ1 s1 → (∀ T ρ s', BAt c s0 ⟨drL (iS S) (drawSt (drawNs S)).2 [], (drawSt (drawNs S)).1.pl.objs⟩ T ρ s' → Q .next s') → wpAny c.M c.A (exec (.For (.Name "x" r.px) r.it r.body [] r.pf) c.env) Q E s1)
    (h3 : ∀ (T1 : List Addr) (ρ1 : List (Addr × Addr)) (s1 : Shared) (Q : Flow → Shared → Prop) (E : Value → Shared → Prop), BAt c s0 ⟨drL (iS S) (drawSt (drawNs S)).2 [], (drawSt (drawNs S)).1.pl.objs⟩ T1 ρ1 s1 → (∀ T ρ s', BAt c s0 ⟨drL (iS S) (drawSt (drawNs S)).2 [], (TP.one (shut (drawSt (drawNs S)).1)).pl.objs⟩ T ρ s' → Q .next s') → wpAny c.M c.A (exec (.While r.tw [r.wpop, r.wclo] [] r.pw) c.env) Q E s1)
    (h4 : ∀ a : List PV, xs g 60 [r.ret] [] ⟨drL (iS S) (drawSt (drawNs S)).2 [], (Pl.one a).objs⟩ = some (.ret (.o 0), [], ⟨drL (iS S) (drawSt (drawNs S)).2 [], (Pl.one a).objs⟩, [(0 : Int) ≤ 0, (0 : Int) < lnI [.o 0], Ln [.o 0]]))
    (k : ∀ s' fl T ρ, BAt c s0 ⟨[], (TP.one (shut (drawSt (drawNs S)).1)).pl.objs⟩ T ρ s' → FlIs (c.at T ρ) s'.heap (.ret (.o 0)) fl → Q fl s') : wpAny c.M c.A (execs r.all c.env) Q E s0 := by
  unfold DrX.all
  refine b_sx b0 (c := c) h1 fun T1 ρ1 s1 b1 => ?_
  refine wpAny_execs_cons ?_
  rw [hx]
  refine h2 T1 ρ1 s1 _ _ b1 fun T ρ s4 b4 => ?_
  refine wpAny_execs_cons (h3 T ρ s4 _ _ b4 fun T ρ s5 b5 => ?_)
  refine (sx_sound b5.g.ok (gk _ _ b5.g.ok) 60).2 _ _ _ _ _ _ _ (h4 (Tr.pvs (shut (drawSt (drawNs S)).1))) ⟨by decide, by decide, by show 1 ≤ 1000000; decide, trivial⟩ s5 _ E b5.inv fun s6 fl I6 t6 hf => ?_
  have b6 := b5.go (.refl b5.g.ok) b5.len I6 t6
  exact k s6 fl T ρ ⟨b6.g, Inv.drop (l := []) b6.inv, b6.len, b6.st⟩ hf
theorem dr_body {w : Wn} {c : Fc} {S : List Int} (hS : S.length ≤ 1000000) (R : DrC w c) : ExG c (drG w).all ⟨[("script", .l (iS S))], []⟩ (.ret (.o 0)) ⟨[], (TP.one (shut (drawSt (drawNs S)).1)).pl.objs⟩ := by
  intro s0 Q E I hl k
  have a0 := I.live
  have kn : c.env.kindOf ("x" : Str) = some .local := by
    unfold Env.kindOf; rw [R.hs]; exact beq_iff_eq.mp (List.all_eq_true.mp (dr_names w) _ (.tail _ (.tail _ (.tail _ (.head _)))))
  have z := drawSt_sz (drawNs S)
  have hn := drawNs_len S
  have gk : ∀ T ρ, (c.at T ρ).Ok → CfgOk (c.at T ρ) (drCfg w) := fun T ρ ok => dr_gk R ok
  have f1 := se_ok (c := c) (S := iS S) R
  have f2 := x_it w (iS S) 0 (Pl.one []).objs
  have f3 := dr_fold w c.env
  have f4 := @dr_for w c s0
  have f5 := @dr_shut w c s0
  have f6 := x_ret w (iS S) (drawSt (drawNs S)).2
  have f7 := beq_iff_eq.mp (dr_x w)
  generalize drCfg w = g at gk f2 f6
  generalize drG w = r at f1 f2 f3 f4 f5 f6 f7 ⊢
  exact dr_all (g := g) (S := S) r R.ok gk ⟨.refl R.ok, I, hl, .refl s0⟩ f7 f1
    (fun T1 ρ1 s1 Q E b1 k => f4 R a0 kn b1 (hit_gen b1.g.ok (gk _ _ b1.g.ok) hS f2) f3 rfl hn k)
    (fun T1 ρ1 s1 Q E b1 k => f5 R a0 b1 (sz_le _ _ _ (Nat.le_trans hn (by decide)) z) k)
    f6 fun s' fl T ρ b hf => k s' fl T ρ b.g b.len b.inv b.st hf
theorem spec_drawn (w : Wn) (S : List Int) (hS : S.length ≤ 1000000) : SpecP (WW w) 3 (.ref 782) [.l (iS S)] (.l (Tr.pvs (drawn S))) := by
  have e0 : (.l (Tr.pvs (drawn S)) : PV) = .l (Tr.pvs (shut (drawSt (drawNs S)).1)).reverse := by rw [pvs_rev]; rfl
  rw [e0]
  have sk : SpecK (WW w) 3 (.ref 782) [.l (iS S)] [] [] (.o 0) (TP.one (shut (drawSt (drawNs S)).1)).pl.objs := by
    refine call_defB (fl := .ret (.o 0)) (loc := [("script", .l (iS S))]) (defIs_of (dr_def w)) (fun T ρ s vs kvs B hT ia ek ik => ?_) fun c ok e room hs => ⟨⟨[], (TP.one (shut (drawSt (drawNs S)).1)).pl.objs⟩, ?_, rfl⟩
    · cases kvs with
      | cons _ _ => cases ek
      | nil =>
        obtain ⟨v, rfl, i⟩ := isL1 ia
        exact bind_al B.k (dr_bind w _ _ _ _) (dr_nms w) (loc_binds rfl (.cons i .nil) (nodupB_ok (l := ["script"]) (by decide)))
    · rw [show bodyOf (fdOf (WW w).K 782) = _ from dr_shape w]
      intro s0 Q E I hl k
      exact dr_body hS ⟨ok, e, room, hs, List.length_eq_zero_iff.mp hl.symm⟩ s0 Q E I hl k
  exact spec_freeze sk (by show (PV.ltL 0 (iS S) && true) = true; rw [lt_ints]; rfl) rfl (lt_pvs 0 _)
end X5
section Y1
/-! ## what is drawn is small -/
theorem lett_in (x : Int) : lett x ∈ ([[97], [98], [35], [126, 38]] : List (List Nat)) := by
  obtain ⟨h1, h2⟩ := fmod_b (x.fdiv 8) (m := 4) (by decide)
  have : (j4 x).toNat < 4 := by show ((x.fdiv 8).fmod 4).toNat < 4; omega
  unfold lett
  generalize (j4 x).toNat = m at this
  match m, this with
  | 0, _ => decide
  | 1, _ => decide
  | 2, _ => decide
  | 3, _ => decide
theorem wordD_in (x : Int) {k : Int} (h1 : 0 ≤ k) (h2 : k < 8) : wordD x k ∈ ([wCat, wSwap, wDip, wRun, [97], [98], [35], [126, 38]] : List (List Nat)) := by
  have hl := lett_in x
  unfold wordD
  have : k.toNat < 8 := by omega
  generalize k.toNat = m at this
  generalize lett x = y at hl
  match m, this with
  | 0, _ => exact .head _
  | 1, _ => exact .tail _ (.head _)
  | 2, _ => exact .tail _ (.tail _ (.head _))
  | 3, _ => exact .head _
  | 4, _ => exact .tail _ (.head _)
  | 5, _ => exact .tail _ (.tail _ (.head _))
  | 6, _ => exact .tail _ (.tail _ (.tail _ (.head _)))
  | 7, _ => exact .tail _ (.tail _ (.tail _ (.tail _ hl)))
theorem small_words : ∀ y ∈ ([wCat, wSwap, wDip, wRun, [97], [98], [35], [126, 38]] : List (List Nat)), vocab.contains y = true ∧ y ≠ wUnit := by decide
theorem qs_rev (ts : List Tr) : Tr.qs ts.reverse = Tr.qs ts := by
  induction ts with
  | nil => rfl
  | cons t r ih => rw [List.reverse_cons, qs_app, ih]; show Tr.qs r + (t.q + 0) = t.q + Tr.qs r; omega
theorem nus_rev (ts : List Tr) : Tr.nus ts.reverse = Tr.nus ts := by
  induction ts with
  | nil => rfl
  | cons t r ih => rw [List.reverse_cons, nus_app, ih]; show Tr.nus r + (t.nu + 0) = t.nu + Tr.nus r; omega
theorem nls_rev (ts : List Tr) : Tr.nls ts.reverse = Tr.nls ts := by
  induction ts with
  | nil => rfl
  | cons t r ih => rw [List.reverse_cons, nls_app, ih]; show Tr.nls r + (t.nl + 0) = t.nl + Tr.nls r; omega
theorem made_q (ts : List Tr) : (madeT ts).q ≤ 5 * (1 + Tr.qs ts) := by
  unfold madeT
  split
  · split
    · exact Nat.le_refl _
    · show 5 ≤ 5 * (1 + (5 + 0)); decide
  · exact Nat.le_refl _
noncomputable def TP.q : TP → Nat
  | .one a => Tr.qs a
  | .two a b => Tr.qs a + 5 * (1 + Tr.qs b)
  | .three a b c => Tr.qs a + 5 * (1 + (Tr.qs b + 5 * (1 + Tr.qs c)))
noncomputable def TP.nu : TP → Nat
  | .one a => Tr.nus a
  | .two a b => Tr.nus a + Tr.nus b
  | .three a b c => Tr.nus a + Tr.nus b + Tr.nus c
noncomputable def TP.nl : TP → Nat
  | .one a => Tr.nls a
  | .two a b => Tr.nls a + Tr.nls b
  | .three a b c => Tr.nls a + Tr.nls b + Tr.nls c
noncomputable def TP.wf : TP → Prop
  | .one a => ∀ x ∈ a, x.wf = true
  | .two a b => (∀ x ∈ a, x.wf = true) ∧ ∀ x ∈ b, x.wf = true
  | .three a b c => (∀ x ∈ a, x.wf = true) ∧ (∀ x ∈ b, x.wf = true) ∧ ∀ x ∈ c, x.wf = true
structure Fits (p : TP) (u : Int) (n : Nat) : Prop where
  q : p.q ≤ 125 * n
  l : p.nl ≤ n
  nu : (p.nu : Int) = u
  u : u ≤ 2
  wf : p.wf
theorem wf_cons {t : Tr} {a : List Tr} (h : t.wf = true) (g : ∀ x ∈ a, x.wf = true) : ∀ x ∈ t :: a, x.wf = true := fun x hx => by
  rcases List.mem_cons.mp hx with rfl | hx
  · exact h
  · exact g x hx
theorem wf_made {b : List Tr} (g : ∀ x ∈ b, x.wf = true) : (madeT b.reverse).wf = true := made_wf fun z hz => g z (List.mem_reverse.mp hz)
theorem fits_add {p : TP} {u : Int} {n : Nat} {y : List Nat} (h : Fits p u n) (hv : vocab.contains y = true) (hu : u + (if y = wUnit then 1 else 0) ≤ 2) : Fits (p.add (.w y)) (u + (if y = wUnit then 1 else 0)) (n + 1) := by
  have e1 : (Tr.w y).q = 5 := rfl
  have e2 : (Tr.w y).nl = 1 := rfl
  have e3 : ((Tr.w y).nu : Int) = if y = wUnit then 1 else 0 := by show (((if y = wUnit then 1 else 0 : Nat)) : Int) = _; split <;> rfl
  have hq := h.q
  have hl := h.l
  have hn := h.nu
  cases p with
  | one a =>
    refine ⟨?_, ?_, ?_, hu, wf_cons hv h.wf⟩
    · have hq : Tr.qs a ≤ 125 * n := hq
      show 5 + Tr.qs a ≤ _; omega
    · have hl : Tr.nls a ≤ n := hl
      show 1 + Tr.nls a ≤ _; omega
    · have hn : ((Tr.nus a : Nat) : Int) = u := hn
      show (((Tr.w y).nu + Tr.nus a : Nat) : Int) = _; omega
  | two a b =>
    refine ⟨?_, ?_, ?_, hu, h.wf.1, wf_cons hv h.wf.2⟩
    · have hq : Tr.qs a + 5 * (1 + Tr.qs b) ≤ 125 * n := hq
      show Tr.qs a + 5 * (1 + (5 + Tr.qs b)) ≤ _; omega
    · have hl : Tr.nls a + Tr.nls b ≤ n := hl
      show Tr.nls a + (1 + Tr.nls b) ≤ _; omega
    · have hn : ((Tr.nus a + Tr.nus b : Nat) : Int) = u := hn
      show ((Tr.nus a + ((Tr.w y).nu + Tr.nus b) : Nat) : Int) = _; omega
  | three a b c =>
    refine ⟨?_, ?_, ?_, hu, h.wf.1, h.wf.2.1, wf_cons hv h.wf.2.2⟩
    · have hq : Tr.qs a + 5 * (1 + (Tr.qs b + 5 * (1 + Tr.qs c))) ≤ 125 * n := hq
      show Tr.qs a + 5 * (1 + (Tr.qs b + 5 * (1 + (5 + Tr.qs c)))) ≤ _; omega
    · have hl : Tr.nls a + Tr.nls b + Tr.nls c ≤ n := hl
      show Tr.nls a + Tr.nls b + (1 + Tr.nls c) ≤ _; omega
    · have hn : ((Tr.nus a + Tr.nus b + Tr.nus c : Nat) : Int) = u := hn
      show ((Tr.nus a + Tr.nus b + ((Tr.w y).nu + Tr.nus c) : Nat) : Int) = _; omega
theorem fits_opn {p : TP} {u : Int} {n : Nat} (h : Fits p u n) : Fits p.opn u (n + 1) := by
  have hq := h.q
  have hl := h.l
  have hn := h.nu
  cases p with
  | one a =>
    refine ⟨?_, Nat.le_succ_of_le (by show Tr.nls a + 0 ≤ n; exact hl), (by show ((Tr.nus a + 0 : Nat) : Int) = u; exact hn), h.u, h.wf, fun _ h => nomatch h⟩
    have hq : Tr.qs a ≤ 125 * n := hq
    show Tr.qs a + 5 * (1 + 0) ≤ _; omega
  | two a b =>
    refine ⟨?_, Nat.le_succ_of_le (by show Tr.nls a + Tr.nls b + 0 ≤ n; exact hl), (by show ((Tr.nus a + Tr.nus b + 0 : Nat) : Int) = u; exact hn), h.u, h.wf.1, h.wf.2, fun _ h => nomatch h⟩
    have hq : Tr.qs a + 5 * (1 + Tr.qs b) ≤ 125 * n := hq
    show Tr.qs a + 5 * (1 + (Tr.qs b + 5 * (1 + 0))) ≤ _; omega
  | three a b c => exact ⟨by show _ ≤ 125 * (n + 1); exact Nat.le_trans hq (by omega), Nat.le_succ_of_le hl, hn, h.u, h.wf⟩
theorem fits_clo {p : TP} {u : Int} {n : Nat} (h : Fits p u n) : Fits p.clo u n := by
  have hq := h.q
  have hl := h.l
  have hn := h.nu
  cases p with
  | one a => exact h
  | two a b =>
    have m1 := made_q b.reverse
    have m2 := made_nu b.reverse
    have m3 := made_nl b.reverse
    rw [qs_rev] at m1; rw [nus_rev] at m2; rw [nls_rev] at m3
    refine ⟨?_, ?_, ?_, h.u, wf_cons (wf_made h.wf.2) h.wf.1⟩
    · have hq : Tr.qs a + 5 * (1 + Tr.qs b) ≤ 125 * n := hq
      show (madeT b.reverse).q + Tr.qs a ≤ _; omega
    · have hl : Tr.nls a + Tr.nls b ≤ n := hl
      show (madeT b.reverse).nl + Tr.nls a ≤ _; omega
    · have hn : ((Tr.nus a + Tr.nus b : Nat) : Int) = u := hn
      show (((madeT b.reverse).nu + Tr.nus a : Nat) : Int) = _; omega
  | three a b c =>
    have m1 := made_q c.reverse
    have m2 := made_nu c.reverse
    have m3 := made_nl c.reverse
    rw [qs_rev] at m1; rw [nus_rev] at m2; rw [nls_rev] at m3
    refine ⟨?_, ?_, ?_, h.u, h.wf.1, wf_cons (wf_made h.wf.2.2) h.wf.2.1⟩
    · have hq : Tr.qs a + 5 * (1 + (Tr.qs b + 5 * (1 + Tr.qs c))) ≤ 125 * n := hq
      show Tr.qs a + 5 * (1 + ((madeT c.reverse).q + Tr.qs b)) ≤ _; omega
    · have hl : Tr.nls a + Tr.nls b + Tr.nls c ≤ n := hl
      show Tr.nls a + ((madeT c.reverse).nl + Tr.nls b) ≤ _; omega
    · have hn : ((Tr.nus a + Tr.nus b + Tr.nus c : Nat) : Int) = u := hn
      show ((Tr.nus a + ((madeT c.reverse).nu + Tr.nus b) : Nat) : Int) = _; omega
theorem Fits.up {p : TP} {u : Int} {n : Nat} (h : Fits p u n) : Fits p u (n + 1) := ⟨Nat.le_trans h.q (by omega), Nat.le_succ_of_le h.l, h.nu, h.u, h.wf⟩
theorem fits_step {p : TP} {u x : Int} {n : Nat} (h : Fits p u n) : Fits (dstep x (p, u)).1 (dstep x (p, u)).2 (n + 1) := by
  obtain ⟨k0, k8⟩ := fmod_b x (m := 8) (by decide)
  unfold dstep
  dsimp only
  split
  · exact fits_opn h
  · split
    · exact (fits_clo h).up
    · split
      · rename_i g
        obtain ⟨_, g⟩ := Bool.and_eq_true_iff.mp g
        obtain ⟨g, _⟩ := Bool.and_eq_true_iff.mp g
        have g := of_decide_eq_true g
        have := fits_add (y := wUnit) h (by decide) (by rw [if_pos rfl]; omega)
        rw [if_pos rfl] at this
        exact this
      · obtain ⟨hv, hu⟩ := small_words _ (wordD_in x k0 k8)
        have := fits_add (y := wordD x (x.fmod 8)) h hv (by rw [if_neg hu]; have := h.u; omega)
        rw [if_neg hu, Int.add_zero] at this
        exact this
theorem fits_fold : ∀ (ns : List Int) (st : TP × Int) (n : Nat), Fits st.1 st.2 n → Fits (ns.foldl (fun st x => dstep x st) st).1 (ns.foldl (fun st x => dstep x st) st).2 (n + ns.length)
  | [], _, _, h => h
  | x :: r, st, n, h => by
    have := fits_fold r (dstep x st) (n + 1) (fits_step (p := st.1) (u := st.2) h)
    rw [List.length_cons, ← Nat.add_assoc, Nat.add_right_comm]; exact this
theorem shut_clo (p : TP) : TP.one (shut p) = p.clo.clo := by cases p <;> rfl
/-- the program: its words are well made, small, few -/
theorem drawn_ok (S : List Int) : (∀ x ∈ drawn S, x.wf = true) ∧ Tr.qs (drawn S) ≤ 3000 ∧ Tr.nus (drawn S) ≤ 2 ∧ Tr.nls (drawn S) ≤ 24 := by
  have hlen : (drawNs S).length ≤ 24 := by unfold drawNs; simp; omega
  have h0 : Fits (TP.one []) 0 0 := ⟨Nat.le_refl _, Nat.le_refl _, rfl, by decide, fun _ h => nomatch h⟩
  have h := fits_clo (fits_clo (fits_fold (drawNs S) (.one [], 0) 0 h0))
  rw [show ((drawNs S).foldl (fun st x => dstep x st) (TP.one [], 0)) = drawSt (drawNs S) from rfl, ← shut_clo] at h
  have hq : Tr.qs (shut (drawSt (drawNs S)).1) ≤ 125 * (0 + (drawNs S).length) := h.q
  have hl : Tr.nls (shut (drawSt (drawNs S)).1) ≤ 0 + (drawNs S).length := h.l
  have hn : ((Tr.nus (shut (drawSt (drawNs S)).1) : Nat) : Int) = (drawSt (drawNs S)).2 := h.nu
  have hu := h.u
  unfold drawn
  rw [qs_rev, nus_rev, nls_rev]
  exact ⟨fun x hx => h.wf x (List.mem_reverse.mp hx), by omega, by omega, by omega⟩
theorem drawn_bd (S : List Int) : Bd (pots (drawn S)) (Tr.nus (drawn S)) ≤ Mx := by
  obtain ⟨_, hq, hu, _⟩ := drawn_ok S
  refine Nat.le_trans (Bd.mono (Nat.le_trans (pots_qs _) hq) hu) ?_
  show 3000 * 5 ^ 2 ≤ 1000000
  decide
end Y1
section Z1
/-! ## the law -/
theorem spec_line_list (w : Wn) (n : Nat) (ts : List Tr) (hwf : ∀ t ∈ ts, t.wf = true) (hp : 1 + Tr.qs ts ≤ 1000000) (ih : ∀ t ∈ ts, SpecP (WW w) (8 + n) (.ref 787) [t.pv] (.s (tx t.line))) : SpecP (WW w) (8 + n + 1) (.ref 787) [.l (Tr.pvs ts)] (.s (tx (Tr.l ts).line)) := by
    intro objs
    have hlen : ts.length ≤ 1000000 := by have := pots_len ts; have := pots_qs ts; omega
    have g := ll_good w
    have g0 := g
    unfold LlX.good at g
    simp only [Bool.and_eq_true, beq_iff_eq] at g
    obtain ⟨⟨⟨⟨⟨⟨⟨g1, g2⟩, g3⟩, g4⟩, g5⟩, g6⟩, g7⟩, g8⟩ := g
    refine SpecC.spec (spec_body (D := 8 + n) (fl := .ret (.s (tx (Tr.l ts).line))) (loc := [("tree", .l (Tr.pvs ts))]) (ll_def w) rfl (bd1 (ll_bind w)) fun c ok e room hs => ⟨⟨[("tree", .l (Tr.pvs ts))], objs⟩, ?_, rfl⟩)
    have gk := mkCfg_ok (D := 1) (t := tabs) (po := blt _ _) (eo := .none _ _) ok e (room.le (by omega)) (by decide) hs (tabs_ok w)
    rw [← List.take_append_drop 1 (bodyOf (fdOf (WW w).K 787)), show (bodyOf (fdOf (WW w).K 787)).drop 1 = _ from ll_shape w]
    refine xs_app ok gk (ll_l w (Tr.pvs ts) objs) trivial (ex_stop (sx_return ?_) (fun q => nomatch q))
    have hy : EvOk c (.Name (llG w).y (llG w).py) ⟨[("tree", .l (Tr.pvs ts))], objs⟩ (.l (Tr.pvs ts)) ⟨[("tree", .l (Tr.pvs ts))], objs⟩ := by
      refine ev_local ok ?_ (by rw [g4]; decide) (by rw [g4]; rfl)
      unfold Env.kindOf; rw [hs, g4]; exact ll_name w
    have hj : EvOk c (.Name (llG w).j (llG w).pj) ⟨[("tree", .l (Tr.pvs ts))], objs⟩ (.v (.ref 760)) ⟨[("tree", .l (Tr.pvs ts))], objs⟩ := by
      refine ev_glob ok ?_ (by rw [g1]; decide) ?_
      · unfold Env.kindOf; rw [hs, g1]; exact ll_glob w
      · rw [g1, show c.K = (WW w).K from congrArg Wd.K e]; exact ll_jn w
    have hlc := ev_line (llG w) g0 ok e room.of_in1 hy hlen ih
    have jn := jn_trees hwf (by show _ ≤ 1000000; omega)
    have sj : SpecP (WW w) 6 (.ref 760) [.l (ts.map fun t => .s (tx t.line))] (.s (tx (Tr.l ts).line)) := by
      have e1 : (ts.map Tr.line).map (fun l : List Nat => PV.s (tx l)) = ts.map fun t => .s (tx t.line) := by rw [List.map_map]; rfl
      obtain ⟨_, j2, j3⟩ := jn
      rw [map_textOf] at j2 j3
      have := spec_join w (ts.map Tr.line) j2 j3
      rw [e1] at this
      rw [show (Tr.l ts).line = joinL (ts.map Tr.line) from by show joinL (Tr.lines ts) = _; rw [lines_map]]
      exact this
    exact ev_call ok hj (by rw [show c.K = (WW w).K from congrArg Wd.K e]; exact keep_join w) rfl (args_cons ok hlc args_nil rfl) (sj objs c ok e (room.of_in1.le (by omega)))
/-- another look at the same arguments -/
theorem SpecP.conv {W : Wd} {D : Nat} {f : Value} {ps ps' : List PV} {r : PV} (h : SpecP W D f ps' r) (hc : ∀ (T : List Addr) (ρ : List (Addr × Addr)) (h : Heap) (vs : List Value), IsL T ρ h ps vs → IsL T ρ h ps' vs) : SpecP W D f ps r := fun objs c ok e room s vs Q E B lv F O ia hq => h objs c ok e room s vs Q E B lv F O (hc _ _ _ _ ia) hq
theorem is_nil {T : List Addr} {ρ : List (Addr × Addr)} {h : Heap} {v : Value} (i : Is T ρ h (.l []) v) : Is T ρ h (.r []) v := by
  cases i with
  | l n e c d r => exact .r n e c d (by have := r.reverse; simpa using this)
theorem ev_eqdata {c : Fc} {l r : Expr} {pos : Pos} {V V1 V2 : View} {p q : PV} {dp dq : PyData} (ok : c.Ok) (hu : c.A.units + 64 < cLine) (hl : EvOk c l V p V1) (hr : EvOk c r V1 q V2) (e1 : datP p = some dp) (s1 : SeqAt.shaped dp = true) (e2 : datP q = some dq) (s2 : SeqAt.shaped dq = true) (hm : behindInMarks .Eq r = false) : EvOk c (.Compare l [.Eq] [r] pos) V (.v (.bool (PyData.eqv dp dq))) V2 := by
  intro s Q E I h
  refine wpAny_Compare1 (hl s _ E I fun s1' v I1 t1 i1 => hr s1' _ E I1 fun s2' u I2 t2 i2 => ?_) hm
  exact (eqne_data (i1.st ok t2) i2 hu e1 s1 e2 s2).1 _ E (h s2' _ I2 (t1.trans t2) (.v _))
noncomputable abbrev laFd (w : Wn) : FuncData := fdOf (WW w).K 813
theorem la_def (w : Wn) : defOk (WW w).K 813 ["script"] = true := by kernel_rfl
theorem la_bind (w : Wn) (v : Value) : runPure (WW w).K 30 (bindArgs (laFd w) ⟨[v], []⟩) = some ([("script", v)] : List (Str × Value)) := by kernel_rfl
theorem keep_dr (w : Wn) : keepOk (WW w).K (.ref 782) = true := by kernel_rfl
theorem keep_lf (w : Wn) : keepOk (WW w).K (.ref 808) = true := by kernel_rfl
noncomputable abbrev SpIs (w : Wn) (D : Nat) (f : Addr) (ps : List PV) (r : PV) (objs : List PO) : Prop := Spec (WW w) D (.ref f) ps objs r objs
noncomputable abbrev laCfg {w : Wn} {D : Nat} (hD : 8 ≤ D) {S P ws res : List PV} {ln : Str} {objs : List PO} (h1 : SpIs w D 782 [.l S] (.l P) objs) (h2 : SpIs w D 787 [.l P] (.s ln) objs) (h3 : SpIs w D 53 [.v (.ref 794), .l ws, .l []] (.r res) objs) : Cfg :=
  mkCfg (laFd w).scope tabs ((POrc.one (keep_dr w) h1).or ((POrc.one (keep_line w) h2).or ((orSpl w hD).or (POrc.one (keep_red w) h3)))) (.none _ _)
noncomputable abbrev laL (S P : List PV) (res : List PV) : List (Str × PV) := [("script", .l S), ("program", .l P), ("told", .r res)]
theorem la_run (w : Wn) {D : Nat} (hD : 8 ≤ D) {S P ws res : List PV} {ln : Str} {objs : List PO} (h1 : SpIs w D 782 [.l S] (.l P) objs) (h2 : SpIs w D 787 [.l P] (.s ln) objs) (h3 : SpIs w D 53 [.v (.ref 794), .l ws, .l []] (.r res) objs) :
    xs (laCfg hD h1 h2 h3) 60 ((bodyOf (laFd w)).take 2) [] ⟨[("script", .l S)], objs⟩ = some (.next, [], ⟨laL S P res, objs⟩, [Rf ([PV.l S], objs), Rf ([PV.l P], objs), SplOk ln.cps.toList, ([PV.v (.ref 794), .l (pvT (splT ln.cps.toList)), .l []], objs) = ([PV.v (.ref 794), .l ws, .l []], objs)]) := by kernel_rfl
end Z1
section Z2
/-! ## the texts are plain texts -/
noncomputable def okT (l : List Nat) : Prop := ∀ c ∈ l, c < 1114112
theorem okT_quote {l : List Nat} (h : okT l) : okT (quoteL l) := by
  unfold quoteL
  split
  · intro c hc; rcases List.mem_cons.mp hc with rfl | hc
    · decide
    · rcases List.mem_singleton.mp hc with rfl; decide
  · split
    · exact h
    · intro c hc
      rcases List.mem_cons.mp hc with rfl | hc
      · decide
      · rcases List.mem_append.mp hc with hc | hc
        · obtain ⟨d, hd, hc⟩ := List.mem_flatMap.mp hc
          split at hc
          · have : ∀ c ∈ ([39, 34, 39, 34, 39] : List Nat), c < 1114112 := by decide
            exact this c hc
          · rcases List.mem_singleton.mp hc with rfl; exact h _ hd
        · rcases List.mem_singleton.mp hc with rfl; decide
theorem okT_glue : ∀ ls : List (List Nat), (∀ l ∈ ls, okT l) → okT (glueL ls)
  | [], _ => fun _ h => nomatch h
  | [a], h => h a (.head _)
  | a :: b :: r, h => fun c hc => by
    rcases List.mem_append.mp (show c ∈ a ++ 32 :: glueL (b :: r) from hc) with hc | hc
    · exact h a (.head _) c hc
    · rcases List.mem_cons.mp hc with rfl | hc
      · decide
      · exact okT_glue (b :: r) (fun l hl => h l (.tail _ hl)) c hc
theorem vocab_ok : ∀ x ∈ vocab, ∀ c ∈ x, c < 1114112 := by decide
mutual
theorem okT_line : ∀ t : Tr, t.wf = true → okT t.line
  | .w x, h => vocab_ok x (List.contains_iff_mem.mp h)
  | .l ts, h => by
    have := okT_lines ts (Bool.and_eq_true_iff.mp (show (Tr.wfs ts && _) = true from h)).1
    refine okT_glue _ fun l hl => ?_
    obtain ⟨l', h', rfl⟩ := List.mem_map.mp hl
    exact okT_quote (this l' h')
theorem okT_lines : ∀ ts : List Tr, Tr.wfs ts = true → ∀ l ∈ Tr.lines ts, okT l
  | [], _ => fun _ h => nomatch h
  | t :: r, h => fun l hl => by
    obtain ⟨h1, h2⟩ := Bool.and_eq_true_iff.mp (show (t.wf && Tr.wfs r) = true from h)
    rcases List.mem_cons.mp (show l ∈ t.line :: Tr.lines r from hl) with rfl | hl
    · exact okT_line t h1
    · exact okT_lines r h2 l hl
end
noncomputable def strD (ts : List Tr) : List PyData := ts.map fun t => .str (tx t.line)
theorem datL_str : ∀ ts : List Tr, datL (ts.map lnP) = some (strD ts)
  | [] => rfl
  | t :: r => by
    show ((datP (lnP t)).bind fun d => (datL (r.map lnP)).map (d :: ·)) = _
    rw [datL_str r]; rfl
theorem strD_lay : ∀ ts : List Tr, (∀ t ∈ ts, t.wf = true) → PyData.canLayAll0 (strD ts) = true ∧ PyData.depthAll (strD ts) = 0
  | [], _ => ⟨rfl, rfl⟩
  | t :: r, h => by
    obtain ⟨a, b⟩ := strD_lay r fun x hx => h x (.tail _ hx)
    have ho := okT_line t (h t (.head _))
    have hs : (PyData.str (tx t.line)).canLay0 = true := by
      show (tx t.line).cps.all (fun x => decide (x < 0x110000)) = true
      rw [← Array.all_toList]
      exact List.all_eq_true.mpr fun c hc => decide_eq_true (ho c hc)
    refine ⟨by show ((PyData.str (tx t.line)).canLay0 && PyData.canLayAll0 (strD r)) = true; rw [hs, a]; rfl, by show max 0 (PyData.depthAll (strD r)) = 0; rw [b]; rfl⟩
theorem shaped_strs {ts : List Tr} (h : ∀ t ∈ ts, t.wf = true) : SeqAt.shaped (.list (strD ts)) = true := by
  obtain ⟨a, b⟩ := strD_lay ts h
  unfold SeqAt.shaped
  rw [show (PyData.list (strD ts)).canLay0 = true from a, show (PyData.list (strD ts)).depth = 1 from by show PyData.depthAll (strD ts) + 1 = 1; rw [b]]; rfl
/-! ## the last statement -/
structure LaX where
  t : Str
  pt : Pos
  g : Str
  pg : Pos
  x : Str
  px : Pos
  pc : Pos
  pn : Pos
  it : Expr
  scope : Scope
  pos : Pos
  p1 : Pos
  p2 : Pos
noncomputable def LaX.lc (r : LaX) : Expr := .ListComp (.Call (.Name r.g r.pg) [.Name r.x r.px] [] r.pc) [⟨.Name r.x r.pn, r.it, [], 0⟩] r.scope r.pos
noncomputable def LaX.ex (r : LaX) : Expr := .Compare (.Name r.t r.pt) [.Eq] [r.lc] r.p1
noncomputable def LaX.st (r : LaX) : Stmt := .Return (some r.ex) r.p2
noncomputable def laX : Stmt → Option LaX
  | .Return (some (.Compare (.Name t pt) _ [.ListComp (.Call (.Name g pg) [.Name x px] _ pc) [⟨.Name _ pn, it, _, _⟩] scope pos] p1)) p2 => some ⟨t, pt, g, pg, x, px, pc, pn, it, scope, pos, p1, p2⟩
  | _ => none
theorem la_some (w : Wn) : (((bodyOf (laFd w)).drop 2).head?.bind laX).isSome = true := by kernel_rfl
noncomputable def laG (w : Wn) : LaX := (((bodyOf (laFd w)).drop 2).head?.bind laX).get (la_some w)
theorem la_shape (w : Wn) : (bodyOf (laFd w)).drop 2 = [(laG w).st] := by kernel_rfl
noncomputable def LaX.good (r : LaX) : Bool := r.t == ("told" : Str) && r.g == ("_law_line" : Str) && r.x == ("tree" : Str) && r.scope.names.all (fun z => z.2 != .cell && z.2 != .free && (z.2 != .local || r.scope.names.lookup z.1 == some .local)) && (r.scope.names.lookup ("tree" : Str) == some .local) && (r.scope.names.lookup ("_law_line" : Str) == some .globalImplicit) && r.scope.kind == .function
theorem la_good (w : Wn) : (laG w).good = true := by kernel_rfl
theorem la_names (w : Wn) : (laFd w).scope.names.lookup ("told" : Str) = some NameKind.local := by kernel_rfl
theorem la_fold (w : Wn) (env : Env) (x : Value) : foldedSetIterable (laG w).it env x = pure x := by kernel_rfl
theorem la_marks (w : Wn) : behindInMarks .Eq (laG w).lc = false := by kernel_rfl
noncomputable abbrev laCfg2 {w : Wn} {D : Nat} {P L : List PV} {objs : List PO} (h : SpIs w D 808 [.l P] (.l L) objs) : Cfg := mkCfg (laFd w).scope tabs (POrc.one (keep_lf w) h) (.none _ _)
theorem la_it (w : Wn) {D : Nat} {S P L res : List PV} {objs : List PO} (h : SpIs w D 808 [.l P] (.l L) objs) : pf (laCfg2 h) 20 (laG w).it ⟨laL S P res, objs⟩ = some (.l L, objs, [Rf ([PV.l P], objs)]) := by kernel_rfl
end Z2
section Z3c
theorem ev_lines {w : Wn} {c : Fc} {V : View} {D : Nat} {ts : List Tr} (r : LaX) (hr : r.good = true) (ok : c.Ok) (e : c.toWd = WW w) (room : Room c.A D) (hy : EvOk c r.it V (.l (Tr.pvs ts)) V) (hf : ∀ x, foldedSetIterable r.it c.env x = pure x) (hz : ts.length ≤ 1000000) (ih : ∀ t ∈ ts, SpecP (WW w) D (.ref 787) [t.pv] (.s (tx t.line))) : EvOk c r.lc V (.l (ts.map lnP)) V := by
  unfold LaX.good at hr
  simp only [Bool.and_eq_true, beq_iff_eq] at hr
  obtain ⟨⟨⟨⟨⟨⟨g1, g2⟩, g3⟩, g5⟩, g6⟩, g7⟩, g8⟩ := hr
  have hn : ∀ z ∈ r.scope.names, z.2 ≠ .free ∧ z.2 ≠ .cell ∧ (z.2 = .local → r.scope.names.lookup z.1 = some .local) := fun z hz => by
    have := List.all_eq_true.mp g5 z hz
    obtain ⟨h12, h3⟩ := Bool.and_eq_true_iff.mp this
    obtain ⟨h1, h2⟩ := Bool.and_eq_true_iff.mp h12
    refine ⟨fun q => (by rw [q] at h2; cases h2), fun q => (by rw [q] at h1; cases h1), fun q => ?_⟩
    rw [q] at h3
    rcases Bool.or_eq_true_iff.mp h3 with h3 | h3
    · cases h3
    · exact eq_of_beq h3
  unfold LaX.lc
  refine ev_listcomp ok room.handled (fun z hz => (hn z hz).1) (fun z hz => (hn z hz).2.1) (fun z hz => (hn z hz).2.2) g8 (by rw [g3]; exact g6) hy hf (by rw [pvs_map]; simp) (by rw [pvs_map, List.length_map]; exact hz) fun i p r' hp hr' => ?_
  rw [pvs_map] at hp
  rw [List.getElem?_map] at hp hr'
  cases et : ts[i]? with
  | none => rw [et] at hp; cases hp
  | some t =>
    rw [et] at hp hr'
    cases hp; cases hr'
    refine celt_call (D := D) (f := .ref 787) ok.glb g8 (by rw [g2]; exact g7) (by rw [g3]; exact g6) (by rw [g2]; decide) (by rw [g3]; decide) ?_ ?_ room ?_
    · rw [g2, show c.K = (WW w).K from congrArg Wd.K e]; exact ll_fn w
    · rw [show c.K = (WW w).K from congrArg Wd.K e]; exact keep_line w
    · rw [e]; exact ih t (List.mem_of_getElem? et)
theorem run_some (S : List Int) : ∃ S', (drawn S).foldlM (stepF 25) [] = some S' := by
  obtain ⟨_, _, _, hl⟩ := drawn_ok S
  obtain ⟨S', e⟩ := step_some 26 [.l (drawn S)] (.w wRun) (by show (Tr.nls (drawn S) + 0) + 1 < 26; omega)
  refine ⟨S', ?_⟩
  rw [stepF, if_pos rfl] at e
  exact e
theorem prog_toks (ts : List Tr) : toksT [] ((Tr.l ts).line.length + 2) (Tr.l ts).line = some (ts.map Tr.line) := by
  show toksT [] _ (joinL (Tr.lines ts)) = some (ts.map Tr.line)
  rw [toks_join, lines_map]
  have := glue_low ((Tr.lines ts).map quoteL)
  rw [List.length_map] at this
  exact Nat.lt_of_le_of_lt this (Nat.lt_succ_self _)
theorem law_ret {w : Wn} {c : Fc} {V : View} {S' : List Tr} (r : LaX) (g0 : r.good = true) (ok : c.Ok) (e : c.toWd = WW w) (room : Room c.A.in1 60) (hk : c.env.kindOf ("told" : Str) = some .local) (hl : V.loc.lookup ("told" : Str) = some (.r (S'.map lnP))) (hm : behindInMarks .Eq r.lc = false) (hit : EvOk c r.it V (.l (Tr.pvs S'.reverse)) V) (hf : ∀ x, foldedSetIterable r.it c.env x = pure x) (hz : S'.length ≤ 1000000) (hS' : ∀ x ∈ S', x.wf = true) (ih : ∀ t ∈ S', SpecP (WW w) 18 (.ref 787) [t.pv] (.s (tx t.line))) : EvOk c r.ex V (.v (.bool true)) V := by
  have gt : r.t = ("told" : Str) := by
    have g := g0
    unfold LaX.good at g
    simp only [Bool.and_eq_true, beq_iff_eq] at g
    exact g.1.1.1.1.1.1
  have hlc := ev_lines (ts := S'.reverse) r g0 ok e (room.of_in1.le (show 18 ≤ 60 by decide)) hit hf (by rw [List.length_reverse]; exact hz) fun t ht => ih t (List.mem_reverse.mp ht)
  have ht : EvOk c (.Name r.t r.pt) V (.r (S'.map lnP)) V := by
    rw [gt]
    exact ev_local ok hk (by decide) hl
  have er : strD S'.reverse = (strD S').reverse := List.map_reverse
  have d1 : datP (.r (S'.map lnP)) = some (.list (strD S'.reverse)) := by
    rw [er]
    show (datL (S'.map lnP)).map (fun ds => PyData.list ds.reverse) = _
    rw [datL_str]; rfl
  have d2 : datP (.l (S'.reverse.map lnP)) = some (.list (strD S'.reverse)) := by
    show (datL (S'.reverse.map lnP)).map PyData.list = _
    rw [datL_str]; rfl
  have sh : SeqAt.shaped (.list (strD S'.reverse)) = true := shaped_strs fun t ht => hS' t (List.mem_reverse.mp ht)
  have ev := ev_eqdata (pos := r.p1) ok (by have := room.units; show c.A.units + 64 < _; have e : c.A.in1.units = c.A.units + 1 := rfl; omega) ht hlc d1 sh d2 sh hm
  rw [SeqAt.eqv_refl _ (SeqAt.canLay_of_shaped sh)] at ev
  exact ev
theorem law_body (w : Wn) (S : List Int) (hS : S.length ≤ 1000000) (objs : List PO) {c : Fc} (ok : c.Ok) (e : c.toWd = WW w) (room : Room c.A.in1 60) (hs : c.env.scope = (laFd w).scope) : ∃ V', ExOk c (bodyOf (laFd w)) ⟨[("script", .l (iS S))], objs⟩ (.ret (.v (.bool true))) V' := by
  obtain ⟨hw, hq, hu, hl⟩ := drawn_ok S
  have hb := drawn_bd S
  obtain ⟨S', hr⟩ := run_some S
  have kf := fold_kept hr
  have b0 : Bd (pots ([] : List Tr) + pots (drawn S)) (Tr.nus ([] : List Tr) + Tr.nus (drawn S)) ≤ Mx := by
    show Bd (0 + _) (0 + _) ≤ Mx
    rw [Nat.zero_add, Nat.zero_add]; exact hb
  have hS' : ∀ x ∈ S', x.wf = true := kf.wf (fun _ h => nomatch h) hw
  have pS' : pots S' ≤ Mx := Nat.le_trans (Bd.self _ _) (Nat.le_trans kf.b b0)
  have line : ∀ t : Tr, t.wf = true → t.pot ≤ Mx → SpecP (WW w) 18 (.ref 787) [t.pv] (.s (tx t.line)) := fun t h1 h2 => spec_line w 10 t (Nat.le_trans (dep_small h2) (by decide)) h1 h2
  have potD : ∀ t ∈ drawn S, t.pot ≤ Mx := fun t ht => by have := pot_mem_qs ht; show _ ≤ 1000000; omega
  have sts := steps_fold (D := 59) (n := 25) (fun S t S' h h1 h2 h3 => spec_step w 25 S t S' h h1 h2 h3) (drawn S) [] S' hr (fun _ h => nomatch h) hw b0
  have rd := spec_reduce w (by decide) sts (lnP_lt _) rfl (lnP_lt _)
  have h3 : SpecP (WW w) 60 (.ref 53) [.v (.ref 794), .l ((drawn S).map lnP), .l []] (.r (S'.map lnP)) := rd.conv fun T ρ h vs ia => by
    cases ia with
    | cons a ia => cases ia with
      | cons b ia => cases ia with
        | cons d ia => exact .cons a (.cons b (.cons (is_nil d) ia))
  have h1 : SpecP (WW w) 60 (.ref 782) [.l (iS S)] (.l (Tr.pvs (drawn S))) := (spec_drawn w S hS).le (by decide)
  have h2 : SpecP (WW w) 60 (.ref 787) [.l (Tr.pvs (drawn S))] (.s (tx (Tr.l (drawn S)).line)) := (spec_line_list w 10 (drawn S) hw (by omega) fun t ht => line t (hw t ht) (potD t ht)).le (by decide)
  have h4 : SpecP (WW w) 60 (.ref 808) [.l (Tr.pvs (drawn S))] (.l (Tr.pvs S'.reverse)) := by
    have := (spec_left w hr hw hb).le (D' := 60) (by decide)
    rw [← pvs_map, pvs_rev] at this
    exact this
  have llen : (Tr.l (drawn S)).line.length ≤ 1000000 := by
    have a := glue_len ((Tr.lines (drawn S)).map quoteL)
    rw [List.map_map] at a
    have b := lines_len (drawn S) ((wfs_iff _).mpr hw)
    have e : (Tr.l (drawn S)).line = glueL ((Tr.lines (drawn S)).map quoteL) := rfl
    rw [e]
    exact Nat.le_trans a (Nat.le_trans b (by omega))
  have tk := prog_toks (drawn S)
  have spl : splT (Tr.l (drawn S)).line = (drawn S).map Tr.line := by unfold splT; rw [tk]; rfl
  have spo : SplOk (Tr.l (drawn S)).line := ⟨by rw [spl]; exact tk, llen, by rw [spl, List.length_map]; have := pots_len (drawn S); have := pots_qs (drawn S); omega⟩
  refine ⟨⟨laL (iS S) (Tr.pvs (drawn S)) (S'.map lnP), objs⟩, ?_⟩
  have gk := mkCfg_ok (D := 60) (t := tabs) (po := (POrc.one (keep_dr w) (h1 objs)).or ((POrc.one (keep_line w) (h2 objs)).or ((orSpl w (by decide)).or (POrc.one (keep_red w) (h3 objs))))) (eo := .none _ _) ok e room (by decide) hs (tabs_ok w)
  rw [← List.take_append_drop 2 (bodyOf (laFd w)), la_shape w]
  refine xs_app ok gk (la_run w (by decide) (h1 objs) (h2 objs) (h3 objs)) ⟨rfl, rfl, spo, ?_, trivial⟩ (ex_stop (sx_return ?_) (fun q => nomatch q))
  · rw [show pvT (splT (tx (Tr.l (drawn S)).line).cps.toList) = (drawn S).map lnP from by show pvT (splT (Tr.l (drawn S)).line) = _; rw [spl, pv_lines]]
  · have gk2 := mkCfg_ok (D := 60) (t := tabs) (po := POrc.one (keep_lf w) (h4 objs)) (eo := .none _ _) ok e room (by decide) hs (tabs_ok w)
    have hit := pf_ev ok gk2 (la_it w (S := iS S) (res := S'.map lnP) (h4 objs)) ⟨rfl, trivial⟩
    have hk : c.env.kindOf ("told" : Str) = some .local := by unfold Env.kindOf; rw [hs]; exact la_names w
    exact law_ret (laG w) (la_good w) ok e room hk rfl (la_marks w) hit (fun x => la_fold w c.env x) (Nat.le_trans (pots_len S') pS') hS' fun t ht => line t (hS' t ht) (Nat.le_trans (pot_mem ht) pS')
end Z3c
section T1
/-! ## the top, run upon trees -/
noncomputable abbrev StT := SharedT → Thread → Option (SharedT × Thread)
noncomputable def impT (st : StT) : Nat → SharedT → Thread → Option SharedT
  | 0, _, _ => none
  | n + 1, s, t => match t.atExitBegin with
    | some l => (match l with | [] => some s | _ :: _ => none)
    | none => match st s t with
      | some r => impT st n r.1 r.2
      | none => none
noncomputable def topT (st : StT) (ok : Thread → Bool) : Nat → SharedT → Thread → Option SharedT
  | 0, _, _ => none
  | n + 1, s, t => match through t with
    | true => some s
    | false => match ok t with
      | false => none
      | true => match st s t with
        | some r => topT st ok n r.1 r.2
        | none => none
noncomputable def growT : List Obj → Nat → BT → Option BT
  | [], _, T => some T
  | o :: r, n, T => match ((T.ins n o).get n).isSome with
    | true => growT r (n + 1) (T.ins n o)
    | false => none
noncomputable def toT (s : Shared) : Option SharedT := (growT s.heap.objs.toList 0 .nil).map fun T => ⟨T, s.heap.objs.size, s.heap.life, s.gens, s.drawn, s.toks, s.os⟩
theorem grow_of {life : Life} : ∀ {l : List Obj} {n : Nat} {T T' : BT}, growT l n T = some T' → absHeap T' (n + l.length) life = ⟨(absHeap T n life).objs ++ l.toArray, life⟩
  | [], n, T, T', h => by cases h; simp [absHeap]
  | o :: r, n, T, T', h => by
    unfold growT at h
    cases e : ((T.ins n o).get n).isSome with
    | false => rw [e] at h; cases h
    | true =>
      rw [e] at h
      have := grow_of (life := life) h
      rw [absHeap_ins e] at this
      rw [List.length_cons, show n + (r.length + 1) = n + 1 + r.length by omega, this]
      simp [Heap.push]
theorem toT_abs {s : Shared} {x : SharedT} (h : toT s = some x) : x.abs = s := by
  obtain ⟨T, e, rfl⟩ := Option.map_eq_some_iff.mp h
  have := grow_of (life := s.heap.life) e
  obtain ⟨⟨objs, life⟩, g, d, k, os⟩ := s
  unfold SharedT.abs
  simp only at this ⊢
  rw [Nat.zero_add, Array.length_toList] at this
  rw [this]
  simp [absHeap, BT.list]
theorem impT_of {tb : String → Option Builtin} {p : Program} {w : World} : ∀ {n : Nat} {s s' : SharedT} {t : Thread}, impT (stepT (denote tb) p w) n s t = some s' → importEnds tb p w n s.abs t = some s'.abs
  | 0, _, _, _, h => by cases h
  | n + 1, s, s', t, h => by
    unfold impT at h
    unfold importEnds
    cases e : t.atExitBegin with
    | some l =>
      rw [e] at h
      cases l with
      | nil => cases h; rfl
      | cons _ _ => cases h
    | none =>
      rw [e] at h
      cases e2 : stepT (denote tb) p w s t with
      | none => rw [e2] at h; cases h
      | some r =>
        rw [e2] at h
        obtain ⟨s2, t2⟩ := r
        dsimp only
        rw [stepT_spec e2]
        exact impT_of h
theorem topT_of {tb : String → Option Builtin} {p : Program} {w : World} {n₀ : Nat} {ann : Option Value} : ∀ {n : Nat} {s s' : SharedT} {t : Thread}, topT (stepT (denote tb) p w) (stepOk n₀ ann) n s t = some s' → topRun tb p w n₀ ann n s.abs t = some s'.abs
  | 0, _, _, _, h => by cases h
  | n + 1, s, s', t, h => by
    unfold topT at h
    unfold topRun
    cases e : through t with
    | true => rw [e] at h; cases h; rfl
    | false =>
      rw [e] at h
      cases e1 : stepOk n₀ ann t with
      | false => rw [e1] at h; cases h
      | true =>
        rw [e1] at h
        cases e2 : stepT (denote tb) p w s t with
        | none => rw [e2] at h; cases h
        | some r =>
          rw [e2] at h
          obtain ⟨s2, t2⟩ := r
          dsimp only
          rw [stepT_spec e2]
          exact topT_of h
/-- the whole: what stood ahead of the top (behind the fence) and what stands behind it -/
noncomputable def allT (st : Program → StT) (fn : Shared → Option Shared) (p : Program) (M N : Nat) : Option (Shared × SharedT) :=
  (toT (start (opening p)).1).bind fun s => (impT (st (opening p)) M s (start (opening p)).2).bind fun s => (fn s.abs).bind fun s₀ => (toT s₀).bind fun x =>
    (topT (st p) (stepOk s₀.heap.objs.size (s₀.heap.nsMap mainGlobals "__annotations__")) N x (topStub p)).map fun s₁ => (s₀, s₁)
noncomputable def getT (x : SharedT) (a : Nat) : Option Obj := match Nat.blt a x.n with
  | true => (match x.tree.get a with
    | some o => alive o
    | none => none)
  | false => none
theorem getT_is {x : SharedT} {a : Nat} {o : Obj} (h : getT x a = some o) : x.abs.heap.get? a = some o := by
  unfold getT at h
  cases e : Nat.blt a x.n with
  | false => rw [e] at h; cases h
  | true =>
    rw [e] at h
    cases g : x.tree.get a with
    | none => rw [g] at h; cases h
    | some o' =>
      rw [g] at h
      exact (abs_get (Nat.le_of_ble_eq_true e) g).trans h
theorem left_of {p q : Program} {loose : List Str} {Xt : Shared → Bool} {α β : Type} {Yf : Shared → α} {Ya : World → α} {Yt : SharedT → β} {yt : World → β} {M N K : Nat} (hM : M ≤ K) (hN : N ≤ K) (hy : ∀ x w, Yt x = yt w → Yf x.abs = Ya w)
    (h : ∀ w : World, (allT (fun p => stepT (denote treeTable) p w) (fenceModules? p) p M N).map (fun x => ((x.1.heap.isNs mainGlobals && x.1.gens.size == 0) && (staticsOk (importedModules p.main.body) x.1.heap x.2.abs.heap && namesBound p x.2.abs.heap && gensDone x.2.abs && laidKept x.1.heap x.2.abs.heap),
      openSeen q loose (importedModules p.main.body) Xt true x.2.abs, Yt x.2)) = some (true, openGood q loose, yt w)) : LeftO p q loose Xt Yf Ya K := fun w => by
  obtain ⟨⟨s₀, s₁⟩, e, e'⟩ := Option.map_eq_some_iff.mp (h w)
  obtain ⟨sa, ea, e⟩ := Option.bind_eq_some_iff.mp e
  obtain ⟨sb, eb, e⟩ := Option.bind_eq_some_iff.mp e
  obtain ⟨s₀', ec, e⟩ := Option.bind_eq_some_iff.mp e
  obtain ⟨x, ed, e⟩ := Option.bind_eq_some_iff.mp e
  obtain ⟨s₁', ee, e⟩ := Option.map_eq_some_iff.mp e
  obtain ⟨rfl, rfl⟩ : s₀' = s₀ ∧ s₁' = s₁ := by simpa using e
  have i := impT_of eb
  rw [toT_abs ea] at i
  have i := importEnds_mono (K - M) _ _ _ _ i
  rw [show M + (K - M) = K by omega] at i
  have t := topT_of ee
  rw [toT_abs ed] at t
  have t := topRun_mono (K - N) _ _ _ _ t
  rw [show N + (K - N) = K by omega] at t
  obtain ⟨k1, k2⟩ := Prod.mk.inj e'
  obtain ⟨k2, k3⟩ := Prod.mk.inj k2
  obtain ⟨k1, k1'⟩ := Bool.and_eq_true_iff.mp k1
  unfold openEnds fencedOpening
  rw [i]
  show (((fenceModules? p sb.abs).bind (topFrom treeTable p w K))).map _ = _
  rw [ec]
  show ((topFrom treeTable p w K s₀')).map _ = _
  have tf : topFrom treeTable p w K s₀' = some s₁'.abs := by
    unfold topFrom
    rw [k1]
    dsimp only
    rw [t]
    show (match staticsOk (importedModules p.main.body) s₀'.heap s₁'.abs.heap && namesBound p s₁'.abs.heap && gensDone s₁'.abs && laidKept s₀'.heap s₁'.abs.heap with | true => _ | false => _) = _
    rw [k1']
  rw [tf]
  exact congrArg some (Prod.ext k2 (hy _ _ k3))
end T1
section T2
/-- the top's tables are code's tables -/
noncomputable def TabsIn (h : Heap) : Prop := ∀ b, b < topN → ∃ o, h.get? b = some o ∧ (o.cls = .none → (∃ vs, o.data = .fields vs) → isCodeTable h b)
noncomputable def isFields : Data → Bool
  | .fields _ => true
  | _ => false
/-- the code object that has the table b stands beside it -/
noncomputable def nearT (x : SharedT) (b : Nat) : Bool := (List.range 12).any fun d => ((getT x (b - 6 + d)).bind tabOf) == some b
noncomputable def tabsT (x : SharedT) : Bool := (List.range topN).all fun b => (getT x b).any fun o => !(o.cls == .none && isFields o.data) || nearT x b
theorem tabOf_is {o : Obj} {b : Addr} (h : tabOf o = some b) : o.cls = .type "code" ∧ ∃ vs, o.data = .fields vs ∧ vs[11]? = some (.ref b) := by
  unfold tabOf at h
  by_cases hc : (o.cls == .type "code") = true
  · rw [if_pos hc] at h
    refine ⟨eq_of_beq hc, ?_⟩
    cases hd : o.data with
    | fields vs =>
      rw [hd] at h
      refine ⟨vs, rfl, ?_⟩
      have h : (match vs[11]? with | some v => (match v with | .ref P => some P | _ => none) | none => none) = some b := h
      cases hv : vs[11]? with
      | none => rw [hv] at h; cases h
      | some v =>
        rw [hv] at h
        cases v <;> first | exact no h | (cases h; rfl)
    | _ => rw [hd] at h; exact no h
  · rw [if_neg hc] at h; cases h
theorem tabs_in {x : SharedT} (h : tabsT x = true) : TabsIn x.abs.heap := fun b hb => by
  have h := List.all_eq_true.mp h b (List.mem_range.mpr hb)
  obtain ⟨o, e, h⟩ := (Option.any_eq_true _ _).mp h
  refine ⟨o, getT_is e, fun hc hd => ?_⟩
  obtain ⟨vs, hd⟩ := hd
  rw [hc, hd] at h
  have h : nearT x b = true := h
  obtain ⟨d, _, h⟩ := List.any_eq_true.mp h
  obtain ⟨o', e', h⟩ := Option.bind_eq_some_iff.mp (eq_of_beq h)
  obtain ⟨h1, us, h2, h3⟩ := tabOf_is h
  exact ⟨_, o', us, getT_is e', h1, h2, h3⟩
noncomputable abbrev pw : Program := PySem.Challenge.pw_mq0401_02
/-! ### the kit's quick forms of what runs -/
noncomputable abbrev qSt (w : World) (p : Program) : StT := PySem.W.Fast.tw10156331382660048174 (PySem.W.Fast.tw11892475500146522536 PySem.W.Fast.tw14364793385576792824) p w
noncomputable abbrev qFn (p : Program) : Shared → Option Shared := PySem.W.Fast.tw14289696077712309145 p
noncomputable abbrev qSeen := PySem.W.Fast.tw4187177175401517315
theorem qSt_eq (w : World) : (fun p => stepT (denote treeTable) p w) = qSt w := by
  unfold qSt
  rw [← PySem.W.Fast.te10156331382660048174, ← PySem.W.Fast.te11892475500146522536, ← PySem.W.Fast.te14364793385576792824]
theorem qFn_eq : fenceModules? = qFn := PySem.W.Fast.te14289696077712309145
theorem qSeen_eq : openSeen = qSeen := PySem.W.Fast.te4187177175401517315
noncomputable def qv : Program := view pw [38]
noncomputable def lse : List Str := pw.boundNames.filter fun k => !(k == ("law" : Str))
/-- where the fragment lies -/
noncomputable def kAt : List Addr := [3, 2, 4, 45, 741, 740, 606, 605, 129, 128, 102, 101, 103, 673, 359, 58, 57, 761, 53, 52, 46, 72, 71, 99, 98, 376, 375, 369, 383, 382, 390, 389, 552, 551, 545, 665, 664, 658, 672, 671, 702, 701, 709, 708, 731, 730, 738, 737, 753, 752, 746, 760, 759, 768, 767, 775, 774, 782, 781, 787, 786, 794, 793, 801, 800, 808, 807, 813, 812]
/-- the tables of its code objects -/
noncomputable def kTab : List Addr := [48, 67, 94, 371, 378, 385, 547, 660, 667, 697, 704, 726, 733, 748, 755, 763, 770, 777, 784, 789, 796, 803, 810]
noncomputable def yt (w : World) : List (Option Obj) × List (Option Obj) × Bool := ((K02 w.params).map fun x => some x.2, kTab.map fun _ => some (X.tableObj #[]), true)
theorem t_all (w : World) : (allT (qSt w) (qFn pw) pw 4000 8000).map (fun x => ((x.1.heap.isNs mainGlobals && x.1.gens.size == 0) && (staticsOk (importedModules pw.main.body) x.1.heap x.2.abs.heap && namesBound pw x.2.abs.heap && gensDone x.2.abs && laidKept x.1.heap x.2.abs.heap),
      qSeen qv lse (importedModules pw.main.body) (fun _ => true) true x.2.abs, (kAt.map (getT x.2), kTab.map (getT x.2), tabsT x.2))) = some (true, openGood qv lse, yt w) := by kernel_rfl
end T2
section E1
/-! ## the call from outside -/
theorem enter_top {W : Wd} {D : Nat} {f : Addr} {ps : List PV} {loc : List (Str × PV)} {names : List Str} {r : PV} {A : Around} {s : Shared} {vs : List Value} {binds : List (Str × Value)} {Q E : Value → Shared → Prop} (hN : W.N = s.heap.objs.size) (hd : defOk W.K f names = true) (hn : loc.map (·.1) = names) (lk : lowK W.K W.N = true) (lo : builtinsNs < W.N ∧ cStatics < W.N) (B : Base W.K W.N s.heap) (hA : A.frames = some []) (room : Room A (D + 1))
    (hb : runPure W.K 30 (bindArgs (fdOf W.K f) ⟨vs, []⟩) = some binds) (hbn : binds.map (·.1) = names) (hi : IsL [] [] s.heap (loc.map (·.2)) (binds.map (·.2)))
    (hrun : ∀ c : Fc, c.Ok → c.toWd = W → Room c.A.in1 D → c.env.scope = (fdOf W.K f).scope → ∃ V', ExOk c (bodyOf (fdOf W.K f)) ⟨loc, []⟩ (.ret r) V')
    (hq : ∀ T s' v, Keep W.N [] s.heap s'.heap → Gn s.gens s'.gens → s'.os = s.os → Is T [] s'.heap r v → Q v s') : wpAny (model W.prog W.w) A (call (.ref f) vs) Q E s := by
  obtain ⟨h123, h4⟩ := Bool.and_eq_true_iff.mp hd
  obtain ⟨h12, h3⟩ := Bool.and_eq_true_iff.mp h123
  have di := defIs_of h12
  obtain ⟨oc, od, sl, hK⟩ := di.at_
  have ho := B.k _ _ hK
  refine wpAny_call ?_
  refine enter_def (binds := binds) (by have := room.depth; omega) ho rfl B.lim (codeRec_of B.k di.code) di.body (fun M A E Q q => runPure_sound B.k hb q) di.cell (fun x hx => beq_iff_eq.mp (List.all_eq_true.mp h4 x.1 (hbn ▸ List.mem_map_of_mem hx))) di.co di.gen di.kind fun h' F' k' => ?_
  have kk : Keep W.N [] s.heap h' := .of_all k'
  let c' : Fc := { prog := W.prog, w := W.w, K := W.K, N := W.N, A := A.deeper (callEnv (fdOf W.K f) s.heap.objs.size f), env := callEnv (fdOf W.K f) s.heap.objs.size f, T := [s.heap.objs.size], ρ := [], L := s.heap.objs.size }
  have ok' : c'.Ok := ⟨⟨fun b hb => hb, by show [s.heap.objs.size].Nodup; simp, fun b hb => by rcases List.mem_singleton.mp hb with rfl; exact Nat.le_of_eq hN⟩, di.kind, rfl, di.glb, di.blt, lk, lo⟩
  have fresh : s.heap.get? s.heap.objs.size = none := by
    cases q : s.heap.get? s.heap.objs.size with
    | none => rfl
    | some o => exact absurd (Heap.lt_size q) (Nat.lt_irrefl _)
  have I' : Inv c' ⟨loc, []⟩ { s with heap := h', toks := s.toks + binds.length } := by
    refine ⟨⟨⟨_, F', ?_⟩, fun k po e => by simp at e⟩, B.keep (T := []) lk (fun _ h => nomatch h) lo kk, fun b hb => ?_, ?_⟩
    · have z := loc_binds (hbn.trans hn.symm) (hi.more fresh) (hn ▸ nodupB_ok h3)
      exact fun x p e => let ⟨v, e1, e2⟩ := z x p e; ⟨v, e1, e2.keep (N := W.N) kk.all⟩
    · rcases List.mem_singleton.mp hb with rfl
      obtain ⟨o, e, _⟩ := F'.cls; exact ⟨o, e⟩
    · refine ⟨[callEnv (fdOf W.K f) s.heap.objs.size f], by show (A.frames.map _) = _; rw [hA]; rfl, fun env he => ?_⟩
      rcases List.mem_singleton.mp he with rfl
      exact ⟨by show (fdOf W.K f).scope.kind ≠ _; rw [di.kind]; decide, _, _, rfl, Nat.le_of_eq hN, F'⟩
  obtain ⟨V', hx⟩ := hrun c' ok' rfl room.deeper rfl
  refine hx _ _ _ I' fun s' fw I'' st hfl => ?_
  obtain ⟨v, rfl, iv⟩ := hfl
  refine hq _ s' v ⟨fun b o _ e => ?_, fun b o e => st.keep.there b o (k' b o e)⟩ st.gens st.os iv
  exact st.keep.off b o (fun z => by rcases List.mem_singleton.mp z with rfl; rw [fresh] at e; cases e) (k' b o e)
theorem oldK_of {N : Nat} {h h' : Heap} (hN : N = h.objs.size) (ht : TabsIn h) (k : Keep N [] h h') : OldK h h' := by
  refine ⟨fun b o e => ?_, fun b o e => k.there b o e⟩
  have q := k.off b o (fun z => nomatch z) e
  generalize e' : h'.get? b = r at q
  cases q with
  | same => exact .inl e'
  | slots sl hb _ => exact absurd (Heap.lt_size e) (Nat.not_lt.mpr (hN ▸ hb))
  | tab vs more lt q tr =>
    obtain ⟨o', e1, e2⟩ := ht b lt
    rw [e] at e1; cases e1
    subst q
    exact .inr (.inl ⟨e2 rfl ⟨vs, rfl⟩, rfl, vs, more, rfl, e'⟩)
end E1
section E2
noncomputable abbrev YPl (w : World) (h : Heap) : Prop := (K02 w.params).In h ∧ (∀ a ∈ kTab, h.get? a = some (X.tableObj #[])) ∧ TabsIn h
noncomputable def yF (s : Shared) : List (Option Obj) × Prop := (kAt.map s.heap.get?, (∀ a ∈ kTab, s.heap.get? a = some (X.tableObj #[])) ∧ TabsIn s.heap)
noncomputable def yA (w : World) : List (Option Obj) × Prop := ((K02 w.params).map fun x => some x.2, True)
theorem gets_of {x : SharedT} : ∀ {as : List Addr} {l : List (Addr × Obj)}, as.map (getT x) = l.map (fun p => some p.2) → as.map x.abs.heap.get? = l.map fun p => some p.2
  | [], l, h => by
    cases l with
    | nil => rfl
    | cons _ _ => cases h
  | a :: as, l, h => by
    cases l with
    | nil => cases h
    | cons p l =>
      simp only [List.map_cons, List.cons.injEq] at h ⊢
      exact ⟨getT_is h.1, gets_of h.2⟩
theorem y_of (x : SharedT) (w : World) (h : (kAt.map (getT x), kTab.map (getT x), tabsT x) = yt w) : yF x.abs = yA w := by
  obtain ⟨h1, h2⟩ := Prod.mk.inj h
  obtain ⟨h2, h3⟩ := Prod.mk.inj h2
  exact Prod.ext (gets_of h1) (eq_true ⟨fun a ha => getT_is (List.map_inj_left.mp h2 a ha), tabs_in h3⟩)
theorem k_at (P : Params) : kAt = (K02 P).map (·.1) := by kernel_rfl
theorem y_says (w : World) (s : Shared) (h : yF s = yA w) : YPl w s.heap := by
  obtain ⟨h1, h2⟩ := Prod.mk.inj h
  exact ⟨Frag.in_of (k_at _) h1, of_eq_true h2⟩
theorem y_keeps (w : World) (h h' : Heap) (y : YPl w h) (k : ∀ b o, h.get? b = some o → h'.get? b = some o) : YPl w h' :=
  ⟨y.1.keeps k, fun a ha => k _ _ (y.2.1 a ha), fun b hb => let ⟨o, e, q⟩ := y.2.2 b hb; ⟨o, k b o e, fun h1 h2 => let ⟨c, oc, vs, e1, e2, e3, e4⟩ := q h1 h2; ⟨c, oc, vs, k _ _ e1, e2, e3, e4⟩⟩⟩
theorem left : LeftO pw qv lse (fun _ => true) yF yA 8000 :=
  left_of (M := 4000) (N := 8000) (by decide) (by decide) y_of fun w => by
    have h := t_all w
    rw [← qSt_eq, ← qFn_eq, ← qSeen_eq] at h
    exact h
/-! ### the law's call -/
noncomputable abbrev rw : OpenRow := PySem.Challenge.rw_mq0401_02.row
noncomputable def nsData (x : Str) : Data → Option Value
  | .dict es _ => nsFind es x
  | _ => none
theorem law_at (P : Params) : ((K02 P).lookup 3).bind (fun o => nsData "law" o.data) = some (.ref 813) := by kernel_rfl
theorem law_is {P : Params} {h : Heap} {mg : Str → Option Value} (hg : h.Ns mainGlobals mg) (K : (K02 P).In h) : mg ("law" : Str) = some (.ref 813) := by
  obtain ⟨o, es, ep, ho, hd, _, hf⟩ := hg
  obtain ⟨o', e, q⟩ := ob (law_at P)
  have := K _ _ e
  rw [show (3 : Addr) = mainGlobals from rfl, ho] at this
  cases this
  rw [hd] at q
  exact (hf _).symm.trans q
theorem low_up {K : Frag} {N N' : Nat} (h : lowK K N = true) (hN : N ≤ N') : lowK K N' = true := by
  refine List.all_eq_true.mpr fun p hp => ?_
  have h := List.all_eq_true.mp h p hp
  unfold lowP at h ⊢
  obtain ⟨h1, h2⟩ := Bool.and_eq_true_iff.mp h
  obtain ⟨h2, h3⟩ := Bool.and_eq_true_iff.mp h2
  refine Bool.and_eq_true_iff.mpr ⟨decide_eq_true (Nat.lt_of_lt_of_le (of_decide_eq_true h1) hN), Bool.and_eq_true_iff.mpr ⟨h2, ?_⟩⟩
  cases e : tabOf p.2 with
  | none => rfl
  | some P =>
    rw [e] at h3
    obtain ⟨a, b⟩ := Bool.and_eq_true_iff.mp h3
    exact Bool.and_eq_true_iff.mpr ⟨decide_eq_true (Nat.lt_of_lt_of_le (of_decide_eq_true a) hN), b⟩
/-- the tables of the fragment's code objects -/
noncomputable def tabAll (K : Frag) : List Addr := K.filterMap fun p => tabOf p.2
theorem tab_all (P : Params) : tabAll (K02 P) = kTab := by kernel_rfl
theorem args_of {args : List WData} (h : rw.toRowW.claim.pre args = true) : ∃ ns : List Int, ns.length ≤ 63 ∧ args = [.list (ns.map .int)] := by
  obtain ⟨h1, h2⟩ := Bool.and_eq_true_iff.mp h
  cases args with
  | nil => cases h1
  | cons x xs =>
    obtain ⟨hx, hr⟩ := Bool.and_eq_true_iff.mp (show (WShape.has [] x (.list .int) && WShape.hasAll [] xs []) = true from h1)
    cases xs with
    | cons y ys => cases hr
    | nil =>
      obtain ⟨ds, rfl, hd⟩ := hasW_list hx
      obtain ⟨ns, rfl⟩ := items_int hd
      refine ⟨ns, ?_, rfl⟩
      have h2 : WTm.holds [] (.and (.not (.lt (.lit (.int 63)) (.len (.arg 0)))) (.lit (.bool true))) { args := [.list (ns.map .int)] } = true := h2
      by_cases q : (63 : Int) < ((ns.map WData.int).length : Int)
      · have h2 : WTm.holds [] (.and (.not (.lit (.bool (decide ((63 : Int) < ((ns.map WData.int).length : Int)))))) (.lit (.bool true))) { args := [] } = true := h2
        rw [decide_eq_true q] at h2
        exact nof h2
      · rw [List.length_map] at q
        exact Int.ofNat_le.mp (Int.not_lt.mp q)
theorem int1_is {R : WRecords} {cl : Str → Option Addr} {h : Heap} {n : Int} {v : Value} {as : List Addr} (x : ReadsW R cl h v (.int n) as) : Is [] [] h (.i n) v := by
  obtain ⟨t, rfl, _⟩ := readsW_int_inv x
  exact .i _ _
theorem ints_is {R : WRecords} {cl : Str → Option Addr} {h : Heap} {ns : List Int} : ∀ {vs : List Value} {as : List Addr}, ReadsAllW R cl h vs (ns.map .int) as → IsL [] [] h (iS ns) vs := by
  induction ns with
  | nil => intro vs as h; obtain ⟨rfl, _⟩ := readsAllW_nil_inv h; exact .nil
  | cons n r ih => intro vs as h; obtain ⟨v, vs, _, _, rfl, _, a, b⟩ := readsAllW_cons_inv h; exact .cons (int1_is a) (ih b)
theorem low_ok' (P : Params) : lowK (K02 P) 814 = true := by kernel_rfl
theorem base_of_top {w : World} {s : Shared} {mb : Str → Option Value} (y : YPl w s.heap) (hb : s.heap.Ns builtinsNs mb) (hx : ∀ x : Str, x ≠ "__name__" → mb x = bootBuiltins x) (hl : s.heap.NoLimit) : Base (K02 w.params) s.heap.objs.size s.heap := by
  refine ⟨y.1, ⟨mb, hb, hx⟩, hl, fun a o P e t => ⟨#[], y.2.1 P ?_, trivial⟩⟩
  rw [← tab_all w.params]
  exact List.mem_filterMap.mpr ⟨(a, o), mem_lookup e, t⟩
theorem law_walk {d : DefRec} {kwd : List (Str × Expr)} (hn : d.name = ("law" : Str)) : WalkO qv lse (fun _ _ => True) YPl rw.toRowW d kwd fun f vs => PySem.call f vs := by
  intro w s₀ s₁ mg mb G Y a o pm cd doc dV kV ho hd hcd hD hmg hg args vals as hpre hlay hrd hwl hlo
  obtain ⟨ns, hz, rfl⟩ := args_of hpre
  have ha := law_is G.T.g Y.1
  rw [hn] at hmg
  have ea : a = 813 := by rw [ha] at hmg; cases hmg; rfl
  subst ea
  obtain ⟨v1, vs1, _, _, rfl, _, r1, r2⟩ := readsAllW_cons_inv hrd
  obtain ⟨rfl, _⟩ := readsAllW_nil_inv r2
  obtain ⟨_, _, _, rfl, ⟨_, e1, e2, _, e3⟩, e4, _⟩ := readsW_list_inv r1
  have B := base_of_top Y G.T.b G.T.builtins G.T.nolimit
  have big : 814 ≤ s₁.heap.objs.size := by
    obtain ⟨o', e', _⟩ := Y.2.2 813 (by decide)
    exact Heap.lt_size e'
  let W : Wn := ⟨w, s₁.heap.objs.size⟩
  refine enter_top (W := WW W) (D := 60) (ps := []) (loc := [("script", .l (iS ns))]) (r := .v (.bool true)) rfl (la_def W) rfl (low_up (low_ok' _) big) ⟨Nat.lt_of_lt_of_le (by decide) big, Nat.lt_of_lt_of_le (by decide) big⟩ B rfl ⟨by decide, by decide, rfl⟩ (la_bind W _) rfl (.cons (.l (fun z => nomatch z) e1 e2 e3 (ints_is e4)) .nil)
    (fun c ok e room hs => law_body W ns (by omega) [] ok e room hs) fun T s' v k gn os i => ?_
  cases i
  refine ⟨.inl ⟨_, .bool true, [], rfl, fun _ => rfl, .bool true, by wrow_post, fun _ => ⟨List.nodup_nil, fun _ hm => (nomatch hm)⟩⟩, oldK_of rfl Y.2.2 k, os, gn.bare ?_⟩
  rw [hg]
  exact AllBare.empty
end E2
section E3
theorem def_some : (defOf qv rw.name).isSome = true := by kernel_rfl
theorem def_the : rw.prog.theDef rw.name = (defOf qv rw.name).map fun x => (x.1.params, x.1.body, x.1.scope) := by kernel_rfl
theorem def_kw : ((defOf qv rw.name).bind fun x => kwWritten? x.1.params.kwonlyargs x.1.params.kw_defaults) = (defOf qv rw.name).map (·.2) := by kernel_rfl
theorem law_ok : (chainsOk qv && opensWell rw.prog && (frees rw.toRowW && rw.within.isEmpty)) = true := by kernel_rfl
theorem law_bare : rw.prog.bare := ⟨rfl, rfl, rfl, rfl, rfl, by kernel_rfl⟩
theorem law_holds (said : rw.wellSaid = true) : rw.Holds := by
  obtain ⟨⟨d, kwd⟩, hd⟩ := Option.isSome_iff_exists.mp def_some
  have h1 := def_the
  have h2 := def_kw
  rw [hd] at h1 h2
  have hw : rw.toRowW.promised := ⟨[.list [.int 3, .int 1]], by decide +kernel, by decide +kernel⟩
  exact holds_open (r := rw) (q := qv) (loose := lse) (Xt := fun _ => true) (XP := fun _ _ => True) (Yf := yF) (Ya := yA) (YP := YPl) (N := 8000) left (fun w s h => y_says w s h) (fun w h h' => y_keeps w h h') (fun _ _ => trivial) (fun _ _ _ _ _ => trivial) hd h1 h2 (fun s _ => recFacts_nil rfl) rfl said law_ok law_bare hw (law_walk (defOf_name hd))
theorem said3 : PySem.W.Fast.tw12908688711261696721 (PySem.W.Fast.tw2368527892694137696 PySem.Challenge.rw_mq0401_02).prog = true := by
  unfold PySem.W.Fast.tw12908688711261696721
  refine look_both (look_both (look_both (look_both (look_both ?_ ?_) ?_) ?_) ?_) ?_
  all_goals decide +kernel
theorem said2 : PySem.W.Fast.tw2436336058641802641 (PySem.W.Fast.tw2368527892694137696 PySem.Challenge.rw_mq0401_02) = true := by
  unfold PySem.W.Fast.tw2436336058641802641
  refine look_both (look_both (look_both (look_both (look_both (look_both ?_ ?_) ?_) ?_) ?_) ?_) ?_
  · refine look_both (look_both (look_both (look_both (look_both (look_both (look_both said3 ?_) ?_) ?_) ?_) ?_) ?_) ?_
    all_goals decide +kernel
  all_goals decide +kernel
theorem said1 : PySem.W.Fast.tw17960256430627541270 (PySem.W.Fast.tw2368527892694137696 PySem.Challenge.rw_mq0401_02) = true := by
  unfold PySem.W.Fast.tw17960256430627541270
  refine look_both (look_both said2 ?_) ?_
  all_goals decide +kernel
theorem law_saidQ : PySem.W.Fast.tw9446332074065402090 PySem.Challenge.rw_mq0401_02 = true := by
  unfold PySem.W.Fast.tw9446332074065402090
  refine look_both (look_both (look_both (look_both (look_both (look_both ?_ ?_) ?_) ?_) ?_) ?_) ?_
  · refine look_both (look_both (look_both (look_both (look_both (look_both (look_both (look_both (look_both (look_both (look_both (look_both said1 ?_) ?_) ?_) ?_) ?_) ?_) ?_) ?_) ?_) ?_) ?_) ?_
    all_goals decide +kernel
  all_goals decide +kernel
theorem law_said : PySem.Challenge.rw_mq0401_02.wellSaid = true := (congrFun PySem.W.Fast.te9446332074065402090 _).trans law_saidQ
end E3
end Mine
theorem PySem.Challenge.cw_mq0401_02_holds : PySem.Challenge.rw_mq0401_02.Holds :=
  holds_law Mine.law_said Mine.law_holds
